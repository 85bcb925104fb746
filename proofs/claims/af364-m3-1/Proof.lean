import JvmDerived
import JvmDerived.Pilot.@@N@@Statement
import JvmDerived.Pilot.@@N@@Code
set_option linter.unusedVariables false
set_option linter.unusedSimpArgs false
namespace Jvm.RoadKit
open Sem ClassFile Op Lib Jvm.Stand Jvm.Free Jvm.LawKit
section New
variable {p : Program} {l : Launch} {e : Env} {R : Room} {s : State} {m : MethodId} {args : Array Value} {below : List Frame} {meth : Method} {c : Code} {T : State} {locs : List Loc} {cells slots : Nat}
theorem retI (X : Stand p l e R s m args below meth c T locs cells slots) (hx : p.tables.exec = Jvm.exec) {pc : Nat} {Ls : Array Slot} {z : Int32} {rest : List Value} (hret : meth.sig.returnType = some .int) (hd : decode c.code pc = .ok (.ireturn, 1)) {fs : List Frame}
    (hl : ∀ (f : JFrame) (acts : List Action), f.method = m → f.locked = none → f.entered = [] → (doReturn e (T.setTop f) acts (some (.int z))).1 = T.setFrames fs) : Steps p.tables e below (T.setTop (mkF m pc Ls (.int z :: rest))) (T.setFrames fs) := by
  have hm' : T.vm.method? m = some meth := X.method'
  have hn : narrow .int (.int z) = .int z := rfl
  show Steps p.tables e below (T.setTop { method := m, pc := pc, locals := Ls, stack := _ :: rest, locked := none }) _
  jvm_step X.here [X.here.top, hx, hd, hm', hret, hn]
  first | (intro acts; rw [hl _ acts rfl rfl rfl]) | rw [hl _ _ rfl rfl rfl]
  exact Steps.refl _
end New
end Jvm.RoadKit
namespace Jvm.Pilot.@@N@@
open Jvm Jvm.ClassFile Sem Op Lib Jvm.Free Jvm.Stand Jvm.LawKit Jvm.RoadKit Bundle Jvm.Pilot.@@N@@.Jvm.D
theorem own_le {a b : Nat} (h : a = b) : 2 * 0 + a ≤ b := by omega
theorem own_m (i : Nat) {d : Jvm.Cond} (h : tables_1[i]? = some d) : d ∈ tables_1 := List.mem_of_getElem? h
/-- from the state T at the frame g the method comes to its return, with Q of what it returns -/
def own_Goes (tb : Tables) (e : Env) (below : List Frame) (s : State) (Q : Option Value → Heap → List Loc → Prop) (rc rs : Nat) (T : State) (g : JFrame) : Prop :=
  ∃ s₂ o, Steps tb e below (T.setTop g) s₂ ∧ s₂.status = .running ∧ Ended s₂ below o ∧ ∃ v L, o = .returned v ∧ Q v s₂.heap L ∧ FrameEnd s o s₂ L rc rs
theorem own_by {tb : Tables} {e : Env} {below : List Frame} {s : State} {Q : Option Value → Heap → List Loc → Prop} {rc rs : Nat} {T T' : State} {g g' : JFrame} (h : ∀ t, Steps tb e below (T'.setTop g') t → Steps tb e below (T.setTop g) t) (k : own_Goes tb e below s Q rc rs T' g') : own_Goes tb e below s Q rc rs T g := by
  obtain ⟨s₂, o, h1, h2⟩ := k
  exact ⟨s₂, o, h _ h1, h2⟩
section OwnRet
variable {p : Program} {l : Launch} {e : Env} {R : Room} {s : State} {m : MethodId} {args : Array Value} {below : List Frame} {meth : Method} {c : Code} {T : State} {locs : List Loc} {cells slots : Nat} {Q : Option Value → Heap → List Loc → Prop} {rc rs : Nat} {pc : Nat} {Ls : Array Slot} {rest : List Value}
theorem own_retI (X : Stand p l e R s m args below meth c T locs cells slots) (hx : p.tables.exec = Jvm.exec) {z : Int32} (hlk : meth.locks = false) (hret : meth.sig.returnType = some .int) (hd : decode c.code pc = .ok (.ireturn, 1)) (hc : cells ≤ rc) (hs : slots ≤ rs)
    (hQ : Q (some (.int z)) T.heap locs) : own_Goes p.tables e below s Q rc rs T (mkF m pc Ls (.int z :: rest)) := by
  obtain ⟨fs, hr, hrun, hended, hW, hsame⟩ := X.leave (v := some (.int z)) (fun h => by rw [hret] at h; cases h)
  exact ⟨_, _, retI X hx hret hd hr, hrun, hended, _, _, rfl, hQ, ⟨_, rfl⟩, hW, hsame.mono hc hs⟩
theorem own_retN (X : Stand p l e R s m args below meth c T locs cells slots) (hx : p.tables.exec = Jvm.exec) {z : Int32} {t : FieldType} (hlk : meth.locks = false) (hret : meth.sig.returnType = some t) (ht : t = .boolean ∨ t = .byte ∨ t = .char ∨ t = .short) (hd : decode c.code pc = .ok (.ireturn, 1)) (hc : cells ≤ rc) (hs : slots ≤ rs)
    (hQ : Q (some (.int (nar t z))) T.heap locs) : own_Goes p.tables e below s Q rc rs T (mkF m pc Ls (.int z :: rest)) := by
  obtain ⟨fs, hr, hrun, hended, hW, hsame⟩ := X.leave (v := some (.int (nar t z))) (fun h => by rw [hret] at h; cases h)
  exact ⟨_, _, retN X hx hret ht hd hr, hrun, hended, _, _, rfl, hQ, ⟨_, rfl⟩, hW, hsame.mono hc hs⟩
theorem own_retV (X : Stand p l e R s m args below meth c T locs cells slots) (hx : p.tables.exec = Jvm.exec) (hlk : meth.locks = false) (hret : meth.sig.returnType = none) (hd : decode c.code pc = .ok (.return_, 1)) (hc : cells ≤ rc) (hs : slots ≤ rs)
    (hQ : Q none T.heap locs) : own_Goes p.tables e below s Q rc rs T (mkF m pc Ls []) := by
  obtain ⟨fs, hr, hrun, hended, hW, hsame⟩ := X.leave (v := none) (fun _ => rfl)
  exact ⟨_, _, X.returnOut hx hret hd hr, hrun, hended, _, _, rfl, hQ, ⟨_, rfl⟩, hW, hsame.mono hc hs⟩
theorem own_retJ (X : Stand p l e R s m args below meth c T locs cells slots) (hx : p.tables.exec = Jvm.exec) {z : Int64} (hlk : meth.locks = false) (hret : meth.sig.returnType = some .long) (hd : decode c.code pc = .ok (.lreturn, 1)) (hc : cells ≤ rc) (hs : slots ≤ rs)
    (hQ : Q (some (.long z)) T.heap locs) : own_Goes p.tables e below s Q rc rs T (mkF m pc Ls (.long z :: rest)) := by
  obtain ⟨fs, hr, hrun, hended, hW, hsame⟩ := X.leave (v := some (.long z)) (fun h => by rw [hret] at h; cases h)
  exact ⟨_, _, retOut X hx hret rfl (Or.inr (Or.inl ⟨rfl, rfl, _, rfl⟩)) hd hr, hrun, hended, _, _, rfl, hQ, ⟨_, rfl⟩, hW, hsame.mono hc hs⟩
theorem own_retA (X : Stand p l e R s m args below meth c T locs cells slots) (hx : p.tables.exec = Jvm.exec) {w : Value} {t : FieldType} (hlk : meth.locks = false) (hret : meth.sig.returnType = some t) (ht : t.isReference = true) (hw : w.isRef = true) (hn : narrow t w = w) (hd : decode c.code pc = .ok (.areturn, 1)) (hc : cells ≤ rc) (hs : slots ≤ rs)
    (hQ : Q (some w) T.heap locs) : own_Goes p.tables e below s Q rc rs T (mkF m pc Ls (w :: rest)) := by
  obtain ⟨fs, hr, hrun, hended, hW, hsame⟩ := X.leave (v := some w) (fun h => by rw [hret] at h; cases h)
  exact ⟨_, _, retOut X hx hret hn (Or.inr (Or.inr (Or.inr (Or.inr ⟨rfl, ht, hw⟩)))) hd hr, hrun, hended, _, _, rfl, hQ, ⟨_, rfl⟩, hW, hsame.mono hc hs⟩
end OwnRet
theorem own_nsE {Z : State} {h : Heap} {a : Addr} {C : String} (E : Exa Z h a C) : ∃ c : Cell, h[a]? = some c ∧ c.vm.isStatics = false := by
  obtain ⟨c, k, h1, -, -, h4, -⟩ := E
  exact ⟨c, h1, h4⟩
theorem own_nsV {Z : State} {h : Heap} {a : Addr} {k : ClassId} {ty : FieldType} {n : Int32} {vs : List Value} {d : Value} (F : Arv Z h a k ty n vs d) : ∃ c : Cell, h[a]? = some c ∧ c.vm.isStatics = false := by
  obtain ⟨c, A, -⟩ := F
  exact ⟨c, A.1, A.plain⟩
theorem own_staKeep {Z : State} {h h' : Heap} {C n d : String} {v : Value} {ws : List Addr} (S : Sta Z h C n d v) (K : Keep h h' ws) (q : ∀ x ∈ ws, ∃ c : Cell, h[x]? = some c ∧ c.vm.isStatics = false) : Sta Z h' C n d v := by
  obtain ⟨cf, i, k, f, st, cell, h1, h2, h3, h4, h5, h6, h7⟩ := S
  refine ⟨cf, i, k, f, st, cell, h1, h2, h3, h4, K.2.1 st cell h5 (fun hin => ?_), h6, h7⟩
  obtain ⟨c, hc, hs⟩ := q st hin
  rw [h5] at hc
  cases hc
  rw [h6] at hs
  cases hs
theorem own_arrKeep {Z : State} {h h' : Heap} {a : Addr} {c : Cell} {ty : FieldType} {ws : List Addr} (A : Arr Z h a c ty) (K : Keep h h' ws) (q : a ∉ ws) : Arr Z h' a c ty := ⟨K.2.1 a c A.1 q, A.2⟩
/-- own_Goes for a method that may intern String constants -/
def own_GoesW (tb : Tables) (e : Env) (below : List Frame) (s : State) (Q : Option Value → Heap → List Loc → Prop) (rc rs : Nat) (T : State) (g : JFrame) : Prop :=
  ∃ s₂ o, Steps tb e below (T.setTop g) s₂ ∧ s₂.status = .running ∧ Ended s₂ below o ∧ ∃ v L, o = .returned v ∧ Q v s₂.heap L ∧ ReturnedEndW s o s₂ L rc rs
theorem own_byW {tb : Tables} {e : Env} {below : List Frame} {s : State} {Q : Option Value → Heap → List Loc → Prop} {rc rs : Nat} {T T' : State} {g g' : JFrame} (h : ∀ t, Steps tb e below (T'.setTop g') t → Steps tb e below (T.setTop g) t) (k : own_GoesW tb e below s Q rc rs T' g') : own_GoesW tb e below s Q rc rs T g := by
  obtain ⟨s₂, o, h1, h2⟩ := k
  exact ⟨s₂, o, h _ h1, h2⟩
theorem own_endW {s : State} {vm0 : Vm} {k0 : Nat} {T : State} {fs : List Frame} {v : Option Value} {L : List Loc} {cells slots rc rs : Nat} (hS : s.Since vm0 k0) (hk : k0 ≤ T.heap.size) (hW : (s.setVm vm0).WarmedH (T.setFrames fs).vm) (hsame : (s.setVm vm0).sameButNew ({ T.setFrames fs with vm := (s.setVm vm0).vm } : State) L cells slots) (hc : cells ≤ rc) (hs : slots ≤ rs) : ReturnedEndW s (.returned v) (T.setFrames fs) L rc rs := by
  have q : s.Since (T.setFrames fs).vm T.heap.size := hS.trans (hW.since _) hk
  exact ⟨⟨v, rfl⟩, q.1, q.2, (hsame.setVm s.vm).mono hc hs⟩
section OwnRetW
variable {p : Program} {l : Launch} {e : Env} {R : Room} {s : State} {vm0 : Vm} {k0 : Nat} {m : MethodId} {args : Array Value} {below : List Frame} {meth : Method} {c : Code} {T : State} {locs : List Loc} {cells slots : Nat} {Q : Option Value → Heap → List Loc → Prop} {rc rs : Nat} {pc : Nat} {Ls : Array Slot} {rest : List Value}
theorem own_retNW (X : Stand p l e R (s.setVm vm0) m args below meth c T locs cells slots) (hS : s.Since vm0 k0) (hk : k0 ≤ T.heap.size) (hx : p.tables.exec = Jvm.exec) {z : Int32} {t : FieldType} (hlk : meth.locks = false) (hret : meth.sig.returnType = some t) (ht : t = .boolean ∨ t = .byte ∨ t = .char ∨ t = .short) (hd : decode c.code pc = .ok (.ireturn, 1)) (hc : cells ≤ rc) (hs : slots ≤ rs)
    (hQ : Q (some (.int (nar t z))) T.heap locs) : own_GoesW p.tables e below s Q rc rs T (mkF m pc Ls (.int z :: rest)) := by
  obtain ⟨fs, hr, hrun, hended, hW, hsame⟩ := X.leave (v := some (.int (nar t z))) (fun h => by rw [hret] at h; cases h)
  exact ⟨_, _, retN X hx hret ht hd hr, hrun, hended, _, _, rfl, hQ, own_endW hS hk hW hsame hc hs⟩
theorem own_retAW (X : Stand p l e R (s.setVm vm0) m args below meth c T locs cells slots) (hS : s.Since vm0 k0) (hk : k0 ≤ T.heap.size) (hx : p.tables.exec = Jvm.exec) {w : Value} {t : FieldType} (hlk : meth.locks = false) (hret : meth.sig.returnType = some t) (ht : t.isReference = true) (hw : w.isRef = true) (hn : narrow t w = w) (hd : decode c.code pc = .ok (.areturn, 1)) (hc : cells ≤ rc) (hs : slots ≤ rs)
    (hQ : Q (some w) T.heap locs) : own_GoesW p.tables e below s Q rc rs T (mkF m pc Ls (w :: rest)) := by
  obtain ⟨fs, hr, hrun, hended, hW, hsame⟩ := X.leave (v := some w) (fun h => by rw [hret] at h; cases h)
  exact ⟨_, _, retOut X hx hret hn (Or.inr (Or.inr (Or.inr (Or.inr ⟨rfl, ht, hw⟩)))) hd hr, hrun, hended, _, _, rfl, hQ, own_endW hS hk hW hsame hc hs⟩
theorem own_retVW (X : Stand p l e R (s.setVm vm0) m args below meth c T locs cells slots) (hS : s.Since vm0 k0) (hk : k0 ≤ T.heap.size) (hx : p.tables.exec = Jvm.exec) (hlk : meth.locks = false) (hret : meth.sig.returnType = none) (hd : decode c.code pc = .ok (.return_, 1)) (hc : cells ≤ rc) (hs : slots ≤ rs)
    (hQ : Q none T.heap locs) : own_GoesW p.tables e below s Q rc rs T (mkF m pc Ls []) := by
  obtain ⟨fs, hr, hrun, hended, hW, hsame⟩ := X.leave (v := none) (fun _ => rfl)
  exact ⟨_, _, X.returnOut hx hret hd hr, hrun, hended, _, _, rfl, hQ, own_endW hS hk hW hsame hc hs⟩
end OwnRetW
theorem own_str {Z : State} {a0 : Array Value} (hw : ∀ d ∈ tables_1, d.before a0 Z = true) (h : ∀ d ∈ Bundle.stringAtoms, d ∈ tables_1) : ∀ d ∈ Bundle.stringAtoms, d.before a0 Z = true := fun d hd => hw d (h d hd)

def own_u (ch y : Int64) : Int32 := if y < ch then 0 else 1
def own_max (y w : Int64) : Int64 := if y < w then w else y
theorem own_u_self (ch : Int64) : ¬ own_u ch ch = 0 := by
  unfold own_u
  rw [if_neg (fun h => by rw [Int64.lt_iff_toInt_lt] at h; omega)]
  decide
theorem own_u_below {ch : Int64} (h : ¬ ch = (-9223372036854775808 : Int64)) : own_u ch (ch - (1 : Int64)) = 0 := by
  unfold own_u
  rw [if_pos]
  rw [Int64.lt_iff_toInt_lt]
  have h1 := c_lsub ch 1
  have r1 := rng64 ch
  have r2 := rng64 (ch - 1)
  have e1 : (1 : Int64).toInt = 1 := by decide
  have e2 : ch.toInt ≠ -9223372036854775808 := fun q => h (Int64.toInt_inj.mp (by rw [q]; decide))
  rw [e1] at h1
  omega
theorem own_and3 (x : Int32) : x &&& (3 : Int32) = 0 ∨ x &&& (3 : Int32) = 1 ∨ x &&& (3 : Int32) = 2 ∨ x &&& (3 : Int32) = 3 := by
  have h := c_mask x 3 2 (by decide) (by decide)
  have h2 : (x &&& (3 : Int32)).toInt = 0 ∨ (x &&& (3 : Int32)).toInt = 1 ∨ (x &&& (3 : Int32)).toInt = 2 ∨ (x &&& (3 : Int32)).toInt = 3 := by omega
  rcases h2 with h | h | h | h
  · exact Or.inl (Int32.toInt_inj.mp h)
  · exact Or.inr (Or.inl (Int32.toInt_inj.mp h))
  · exact Or.inr (Or.inr (Or.inl (Int32.toInt_inj.mp h)))
  · exact Or.inr (Or.inr (Or.inr (Int32.toInt_inj.mp h)))

theorem pn_java_util_AbstractCollection : plainName "java/util/AbstractCollection" = true := by first | (simp [plainName, overriddenIn]; done) | decide +kernel
theorem ef_5 (m : MethodId) (ob : Addr) : entryFrame m #[(.ref ob)] 1 = mkF m 0 #[.val (.ref ob)] [] := by first | (simp [entryFrame, mkF, argsToLocals, Value.category]; done) | rfl
theorem d5_0 : decode jdk_22_method_1_code 0 = .ok (.aload_n 0, 1) := by decide +kernel
theorem d5_1 : decode jdk_22_method_1_code 1 = .ok (.invokespecial 1, 3) := by decide +kernel
theorem d5_4 : decode jdk_22_method_1_code 4 = .ok (.return_, 1) := by decide +kernel
def Q5 (Z : State) (ob : Addr) (h0 : Heap) (n0 : Nat) (v : Option Value) (h : Heap) (L : List Loc) : Prop := v = none ∧ Fr n0 L ∧ h = h0
set_option maxRecDepth 65536 in
set_option maxHeartbeats 40000000 in
theorem rm5 (l : Launch) (Z : State) (a0 : Array Value) (hw : ∀ d ∈ tables_1, d.before a0 Z = true) (ws : List Jvm.Cond) (ob : Addr) (h0 : Heap) (n0 : Nat) (Zle : n0 ≤ h0.size) :
    MetFree l (⟨"java/util/AbstractCollection", "<init>", "()V"⟩ : MethodName) (head1 (Jvm.Cond.code (⟨"java/util/AbstractCollection", "<init>", "()V"⟩ : MethodName) jdk_22_method_1_code 1 none :: ws) ({ frames := 1, cells := 0, slots := 0, locals := 12 } : Room)) (fun a U => a = #[(.ref ob)] ∧ Z.Warmed39 U.vm ∧ U.heap = h0) (fun _ _ _ _ _ => True) (fun _ U o U' => ∃ v L, o = .returned v ∧ Q5 Z ob h0 n0 v U'.heap L ∧ FrameEnd U o U' L ({ frames := 1, cells := 0, slots := 0, locals := 12 } : Room).cells ({ frames := 1, cells := 0, slots := 0, locals := 12 } : Room).slots) := by
  refine MetFree.of_bodySF (plainFor_of_name pn_java_util_AbstractCollection) hisR ?_
  intro p e s m args below meth c s₁ Bd hml0 hP hK
  obtain ⟨rfl, hZ, hh⟩ := hP
  have hx := Bd.exec
  have hby := Bd.bytes
  have hml : c.maxLocals = 1 := hml0
  have hown : s.vm.findClass "java/util/AbstractCollection" = some m.cls := findClass_of_methodNamed Bd.named
  have hnm := (name_of_methodNamed Bd.named Bd.method).1
  have X0 : Stand p l e ({ frames := 1, cells := 0, slots := 0, locals := 12 } : Room) s m #[(.ref ob)] below meth c s₁ [] 0 0 := Stand.of_body Bd
  have e0 : s₁.heap = h0 := by rw [← hh, Bd.state]; rfl
  have N_ := Fr.nil n0
  have K_ := Keep.refl h0 []
  show own_Goes p.tables e below s (Q5 Z ob h0 n0) ({ frames := 1, cells := 0, slots := 0, locals := 12 } : Room).cells ({ frames := 1, cells := 0, slots := 0, locals := 12 } : Room).slots s₁ (entryFrame m #[(.ref ob)] 1)
  refine own_by (T' := s₁) (g' := (mkF m 0 #[.val (.ref ob)] [])) (fun t k => castTop (ef_5 m ob) k) ?_
  refine own_by (T' := s₁) (g' := (mkF m 1 #[.val (.ref ob)] [(.ref ob)])) (fun t k => XS.aloadN X0.here hx rfl (hb hby d5_0) rfl rfl k) ?_
  obtain ⟨T1, X1, e1, st1⟩ := initO X0 hx hZ hown (hw _ (own_m 46 rfl)) (hw _ (own_m 15 rfl)) (hw _ (own_m 16 rfl)) e0 (g := (mkF m 1 #[.val (.ref ob)] [(.ref ob)])) rfl (by rw [hml]; rfl) rfl (hb hby d5_1) (by decide) (W := 0) (own_le rfl) (by decide)
  refine own_by (T' := T1) (g' := (mkF m 4 #[.val (.ref ob)] [])) (fun t k => st1 t k) ?_
  exact own_retV X1 hx Bd.notSynchronized Bd.returns (hb hby d5_4) (by decide) (by decide) (by rw [e1]; exact ⟨rfl, N_, rfl⟩)

theorem pn_com_example_hermit_crab_hermitcrab_engine_KeyIndex : plainName "com/example/hermit_crab/hermitcrab/engine/KeyIndex" = true := by first | (simp [plainName, overriddenIn]; done) | decide +kernel
theorem ef_3 (m : MethodId) (ob : Addr) : entryFrame m #[(.ref ob)] 1 = mkF m 0 #[.val (.ref ob)] [] := by first | (simp [entryFrame, mkF, argsToLocals, Value.category]; done) | rfl
theorem d3_0 : decode prog_9_method_1_code 0 = .ok (.aload_n 0, 1) := by decide +kernel
theorem d3_1 : decode prog_9_method_1_code 1 = .ok (.invokespecial 1, 3) := by decide +kernel
theorem d3_4 : decode prog_9_method_1_code 4 = .ok (.aload_n 0, 1) := by decide +kernel
theorem d3_5 : decode prog_9_method_1_code 5 = .ok (.bipush 16, 2) := by decide +kernel
theorem d3_7 : decode prog_9_method_1_code 7 = .ok (.anewarray 2, 3) := by decide +kernel
theorem d3_10 : decode prog_9_method_1_code 10 = .ok (.putfield 9, 3) := by decide +kernel
theorem d3_13 : decode prog_9_method_1_code 13 = .ok (.aload_n 0, 1) := by decide +kernel
theorem d3_14 : decode prog_9_method_1_code 14 = .ok (.bipush 16, 2) := by decide +kernel
theorem d3_16 : decode prog_9_method_1_code 16 = .ok (.anewarray 2, 3) := by decide +kernel
theorem d3_19 : decode prog_9_method_1_code 19 = .ok (.putfield 13, 3) := by decide +kernel
theorem d3_22 : decode prog_9_method_1_code 22 = .ok (.aload_n 0, 1) := by decide +kernel
theorem d3_23 : decode prog_9_method_1_code 23 = .ok (.bipush 16, 2) := by decide +kernel
theorem d3_25 : decode prog_9_method_1_code 25 = .ok (.anewarray 2, 3) := by decide +kernel
theorem d3_28 : decode prog_9_method_1_code 28 = .ok (.putfield 16, 3) := by decide +kernel
theorem d3_31 : decode prog_9_method_1_code 31 = .ok (.return_, 1) := by decide +kernel
def Q3 (Z : State) (ob : Addr) (h0 : Heap) (n0 : Nat) (v : Option Value) (h : Heap) (L : List Loc) : Prop := v = none ∧ Fr n0 L ∧ Keep h0 h [ob]
set_option maxRecDepth 65536 in
set_option maxHeartbeats 40000000 in
theorem rm3 (l : Launch) (Z : State) (a0 : Array Value) (hw : ∀ d ∈ tables_1, d.before a0 Z = true) (ws : List Jvm.Cond) (ob : Addr) (h0 : Heap) (n0 : Nat) (Zle : n0 ≤ h0.size) (E_ob : Exa Z h0 ob "com/example/hermit_crab/hermitcrab/engine/KeyIndex") (g_ob : n0 ≤ ob) (F_firsts_ob : Fld Z h0 ob "com/example/hermit_crab/hermitcrab/engine/KeyIndex" "firsts" "[Ljava/lang/Object;" .null) (F_lasts_ob : Fld Z h0 ob "com/example/hermit_crab/hermitcrab/engine/KeyIndex" "lasts" "[Ljava/lang/Object;" .null) (F_before_ob : Fld Z h0 ob "com/example/hermit_crab/hermitcrab/engine/KeyIndex" "before" "[Ljava/lang/Object;" .null) :
    MetFree l (⟨"com/example/hermit_crab/hermitcrab/engine/KeyIndex", "<init>", "()V"⟩ : MethodName) (head1 (Jvm.Cond.code (⟨"com/example/hermit_crab/hermitcrab/engine/KeyIndex", "<init>", "()V"⟩ : MethodName) prog_9_method_1_code 1 none :: ws) ({ frames := 1, cells := 3, slots := 48, locals := 12 } : Room)) (fun a U => a = #[(.ref ob)] ∧ Z.Warmed39 U.vm ∧ U.heap = h0) (fun _ _ _ _ _ => True) (fun _ U o U' => ∃ v L, o = .returned v ∧ Q3 Z ob h0 n0 v U'.heap L ∧ FrameEnd U o U' L ({ frames := 1, cells := 3, slots := 48, locals := 12 } : Room).cells ({ frames := 1, cells := 3, slots := 48, locals := 12 } : Room).slots) := by
  refine MetFree.of_bodySF (plainFor_of_name pn_com_example_hermit_crab_hermitcrab_engine_KeyIndex) hisR ?_
  intro p e s m args below meth c s₁ Bd hml0 hP hK
  obtain ⟨rfl, hZ, hh⟩ := hP
  have hx := Bd.exec
  have hby := Bd.bytes
  have hml : c.maxLocals = 1 := hml0
  have hown : s.vm.findClass "com/example/hermit_crab/hermitcrab/engine/KeyIndex" = some m.cls := findClass_of_methodNamed Bd.named
  have hnm := (name_of_methodNamed Bd.named Bd.method).1
  have X0 : Stand p l e ({ frames := 1, cells := 3, slots := 48, locals := 12 } : Room) s m #[(.ref ob)] below meth c s₁ [] 0 0 := Stand.of_body Bd
  have e0 : s₁.heap = h0 := by rw [← hh, Bd.state]; rfl
  have N_ := Fr.nil n0
  have K_ := Keep.refl h0 [ob]
  show own_Goes p.tables e below s (Q3 Z ob h0 n0) ({ frames := 1, cells := 3, slots := 48, locals := 12 } : Room).cells ({ frames := 1, cells := 3, slots := 48, locals := 12 } : Room).slots s₁ (entryFrame m #[(.ref ob)] 1)
  refine own_by (T' := s₁) (g' := (mkF m 0 #[.val (.ref ob)] [])) (fun t k => castTop (ef_3 m ob) k) ?_
  refine own_by (T' := s₁) (g' := (mkF m 1 #[.val (.ref ob)] [(.ref ob)])) (fun t k => XS.aloadN X0.here hx rfl (hb hby d3_0) rfl rfl k) ?_
  obtain ⟨T1, X1, e1, st1⟩ := initO X0 hx hZ hown (hw _ (own_m 23 rfl)) (hw _ (own_m 15 rfl)) (hw _ (own_m 16 rfl)) e0 (g := (mkF m 1 #[.val (.ref ob)] [(.ref ob)])) rfl (by rw [hml]; rfl) rfl (hb hby d3_1) (by decide) (W := 0) (own_le rfl) (by decide)
  refine own_by (T' := T1) (g' := (mkF m 4 #[.val (.ref ob)] [])) (fun t k => st1 t k) ?_
  refine own_by (T' := T1) (g' := (mkF m 5 #[.val (.ref ob)] [(.ref ob)])) (fun t k => XS.aloadN X1.here hx rfl (hb hby d3_4) rfl rfl k) ?_
  refine own_by (T' := T1) (g' := (mkF m 7 #[.val (.ref ob)] [(.int 16), (.ref ob)])) (fun t k => XS.bipush X1.here hx rfl (hb hby d3_5) k) ?_
  obtain ⟨T2, h2, k2, X2, e2, E2, A2, AE2, O2, st2⟩ := newRE X1 hx hZ hown (hw _ (own_m 24 rfl)) (hw _ (own_m 25 rfl)) e1 (g := (mkF m 7 #[.val (.ref ob)] [(.int 16), (.ref ob)])) rfl (hb hby d3_7) rfl (by decide) (cap := 16) (by decide) (by decide) (by decide) (by decide) (ad := "[Ljava/lang/Object;") (by decide)
  obtain ⟨b2, g2⟩ : ∃ z, z = h0.size := ⟨_, rfl⟩
  rw [← g2] at A2 AE2 st2
  have ne_ob_b2 : ob ≠ b2 := Nat.ne_of_lt (Nat.lt_of_lt_of_eq E_ob.lt g2.symm)
  have g_b2 : n0 ≤ b2 := Nat.le_trans Zle (Nat.le_of_eq g2.symm)
  have sz_b2 : h0.size ≤ b2 := Nat.le_trans K_.1 (Nat.le_of_eq g2.symm)
  have E_ob := E_ob.ext E2
  have F_firsts_ob := F_firsts_ob.ext E2
  have F_lasts_ob := F_lasts_ob.ext E2
  have F_before_ob := F_before_ob.ext E2
  have Zle := Nat.le_trans Zle E2.1
  have K_ := K_.ext E2
  have E_b2 := AE2
  refine own_by (T' := T2) (g' := (mkF m 10 #[.val (.ref ob)] [(.ref b2), (.ref ob)])) (fun t k => st2 t k) ?_
  obtain ⟨T3, h3, X3, e3, W3, st3⟩ := putF X2 hx hZ hown (host := "") (Or.inl (hw _ (own_m 26 rfl))) Via.refl e2 F_firsts_ob E_ob (Or.inr ⟨(hw _ (own_m 27 rfl)), rfl, hnm⟩) (hw _ (own_m 18 rfl)) (ty := (.array (.object "java/lang/Object"))) (by decide) rfl rfl (g := (mkF m 10 #[.val (.ref ob)] [(.ref b2), (.ref ob)])) rfl rfl (hb hby d3_10)
  have F_firsts_ob_ := F_firsts_ob.same W3
  have E_ob := E_ob.wr W3
  have F_lasts_ob := F_lasts_ob.other W3 (Or.inr (slot_ne (Or.inr (hw _ (own_m 29 rfl))) (Or.inr (hw _ (own_m 27 rfl))) (by decide) (t := (.array (.object "java/lang/Object"))) (t' := (.array (.object "java/lang/Object"))) (by decide) (by decide)))
  have F_before_ob := F_before_ob.other W3 (Or.inr (slot_ne (Or.inr (hw _ (own_m 31 rfl))) (Or.inr (hw _ (own_m 27 rfl))) (by decide) (t := (.array (.object "java/lang/Object"))) (t' := (.array (.object "java/lang/Object"))) (by decide) (by decide)))
  have Zle := Nat.le_trans Zle (Keep.of_wr W3).1
  have K_ := K_.wr W3 (Or.inl (List.mem_of_getElem? (i := 0) rfl))
  have E_b2 := E_b2.wr W3
  have F_firsts_ob := F_firsts_ob_
  have N_ := Fr.snoc X3 N_ g_ob
  refine own_by (T' := T3) (g' := (mkF m 13 #[.val (.ref ob)] [])) (fun t k => st3 t k) ?_
  refine own_by (T' := T3) (g' := (mkF m 14 #[.val (.ref ob)] [(.ref ob)])) (fun t k => XS.aloadN X3.here hx rfl (hb hby d3_13) rfl rfl k) ?_
  refine own_by (T' := T3) (g' := (mkF m 16 #[.val (.ref ob)] [(.int 16), (.ref ob)])) (fun t k => XS.bipush X3.here hx rfl (hb hby d3_14) k) ?_
  obtain ⟨T4, h4, k4, X4, e4, E4, A4, AE4, O4, st4⟩ := newRE X3 hx hZ hown (hw _ (own_m 24 rfl)) (hw _ (own_m 25 rfl)) e3 (g := (mkF m 16 #[.val (.ref ob)] [(.int 16), (.ref ob)])) rfl (hb hby d3_16) rfl (by decide) (cap := 16) (by decide) (by decide) (by decide) (by decide) (ad := "[Ljava/lang/Object;") (by decide)
  obtain ⟨b4, g4⟩ : ∃ z, z = h3.size := ⟨_, rfl⟩
  rw [← g4] at A4 AE4 st4
  have ne_ob_b4 : ob ≠ b4 := Nat.ne_of_lt (Nat.lt_of_lt_of_eq E_ob.lt g4.symm)
  have ne_b2_b4 : b2 ≠ b4 := Nat.ne_of_lt (Nat.lt_of_lt_of_eq E_b2.lt g4.symm)
  have g_b4 : n0 ≤ b4 := Nat.le_trans Zle (Nat.le_of_eq g4.symm)
  have sz_b4 : h0.size ≤ b4 := Nat.le_trans K_.1 (Nat.le_of_eq g4.symm)
  have E_ob := E_ob.ext E4
  have F_lasts_ob := F_lasts_ob.ext E4
  have F_before_ob := F_before_ob.ext E4
  have Zle := Nat.le_trans Zle E4.1
  have K_ := K_.ext E4
  have E_b2 := E_b2.ext E4
  have F_firsts_ob := F_firsts_ob.ext E4
  have E_b4 := AE4
  refine own_by (T' := T4) (g' := (mkF m 19 #[.val (.ref ob)] [(.ref b4), (.ref ob)])) (fun t k => st4 t k) ?_
  obtain ⟨T5, h5, X5, e5, W5, st5⟩ := putF X4 hx hZ hown (host := "") (Or.inl (hw _ (own_m 28 rfl))) Via.refl e4 F_lasts_ob E_ob (Or.inr ⟨(hw _ (own_m 29 rfl)), rfl, hnm⟩) (hw _ (own_m 18 rfl)) (ty := (.array (.object "java/lang/Object"))) (by decide) rfl rfl (g := (mkF m 19 #[.val (.ref ob)] [(.ref b4), (.ref ob)])) rfl rfl (hb hby d3_19)
  have F_lasts_ob_ := F_lasts_ob.same W5
  have E_ob := E_ob.wr W5
  have F_before_ob := F_before_ob.other W5 (Or.inr (slot_ne (Or.inr (hw _ (own_m 31 rfl))) (Or.inr (hw _ (own_m 29 rfl))) (by decide) (t := (.array (.object "java/lang/Object"))) (t' := (.array (.object "java/lang/Object"))) (by decide) (by decide)))
  have Zle := Nat.le_trans Zle (Keep.of_wr W5).1
  have K_ := K_.wr W5 (Or.inl (List.mem_of_getElem? (i := 0) rfl))
  have E_b2 := E_b2.wr W5
  have F_firsts_ob := F_firsts_ob.other W5 (Or.inr (slot_ne (Or.inr (hw _ (own_m 27 rfl))) (Or.inr (hw _ (own_m 29 rfl))) (by decide) (t := (.array (.object "java/lang/Object"))) (t' := (.array (.object "java/lang/Object"))) (by decide) (by decide)))
  have E_b4 := E_b4.wr W5
  have F_lasts_ob := F_lasts_ob_
  have N_ := Fr.snoc X5 N_ g_ob
  refine own_by (T' := T5) (g' := (mkF m 22 #[.val (.ref ob)] [])) (fun t k => st5 t k) ?_
  refine own_by (T' := T5) (g' := (mkF m 23 #[.val (.ref ob)] [(.ref ob)])) (fun t k => XS.aloadN X5.here hx rfl (hb hby d3_22) rfl rfl k) ?_
  refine own_by (T' := T5) (g' := (mkF m 25 #[.val (.ref ob)] [(.int 16), (.ref ob)])) (fun t k => XS.bipush X5.here hx rfl (hb hby d3_23) k) ?_
  obtain ⟨T6, h6, k6, X6, e6, E6, A6, AE6, O6, st6⟩ := newRE X5 hx hZ hown (hw _ (own_m 24 rfl)) (hw _ (own_m 25 rfl)) e5 (g := (mkF m 25 #[.val (.ref ob)] [(.int 16), (.ref ob)])) rfl (hb hby d3_25) rfl (by decide) (cap := 16) (by decide) (by decide) (by decide) (by decide) (ad := "[Ljava/lang/Object;") (by decide)
  obtain ⟨b6, g6⟩ : ∃ z, z = h5.size := ⟨_, rfl⟩
  rw [← g6] at A6 AE6 st6
  have ne_ob_b6 : ob ≠ b6 := Nat.ne_of_lt (Nat.lt_of_lt_of_eq E_ob.lt g6.symm)
  have ne_b2_b6 : b2 ≠ b6 := Nat.ne_of_lt (Nat.lt_of_lt_of_eq E_b2.lt g6.symm)
  have ne_b4_b6 : b4 ≠ b6 := Nat.ne_of_lt (Nat.lt_of_lt_of_eq E_b4.lt g6.symm)
  have g_b6 : n0 ≤ b6 := Nat.le_trans Zle (Nat.le_of_eq g6.symm)
  have sz_b6 : h0.size ≤ b6 := Nat.le_trans K_.1 (Nat.le_of_eq g6.symm)
  have E_ob := E_ob.ext E6
  have F_before_ob := F_before_ob.ext E6
  have Zle := Nat.le_trans Zle E6.1
  have K_ := K_.ext E6
  have E_b2 := E_b2.ext E6
  have F_firsts_ob := F_firsts_ob.ext E6
  have E_b4 := E_b4.ext E6
  have F_lasts_ob := F_lasts_ob.ext E6
  have E_b6 := AE6
  refine own_by (T' := T6) (g' := (mkF m 28 #[.val (.ref ob)] [(.ref b6), (.ref ob)])) (fun t k => st6 t k) ?_
  obtain ⟨T7, h7, X7, e7, W7, st7⟩ := putF X6 hx hZ hown (host := "") (Or.inl (hw _ (own_m 30 rfl))) Via.refl e6 F_before_ob E_ob (Or.inr ⟨(hw _ (own_m 31 rfl)), rfl, hnm⟩) (hw _ (own_m 18 rfl)) (ty := (.array (.object "java/lang/Object"))) (by decide) rfl rfl (g := (mkF m 28 #[.val (.ref ob)] [(.ref b6), (.ref ob)])) rfl rfl (hb hby d3_28)
  have F_before_ob_ := F_before_ob.same W7
  have E_ob := E_ob.wr W7
  have Zle := Nat.le_trans Zle (Keep.of_wr W7).1
  have K_ := K_.wr W7 (Or.inl (List.mem_of_getElem? (i := 0) rfl))
  have E_b2 := E_b2.wr W7
  have F_firsts_ob := F_firsts_ob.other W7 (Or.inr (slot_ne (Or.inr (hw _ (own_m 27 rfl))) (Or.inr (hw _ (own_m 31 rfl))) (by decide) (t := (.array (.object "java/lang/Object"))) (t' := (.array (.object "java/lang/Object"))) (by decide) (by decide)))
  have E_b4 := E_b4.wr W7
  have F_lasts_ob := F_lasts_ob.other W7 (Or.inr (slot_ne (Or.inr (hw _ (own_m 29 rfl))) (Or.inr (hw _ (own_m 31 rfl))) (by decide) (t := (.array (.object "java/lang/Object"))) (t' := (.array (.object "java/lang/Object"))) (by decide) (by decide)))
  have E_b6 := E_b6.wr W7
  have F_before_ob := F_before_ob_
  have N_ := Fr.snoc X7 N_ g_ob
  refine own_by (T' := T7) (g' := (mkF m 31 #[.val (.ref ob)] [])) (fun t k => st7 t k) ?_
  exact own_retV X7 hx Bd.notSynchronized Bd.returns (hb hby d3_31) (by decide) (by decide) (by rw [e7]; exact ⟨rfl, N_, K_⟩)

theorem pn_java_util_ArrayDeque : plainName "java/util/ArrayDeque" = true := by first | (simp [plainName, overriddenIn]; done) | decide +kernel
theorem ef_4 (m : MethodId) (ob : Addr) : entryFrame m #[(.ref ob)] 1 = mkF m 0 #[.val (.ref ob)] [] := by first | (simp [entryFrame, mkF, argsToLocals, Value.category]; done) | rfl
theorem d4_0 : decode jdk_21_method_3_code 0 = .ok (.aload_n 0, 1) := by decide +kernel
theorem d4_1 : decode jdk_21_method_3_code 1 = .ok (.invokespecial 42, 3) := by decide +kernel
theorem pd_1 : parseMethodDescriptor "()V" = some ⟨[], none⟩ := by decide +kernel
theorem d4_4 : decode jdk_21_method_3_code 4 = .ok (.aload_n 0, 1) := by decide +kernel
theorem d4_5 : decode jdk_21_method_3_code 5 = .ok (.bipush 17, 2) := by decide +kernel
theorem d4_7 : decode jdk_21_method_3_code 7 = .ok (.anewarray 47, 3) := by decide +kernel
theorem d4_10 : decode jdk_21_method_3_code 10 = .ok (.putfield 3, 3) := by decide +kernel
theorem d4_13 : decode jdk_21_method_3_code 13 = .ok (.return_, 1) := by decide +kernel
def Q4 (Z : State) (ob : Addr) (h0 : Heap) (n0 : Nat) (v : Option Value) (h : Heap) (L : List Loc) : Prop := v = none ∧ Fr n0 L ∧ Keep h0 h [ob]
set_option maxRecDepth 65536 in
set_option maxHeartbeats 40000000 in
theorem rm4 (l : Launch) (Z : State) (a0 : Array Value) (hw : ∀ d ∈ tables_1, d.before a0 Z = true) (ws : List Jvm.Cond) (ob : Addr) (h0 : Heap) (n0 : Nat) (Zle : n0 ≤ h0.size) (E_ob : Exa Z h0 ob "java/util/ArrayDeque") (g_ob : n0 ≤ ob) (F_elements_ob : Fld Z h0 ob "java/util/ArrayDeque" "elements" "[Ljava/lang/Object;" .null) :
    MetFree l (⟨"java/util/ArrayDeque", "<init>", "()V"⟩ : MethodName) (head1 (Jvm.Cond.code (⟨"java/util/ArrayDeque", "<init>", "()V"⟩ : MethodName) jdk_21_method_3_code 1 none :: ws) ({ frames := 2, cells := 1, slots := 17, locals := 24 } : Room)) (fun a U => a = #[(.ref ob)] ∧ Z.Warmed39 U.vm ∧ U.heap = h0) (fun _ _ _ _ _ => True) (fun _ U o U' => ∃ v L, o = .returned v ∧ Q4 Z ob h0 n0 v U'.heap L ∧ FrameEnd U o U' L ({ frames := 2, cells := 1, slots := 17, locals := 24 } : Room).cells ({ frames := 2, cells := 1, slots := 17, locals := 24 } : Room).slots) := by
  refine MetFree.of_bodySF (plainFor_of_name pn_java_util_ArrayDeque) hisR ?_
  intro p e s m args below meth c s₁ Bd hml0 hP hK
  obtain ⟨rfl, hZ, hh⟩ := hP
  have hx := Bd.exec
  have hby := Bd.bytes
  have hml : c.maxLocals = 1 := hml0
  have hown : s.vm.findClass "java/util/ArrayDeque" = some m.cls := findClass_of_methodNamed Bd.named
  have hnm := (name_of_methodNamed Bd.named Bd.method).1
  have X0 : Stand p l e ({ frames := 2, cells := 1, slots := 17, locals := 24 } : Room) s m #[(.ref ob)] below meth c s₁ [] 0 0 := Stand.of_body Bd
  have e0 : s₁.heap = h0 := by rw [← hh, Bd.state]; rfl
  have N_ := Fr.nil n0
  have K_ := Keep.refl h0 [ob]
  show own_Goes p.tables e below s (Q4 Z ob h0 n0) ({ frames := 2, cells := 1, slots := 17, locals := 24 } : Room).cells ({ frames := 2, cells := 1, slots := 17, locals := 24 } : Room).slots s₁ (entryFrame m #[(.ref ob)] 1)
  refine own_by (T' := s₁) (g' := (mkF m 0 #[.val (.ref ob)] [])) (fun t k => castTop (ef_4 m ob) k) ?_
  refine own_by (T' := s₁) (g' := (mkF m 1 #[.val (.ref ob)] [(.ref ob)])) (fun t k => XS.aloadN X0.here hx rfl (hb hby d4_0) rfl rfl k) ?_
  obtain ⟨_, _, ⟨T1, L1, k1, n1⟩, -, X1, ⟨Lc1, hQ1, l1, y1, z1⟩, st1⟩ := X0.specialBack hx (y := (⟨"java/util/AbstractCollection", "<init>", "()V"⟩ : MethodName)) rfl hown (mvT hZ (hw _ (own_m 40 rfl))) (mvT hZ (hw _ (own_m 41 rfl))) (mvT hZ (hw _ (own_m 45 rfl))) (by decide) (backOf (W := 0) (rm5 l Z a0 hw [] ob h0 n0 Zle ) hZ (hw _ (own_m 45 rfl)) (hw _ (own_m 44 rfl)) (by decide) (by decide)) (g := (mkF m 1 #[.val (.ref ob)] [(.ref ob)])) rfl (by rw [hml]; rfl) (Steps.refl _) (a := ob) (argsL := []) (rest := []) (lenOf pd_1 rfl) rfl (own_le rfl) (hb hby d4_1) (fun _ _ => ⟨rfl, e0, (by decide : 0 + 0 ≤ _), (by decide : 0 + 0 ≤ _)⟩)
  dsimp only [Pt.U, Pt.locs, Pt.cells, Pt.slots] at X1 l1 y1 z1 st1 hQ1
  subst l1 y1 z1
  obtain ⟨rfl, Nq1, e1⟩ := hQ1
  have N_ := Fr.app N_ Nq1
  refine own_by (T' := T1) (g' := (mkF m 4 #[.val (.ref ob)] [])) (fun t k => st1.trans k) ?_
  refine own_by (T' := T1) (g' := (mkF m 5 #[.val (.ref ob)] [(.ref ob)])) (fun t k => XS.aloadN X1.here hx rfl (hb hby d4_4) rfl rfl k) ?_
  refine own_by (T' := T1) (g' := (mkF m 7 #[.val (.ref ob)] [(.int 17), (.ref ob)])) (fun t k => XS.bipush X1.here hx rfl (hb hby d4_5) k) ?_
  obtain ⟨T2, h2, k2, X2, e2, E2, A2, AE2, O2, st2⟩ := newRE X1 hx hZ hown (hw _ (own_m 47 rfl)) (hw _ (own_m 25 rfl)) e1 (g := (mkF m 7 #[.val (.ref ob)] [(.int 17), (.ref ob)])) rfl (hb hby d4_7) rfl (by decide) (cap := 17) (by decide) (by decide) (by decide) (by decide) (ad := "[Ljava/lang/Object;") (by decide)
  obtain ⟨b2, g2⟩ : ∃ z, z = h0.size := ⟨_, rfl⟩
  rw [← g2] at A2 AE2 st2
  have ne_ob_b2 : ob ≠ b2 := Nat.ne_of_lt (Nat.lt_of_lt_of_eq E_ob.lt g2.symm)
  have g_b2 : n0 ≤ b2 := Nat.le_trans Zle (Nat.le_of_eq g2.symm)
  have sz_b2 : h0.size ≤ b2 := Nat.le_trans K_.1 (Nat.le_of_eq g2.symm)
  have E_ob := E_ob.ext E2
  have F_elements_ob := F_elements_ob.ext E2
  have Zle := Nat.le_trans Zle E2.1
  have K_ := K_.ext E2
  have E_b2 := AE2
  refine own_by (T' := T2) (g' := (mkF m 10 #[.val (.ref ob)] [(.ref b2), (.ref ob)])) (fun t k => st2 t k) ?_
  obtain ⟨T3, h3, X3, e3, W3, st3⟩ := putF X2 hx hZ hown (host := "") (Or.inl (hw _ (own_m 48 rfl))) Via.refl e2 F_elements_ob E_ob (Or.inl (hw _ (own_m 49 rfl))) (hw _ (own_m 35 rfl)) (ty := (.array (.object "java/lang/Object"))) (by decide) rfl rfl (g := (mkF m 10 #[.val (.ref ob)] [(.ref b2), (.ref ob)])) rfl rfl (hb hby d4_10)
  have F_elements_ob_ := F_elements_ob.same W3
  have E_ob := E_ob.wr W3
  have Zle := Nat.le_trans Zle (Keep.of_wr W3).1
  have K_ := K_.wr W3 (Or.inl (List.mem_of_getElem? (i := 0) rfl))
  have E_b2 := E_b2.wr W3
  have F_elements_ob := F_elements_ob_
  have N_ := Fr.snoc X3 N_ g_ob
  refine own_by (T' := T3) (g' := (mkF m 13 #[.val (.ref ob)] [])) (fun t k => st3 t k) ?_
  exact own_retV X3 hx Bd.notSynchronized Bd.returns (hb hby d4_13) (by decide) (by decide) (by rw [e3]; exact ⟨rfl, N_, K_⟩)

theorem pn_com_example_hermit_crab_hermitcrab_engine_Table : plainName "com/example/hermit_crab/hermitcrab/engine/Table" = true := by first | (simp [plainName, overriddenIn]; done) | decide +kernel
theorem ef_1 (m : MethodId) (ob : Addr) (sn : Addr) (pi : Int32) : entryFrame m #[(.ref ob), (.ref sn), .null, (.int pi)] 4 = mkF m 0 #[.val (.ref ob), .val (.ref sn), .val .null, .val (.int pi)] [] := by first | (simp [entryFrame, mkF, argsToLocals, Value.category]; done) | rfl
theorem d1_0 : decode prog_47_method_1_code 0 = .ok (.aload_n 0, 1) := by decide +kernel
theorem d1_1 : decode prog_47_method_1_code 1 = .ok (.invokespecial 1, 3) := by decide +kernel
theorem d1_4 : decode prog_47_method_1_code 4 = .ok (.aload_n 0, 1) := by decide +kernel
theorem d1_5 : decode prog_47_method_1_code 5 = .ok (.new 7, 3) := by decide +kernel
theorem d1_8 : decode prog_47_method_1_code 8 = .ok (.dup, 1) := by decide +kernel
theorem d1_9 : decode prog_47_method_1_code 9 = .ok (.invokespecial 9, 3) := by decide +kernel
theorem d1_12 : decode prog_47_method_1_code 12 = .ok (.putfield 10, 3) := by decide +kernel
theorem d1_15 : decode prog_47_method_1_code 15 = .ok (.aload_n 0, 1) := by decide +kernel
theorem d1_16 : decode prog_47_method_1_code 16 = .ok (.new 16, 3) := by decide +kernel
theorem d1_19 : decode prog_47_method_1_code 19 = .ok (.dup, 1) := by decide +kernel
theorem d1_20 : decode prog_47_method_1_code 20 = .ok (.invokespecial 18, 3) := by decide +kernel
theorem d1_23 : decode prog_47_method_1_code 23 = .ok (.putfield 19, 3) := by decide +kernel
theorem d1_26 : decode prog_47_method_1_code 26 = .ok (.aload_n 0, 1) := by decide +kernel
theorem d1_27 : decode prog_47_method_1_code 27 = .ok (.aload_n 1, 1) := by decide +kernel
theorem d1_28 : decode prog_47_method_1_code 28 = .ok (.putfield 23, 3) := by decide +kernel
theorem d1_31 : decode prog_47_method_1_code 31 = .ok (.aload_n 0, 1) := by decide +kernel
theorem d1_32 : decode prog_47_method_1_code 32 = .ok (.aload_n 2, 1) := by decide +kernel
theorem d1_33 : decode prog_47_method_1_code 33 = .ok (.putfield 27, 3) := by decide +kernel
theorem d1_36 : decode prog_47_method_1_code 36 = .ok (.aload_n 0, 1) := by decide +kernel
theorem d1_37 : decode prog_47_method_1_code 37 = .ok (.iload_n 3, 1) := by decide +kernel
theorem d1_38 : decode prog_47_method_1_code 38 = .ok (.putfield 31, 3) := by decide +kernel
theorem d1_41 : decode prog_47_method_1_code 41 = .ok (.return_, 1) := by decide +kernel
def Q1 (Z : State) (ob : Addr) (sn : Addr) (pi : Int32) (h0 : Heap) (n0 : Nat) (v : Option Value) (h : Heap) (L : List Loc) : Prop := v = none ∧ Fr n0 L ∧ Keep h0 h [ob] ∧ Exa Z h ob "com/example/hermit_crab/hermitcrab/engine/Table" ∧ Fld Z h ob "com/example/hermit_crab/hermitcrab/engine/Table" "changedAt" "J" (.long 0)
set_option maxRecDepth 65536 in
set_option maxHeartbeats 40000000 in
theorem rm1 (l : Launch) (Z : State) (a0 : Array Value) (hw : ∀ d ∈ tables_1, d.before a0 Z = true) (ws : List Jvm.Cond) (ob : Addr) (sn : Addr) (pi : Int32) (h0 : Heap) (n0 : Nat) (Zle : n0 ≤ h0.size) (E_ob : Exa Z h0 ob "com/example/hermit_crab/hermitcrab/engine/Table") (g_ob : n0 ≤ ob) (F_slots_ob : Fld Z h0 ob "com/example/hermit_crab/hermitcrab/engine/Table" "slots" "Lcom/example/hermit_crab/hermitcrab/engine/KeyIndex;" .null) (F_kept_ob : Fld Z h0 ob "com/example/hermit_crab/hermitcrab/engine/Table" "kept" "Ljava/util/ArrayDeque;" .null) (F_name_ob : Fld Z h0 ob "com/example/hermit_crab/hermitcrab/engine/Table" "name" "Ljava/lang/String;" .null) (F_columns_ob : Fld Z h0 ob "com/example/hermit_crab/hermitcrab/engine/Table" "columns" "Lcom/example/hermit_crab/hermitcrab/sql/Columns;" .null) (F_primaryKeyIndex_ob : Fld Z h0 ob "com/example/hermit_crab/hermitcrab/engine/Table" "primaryKeyIndex" "I" (.int 0)) (F_changedAt_ob : Fld Z h0 ob "com/example/hermit_crab/hermitcrab/engine/Table" "changedAt" "J" (.long 0)) :
    MetFree l (⟨"com/example/hermit_crab/hermitcrab/engine/Table", "<init>", "(Ljava/lang/String;Lcom/example/hermit_crab/hermitcrab/sql/Columns;I)V"⟩ : MethodName) (head1 (Jvm.Cond.code (⟨"com/example/hermit_crab/hermitcrab/engine/Table", "<init>", "(Ljava/lang/String;Lcom/example/hermit_crab/hermitcrab/sql/Columns;I)V"⟩ : MethodName) prog_47_method_1_code 4 none :: ws) ({ frames := 3, cells := 6, slots := 71, locals := 40 } : Room)) (fun a U => a = #[(.ref ob), (.ref sn), .null, (.int pi)] ∧ Z.Warmed39 U.vm ∧ U.heap = h0) (fun _ _ _ _ _ => True) (fun _ U o U' => ∃ v L, o = .returned v ∧ Q1 Z ob sn pi h0 n0 v U'.heap L ∧ FrameEnd U o U' L ({ frames := 3, cells := 6, slots := 71, locals := 40 } : Room).cells ({ frames := 3, cells := 6, slots := 71, locals := 40 } : Room).slots) := by
  refine MetFree.of_bodySF (plainFor_of_name pn_com_example_hermit_crab_hermitcrab_engine_Table) hisR ?_
  intro p e s m args below meth c s₁ Bd hml0 hP hK
  obtain ⟨rfl, hZ, hh⟩ := hP
  have hx := Bd.exec
  have hby := Bd.bytes
  have hml : c.maxLocals = 4 := hml0
  have hown : s.vm.findClass "com/example/hermit_crab/hermitcrab/engine/Table" = some m.cls := findClass_of_methodNamed Bd.named
  have hnm := (name_of_methodNamed Bd.named Bd.method).1
  have X0 : Stand p l e ({ frames := 3, cells := 6, slots := 71, locals := 40 } : Room) s m #[(.ref ob), (.ref sn), .null, (.int pi)] below meth c s₁ [] 0 0 := Stand.of_body Bd
  have e0 : s₁.heap = h0 := by rw [← hh, Bd.state]; rfl
  have N_ := Fr.nil n0
  have K_ := Keep.refl h0 [ob]
  show own_Goes p.tables e below s (Q1 Z ob sn pi h0 n0) ({ frames := 3, cells := 6, slots := 71, locals := 40 } : Room).cells ({ frames := 3, cells := 6, slots := 71, locals := 40 } : Room).slots s₁ (entryFrame m #[(.ref ob), (.ref sn), .null, (.int pi)] 4)
  refine own_by (T' := s₁) (g' := (mkF m 0 #[.val (.ref ob), .val (.ref sn), .val .null, .val (.int pi)] [])) (fun t k => castTop (ef_1 m ob sn pi) k) ?_
  refine own_by (T' := s₁) (g' := (mkF m 1 #[.val (.ref ob), .val (.ref sn), .val .null, .val (.int pi)] [(.ref ob)])) (fun t k => XS.aloadN X0.here hx rfl (hb hby d1_0) rfl rfl k) ?_
  obtain ⟨T1, X1, e1, st1⟩ := initO X0 hx hZ hown (hw _ (own_m 14 rfl)) (hw _ (own_m 15 rfl)) (hw _ (own_m 16 rfl)) e0 (g := (mkF m 1 #[.val (.ref ob), .val (.ref sn), .val .null, .val (.int pi)] [(.ref ob)])) rfl (by rw [hml]; rfl) rfl (hb hby d1_1) (by decide) (W := 0) (own_le rfl) (by decide)
  refine own_by (T' := T1) (g' := (mkF m 4 #[.val (.ref ob), .val (.ref sn), .val .null, .val (.int pi)] [])) (fun t k => st1 t k) ?_
  refine own_by (T' := T1) (g' := (mkF m 5 #[.val (.ref ob), .val (.ref sn), .val .null, .val (.int pi)] [(.ref ob)])) (fun t k => XS.aloadN X1.here hx rfl (hb hby d1_4) rfl rfl k) ?_
  obtain ⟨T2, h2, X2, e2, E2, A2, D2, -, st2⟩ := newO X1 hx hZ hown (hw _ (own_m 17 rfl)) (hw _ (own_m 18 rfl)) (hw _ (own_m 19 rfl)) e1 (g := (mkF m 5 #[.val (.ref ob), .val (.ref sn), .val .null, .val (.int pi)] [(.ref ob)])) rfl (hb hby d1_5) (by decide) (by decide)
  obtain ⟨b2, g2⟩ : ∃ z, z = h0.size := ⟨_, rfl⟩
  rw [← g2] at A2 D2 st2
  have ne_ob_b2 : ob ≠ b2 := Nat.ne_of_lt (Nat.lt_of_lt_of_eq E_ob.lt g2.symm)
  have g_b2 : n0 ≤ b2 := Nat.le_trans Zle (Nat.le_of_eq g2.symm)
  have sz_b2 : h0.size ≤ b2 := Nat.le_trans K_.1 (Nat.le_of_eq g2.symm)
  have E_ob := E_ob.ext E2
  have F_slots_ob := F_slots_ob.ext E2
  have F_kept_ob := F_kept_ob.ext E2
  have F_name_ob := F_name_ob.ext E2
  have F_columns_ob := F_columns_ob.ext E2
  have F_primaryKeyIndex_ob := F_primaryKeyIndex_ob.ext E2
  have F_changedAt_ob := F_changedAt_ob.ext E2
  have Zle := Nat.le_trans Zle E2.1
  have K_ := K_.ext E2
  have E_b2 := A2
  have F_firsts_b2 : Fld Z h2 b2 "com/example/hermit_crab/hermitcrab/engine/KeyIndex" "firsts" "[Ljava/lang/Object;" .null := D2 (Or.inr (hw _ (own_m 27 rfl))) (ty := (.array (.object "java/lang/Object"))) (by decide)
  have F_lasts_b2 : Fld Z h2 b2 "com/example/hermit_crab/hermitcrab/engine/KeyIndex" "lasts" "[Ljava/lang/Object;" .null := D2 (Or.inr (hw _ (own_m 29 rfl))) (ty := (.array (.object "java/lang/Object"))) (by decide)
  have F_before_b2 : Fld Z h2 b2 "com/example/hermit_crab/hermitcrab/engine/KeyIndex" "before" "[Ljava/lang/Object;" .null := D2 (Or.inr (hw _ (own_m 31 rfl))) (ty := (.array (.object "java/lang/Object"))) (by decide)
  refine own_by (T' := T2) (g' := (mkF m 8 #[.val (.ref ob), .val (.ref sn), .val .null, .val (.int pi)] [(.ref b2), (.ref ob)])) (fun t k => st2 t k) ?_
  refine own_by (T' := T2) (g' := (mkF m 9 #[.val (.ref ob), .val (.ref sn), .val .null, .val (.int pi)] [(.ref b2), (.ref b2), (.ref ob)])) (fun t k => XS.dup X2.here hx rfl (hb hby d1_8) rfl rfl k) ?_
  obtain ⟨_, _, ⟨T3, L3, k3, n3⟩, -, X3, ⟨Lc3, hQ3, l3, y3, z3⟩, st3⟩ := X2.specialBack hx (y := (⟨"com/example/hermit_crab/hermitcrab/engine/KeyIndex", "<init>", "()V"⟩ : MethodName)) rfl hown (mvT hZ (hw _ (own_m 20 rfl))) (mvT hZ (hw _ (own_m 21 rfl))) (mvT hZ (hw _ (own_m 22 rfl))) (by decide) (backOf (W := 2) (rm3 l Z a0 hw [] b2 h2 n0 Zle E_b2 g_b2 F_firsts_b2 F_lasts_b2 F_before_b2) hZ (hw _ (own_m 22 rfl)) (hw _ (own_m 19 rfl)) (by decide) (by decide)) (g := (mkF m 9 #[.val (.ref ob), .val (.ref sn), .val .null, .val (.int pi)] [(.ref b2), (.ref b2), (.ref ob)])) rfl (by rw [hml]; rfl) (Steps.refl _) (a := b2) (argsL := []) (rest := [(.ref b2), (.ref ob)]) (lenOf pd_1 rfl) rfl (own_le rfl) (hb hby d1_9) (fun _ _ => ⟨rfl, e2, (by decide : 1 + 3 ≤ _), (by decide : 3 + 48 ≤ _)⟩)
  dsimp only [Pt.U, Pt.locs, Pt.cells, Pt.slots] at X3 l3 y3 z3 st3 hQ3
  subst l3 y3 z3
  obtain ⟨rfl, Nq3, c3_0⟩ := hQ3
  have N_ := Fr.app N_ Nq3
  have E_ob := E_ob.keep c3_0
  have F_slots_ob := F_slots_ob.keep c3_0 (ninS ne_ob_b2 nin0)
  have F_kept_ob := F_kept_ob.keep c3_0 (ninS ne_ob_b2 nin0)
  have F_name_ob := F_name_ob.keep c3_0 (ninS ne_ob_b2 nin0)
  have F_columns_ob := F_columns_ob.keep c3_0 (ninS ne_ob_b2 nin0)
  have F_primaryKeyIndex_ob := F_primaryKeyIndex_ob.keep c3_0 (ninS ne_ob_b2 nin0)
  have F_changedAt_ob := F_changedAt_ob.keep c3_0 (ninS ne_ob_b2 nin0)
  have Zle := Nat.le_trans Zle c3_0.1
  have K_ := K_.trans c3_0 (allS (Or.inr sz_b2) all0)
  have E_b2 := E_b2.keep c3_0
  refine own_by (T' := T3) (g' := (mkF m 12 #[.val (.ref ob), .val (.ref sn), .val .null, .val (.int pi)] [(.ref b2), (.ref ob)])) (fun t k => st3.trans k) ?_
  obtain ⟨T4, h4, X4, e4, W4, st4⟩ := putF X3 hx hZ hown (host := "") (Or.inl (hw _ (own_m 32 rfl))) Via.refl rfl F_slots_ob E_ob (Or.inr ⟨(hw _ (own_m 33 rfl)), rfl, hnm⟩) (hw _ (own_m 1 rfl)) (ty := (.object "com/example/hermit_crab/hermitcrab/engine/KeyIndex")) (by decide) rfl rfl (g := (mkF m 12 #[.val (.ref ob), .val (.ref sn), .val .null, .val (.int pi)] [(.ref b2), (.ref ob)])) rfl rfl (hb hby d1_12)
  have F_slots_ob_ := F_slots_ob.same W4
  have E_ob := E_ob.wr W4
  have F_kept_ob := F_kept_ob.other W4 (Or.inr (slot_ne (Or.inr (hw _ (own_m 51 rfl))) (Or.inr (hw _ (own_m 33 rfl))) (by decide) (t := (.object "java/util/ArrayDeque")) (t' := (.object "com/example/hermit_crab/hermitcrab/engine/KeyIndex")) (by decide) (by decide)))
  have F_name_ob := F_name_ob.other W4 (Or.inr (slot_ne (Or.inr (hw _ (own_m 53 rfl))) (Or.inr (hw _ (own_m 33 rfl))) (by decide) (t := (.object "java/lang/String")) (t' := (.object "com/example/hermit_crab/hermitcrab/engine/KeyIndex")) (by decide) (by decide)))
  have F_columns_ob := F_columns_ob.other W4 (Or.inr (slot_ne (Or.inr (hw _ (own_m 55 rfl))) (Or.inr (hw _ (own_m 33 rfl))) (by decide) (t := (.object "com/example/hermit_crab/hermitcrab/sql/Columns")) (t' := (.object "com/example/hermit_crab/hermitcrab/engine/KeyIndex")) (by decide) (by decide)))
  have F_primaryKeyIndex_ob := F_primaryKeyIndex_ob.other W4 (Or.inr (slot_ne (Or.inr (hw _ (own_m 57 rfl))) (Or.inr (hw _ (own_m 33 rfl))) (by decide) (t := .int) (t' := (.object "com/example/hermit_crab/hermitcrab/engine/KeyIndex")) (by decide) (by decide)))
  have F_changedAt_ob := F_changedAt_ob.other W4 (Or.inr (slot_ne (Or.inl (hw _ (own_m 64 rfl))) (Or.inr (hw _ (own_m 33 rfl))) (by decide) (t := .long) (t' := (.object "com/example/hermit_crab/hermitcrab/engine/KeyIndex")) (by decide) (by decide)))
  have Zle := Nat.le_trans Zle (Keep.of_wr W4).1
  have K_ := K_.wr W4 (Or.inl (List.mem_of_getElem? (i := 0) rfl))
  have E_b2 := E_b2.wr W4
  have F_slots_ob := F_slots_ob_
  have N_ := Fr.snoc X4 N_ g_ob
  refine own_by (T' := T4) (g' := (mkF m 15 #[.val (.ref ob), .val (.ref sn), .val .null, .val (.int pi)] [])) (fun t k => st4 t k) ?_
  refine own_by (T' := T4) (g' := (mkF m 16 #[.val (.ref ob), .val (.ref sn), .val .null, .val (.int pi)] [(.ref ob)])) (fun t k => XS.aloadN X4.here hx rfl (hb hby d1_15) rfl rfl k) ?_
  obtain ⟨T5, h5, X5, e5, E5, A5, D5, -, st5⟩ := newO X4 hx hZ hown (hw _ (own_m 34 rfl)) (hw _ (own_m 35 rfl)) (hw _ (own_m 36 rfl)) e4 (g := (mkF m 16 #[.val (.ref ob), .val (.ref sn), .val .null, .val (.int pi)] [(.ref ob)])) rfl (hb hby d1_16) (by decide) (by decide)
  obtain ⟨b5, g5⟩ : ∃ z, z = h4.size := ⟨_, rfl⟩
  rw [← g5] at A5 D5 st5
  have ne_ob_b5 : ob ≠ b5 := Nat.ne_of_lt (Nat.lt_of_lt_of_eq E_ob.lt g5.symm)
  have ne_b2_b5 : b2 ≠ b5 := Nat.ne_of_lt (Nat.lt_of_lt_of_eq E_b2.lt g5.symm)
  have g_b5 : n0 ≤ b5 := Nat.le_trans Zle (Nat.le_of_eq g5.symm)
  have sz_b5 : h0.size ≤ b5 := Nat.le_trans K_.1 (Nat.le_of_eq g5.symm)
  have E_ob := E_ob.ext E5
  have F_kept_ob := F_kept_ob.ext E5
  have F_name_ob := F_name_ob.ext E5
  have F_columns_ob := F_columns_ob.ext E5
  have F_primaryKeyIndex_ob := F_primaryKeyIndex_ob.ext E5
  have F_changedAt_ob := F_changedAt_ob.ext E5
  have Zle := Nat.le_trans Zle E5.1
  have K_ := K_.ext E5
  have E_b2 := E_b2.ext E5
  have F_slots_ob := F_slots_ob.ext E5
  have E_b5 := A5
  have F_elements_b5 : Fld Z h5 b5 "java/util/ArrayDeque" "elements" "[Ljava/lang/Object;" .null := D5 (Or.inl (hw _ (own_m 49 rfl))) (ty := (.array (.object "java/lang/Object"))) (by decide)
  refine own_by (T' := T5) (g' := (mkF m 19 #[.val (.ref ob), .val (.ref sn), .val .null, .val (.int pi)] [(.ref b5), (.ref ob)])) (fun t k => st5 t k) ?_
  refine own_by (T' := T5) (g' := (mkF m 20 #[.val (.ref ob), .val (.ref sn), .val .null, .val (.int pi)] [(.ref b5), (.ref b5), (.ref ob)])) (fun t k => XS.dup X5.here hx rfl (hb hby d1_19) rfl rfl k) ?_
  obtain ⟨_, _, ⟨T6, L6, k6, n6⟩, -, X6, ⟨Lc6, hQ6, l6, y6, z6⟩, st6⟩ := X5.specialBack hx (y := (⟨"java/util/ArrayDeque", "<init>", "()V"⟩ : MethodName)) rfl hown (mvT hZ (hw _ (own_m 37 rfl))) (mvT hZ (hw _ (own_m 38 rfl))) (mvT hZ (hw _ (own_m 39 rfl))) (by decide) (backOf (W := 2) (rm4 l Z a0 hw [] b5 h5 n0 Zle E_b5 g_b5 F_elements_b5) hZ (hw _ (own_m 39 rfl)) (hw _ (own_m 36 rfl)) (by decide) (by decide)) (g := (mkF m 20 #[.val (.ref ob), .val (.ref sn), .val .null, .val (.int pi)] [(.ref b5), (.ref b5), (.ref ob)])) rfl (by rw [hml]; rfl) (Steps.refl _) (a := b5) (argsL := []) (rest := [(.ref b5), (.ref ob)]) (lenOf pd_1 rfl) rfl (own_le rfl) (hb hby d1_20) (fun _ _ => ⟨rfl, e5, (by decide : 5 + 1 ≤ _), (by decide : 54 + 17 ≤ _)⟩)
  dsimp only [Pt.U, Pt.locs, Pt.cells, Pt.slots] at X6 l6 y6 z6 st6 hQ6
  subst l6 y6 z6
  obtain ⟨rfl, Nq6, c6_0⟩ := hQ6
  have N_ := Fr.app N_ Nq6
  have E_ob := E_ob.keep c6_0
  have F_kept_ob := F_kept_ob.keep c6_0 (ninS ne_ob_b5 nin0)
  have F_name_ob := F_name_ob.keep c6_0 (ninS ne_ob_b5 nin0)
  have F_columns_ob := F_columns_ob.keep c6_0 (ninS ne_ob_b5 nin0)
  have F_primaryKeyIndex_ob := F_primaryKeyIndex_ob.keep c6_0 (ninS ne_ob_b5 nin0)
  have F_changedAt_ob := F_changedAt_ob.keep c6_0 (ninS ne_ob_b5 nin0)
  have Zle := Nat.le_trans Zle c6_0.1
  have K_ := K_.trans c6_0 (allS (Or.inr sz_b5) all0)
  have E_b2 := E_b2.keep c6_0
  have F_slots_ob := F_slots_ob.keep c6_0 (ninS ne_ob_b5 nin0)
  have E_b5 := E_b5.keep c6_0
  refine own_by (T' := T6) (g' := (mkF m 23 #[.val (.ref ob), .val (.ref sn), .val .null, .val (.int pi)] [(.ref b5), (.ref ob)])) (fun t k => st6.trans k) ?_
  obtain ⟨T7, h7, X7, e7, W7, st7⟩ := putF X6 hx hZ hown (host := "") (Or.inl (hw _ (own_m 50 rfl))) Via.refl rfl F_kept_ob E_ob (Or.inr ⟨(hw _ (own_m 51 rfl)), rfl, hnm⟩) (hw _ (own_m 1 rfl)) (ty := (.object "java/util/ArrayDeque")) (by decide) rfl rfl (g := (mkF m 23 #[.val (.ref ob), .val (.ref sn), .val .null, .val (.int pi)] [(.ref b5), (.ref ob)])) rfl rfl (hb hby d1_23)
  have F_kept_ob_ := F_kept_ob.same W7
  have E_ob := E_ob.wr W7
  have F_name_ob := F_name_ob.other W7 (Or.inr (slot_ne (Or.inr (hw _ (own_m 53 rfl))) (Or.inr (hw _ (own_m 51 rfl))) (by decide) (t := (.object "java/lang/String")) (t' := (.object "java/util/ArrayDeque")) (by decide) (by decide)))
  have F_columns_ob := F_columns_ob.other W7 (Or.inr (slot_ne (Or.inr (hw _ (own_m 55 rfl))) (Or.inr (hw _ (own_m 51 rfl))) (by decide) (t := (.object "com/example/hermit_crab/hermitcrab/sql/Columns")) (t' := (.object "java/util/ArrayDeque")) (by decide) (by decide)))
  have F_primaryKeyIndex_ob := F_primaryKeyIndex_ob.other W7 (Or.inr (slot_ne (Or.inr (hw _ (own_m 57 rfl))) (Or.inr (hw _ (own_m 51 rfl))) (by decide) (t := .int) (t' := (.object "java/util/ArrayDeque")) (by decide) (by decide)))
  have F_changedAt_ob := F_changedAt_ob.other W7 (Or.inr (slot_ne (Or.inl (hw _ (own_m 64 rfl))) (Or.inr (hw _ (own_m 51 rfl))) (by decide) (t := .long) (t' := (.object "java/util/ArrayDeque")) (by decide) (by decide)))
  have Zle := Nat.le_trans Zle (Keep.of_wr W7).1
  have K_ := K_.wr W7 (Or.inl (List.mem_of_getElem? (i := 0) rfl))
  have E_b2 := E_b2.wr W7
  have F_slots_ob := F_slots_ob.other W7 (Or.inr (slot_ne (Or.inr (hw _ (own_m 33 rfl))) (Or.inr (hw _ (own_m 51 rfl))) (by decide) (t := (.object "com/example/hermit_crab/hermitcrab/engine/KeyIndex")) (t' := (.object "java/util/ArrayDeque")) (by decide) (by decide)))
  have E_b5 := E_b5.wr W7
  have F_kept_ob := F_kept_ob_
  have N_ := Fr.snoc X7 N_ g_ob
  refine own_by (T' := T7) (g' := (mkF m 26 #[.val (.ref ob), .val (.ref sn), .val .null, .val (.int pi)] [])) (fun t k => st7 t k) ?_
  refine own_by (T' := T7) (g' := (mkF m 27 #[.val (.ref ob), .val (.ref sn), .val .null, .val (.int pi)] [(.ref ob)])) (fun t k => XS.aloadN X7.here hx rfl (hb hby d1_26) rfl rfl k) ?_
  refine own_by (T' := T7) (g' := (mkF m 28 #[.val (.ref ob), .val (.ref sn), .val .null, .val (.int pi)] [(.ref sn), (.ref ob)])) (fun t k => XS.aloadN X7.here hx rfl (hb hby d1_27) rfl rfl k) ?_
  obtain ⟨T8, h8, X8, e8, W8, st8⟩ := putF X7 hx hZ hown (host := "") (Or.inl (hw _ (own_m 52 rfl))) Via.refl e7 F_name_ob E_ob (Or.inr ⟨(hw _ (own_m 53 rfl)), rfl, hnm⟩) (hw _ (own_m 1 rfl)) (ty := (.object "java/lang/String")) (by decide) rfl rfl (g := (mkF m 28 #[.val (.ref ob), .val (.ref sn), .val .null, .val (.int pi)] [(.ref sn), (.ref ob)])) rfl rfl (hb hby d1_28)
  have F_name_ob_ := F_name_ob.same W8
  have E_ob := E_ob.wr W8
  have F_columns_ob := F_columns_ob.other W8 (Or.inr (slot_ne (Or.inr (hw _ (own_m 55 rfl))) (Or.inr (hw _ (own_m 53 rfl))) (by decide) (t := (.object "com/example/hermit_crab/hermitcrab/sql/Columns")) (t' := (.object "java/lang/String")) (by decide) (by decide)))
  have F_primaryKeyIndex_ob := F_primaryKeyIndex_ob.other W8 (Or.inr (slot_ne (Or.inr (hw _ (own_m 57 rfl))) (Or.inr (hw _ (own_m 53 rfl))) (by decide) (t := .int) (t' := (.object "java/lang/String")) (by decide) (by decide)))
  have F_changedAt_ob := F_changedAt_ob.other W8 (Or.inr (slot_ne (Or.inl (hw _ (own_m 64 rfl))) (Or.inr (hw _ (own_m 53 rfl))) (by decide) (t := .long) (t' := (.object "java/lang/String")) (by decide) (by decide)))
  have Zle := Nat.le_trans Zle (Keep.of_wr W8).1
  have K_ := K_.wr W8 (Or.inl (List.mem_of_getElem? (i := 0) rfl))
  have E_b2 := E_b2.wr W8
  have F_slots_ob := F_slots_ob.other W8 (Or.inr (slot_ne (Or.inr (hw _ (own_m 33 rfl))) (Or.inr (hw _ (own_m 53 rfl))) (by decide) (t := (.object "com/example/hermit_crab/hermitcrab/engine/KeyIndex")) (t' := (.object "java/lang/String")) (by decide) (by decide)))
  have E_b5 := E_b5.wr W8
  have F_kept_ob := F_kept_ob.other W8 (Or.inr (slot_ne (Or.inr (hw _ (own_m 51 rfl))) (Or.inr (hw _ (own_m 53 rfl))) (by decide) (t := (.object "java/util/ArrayDeque")) (t' := (.object "java/lang/String")) (by decide) (by decide)))
  have F_name_ob := F_name_ob_
  have N_ := Fr.snoc X8 N_ g_ob
  refine own_by (T' := T8) (g' := (mkF m 31 #[.val (.ref ob), .val (.ref sn), .val .null, .val (.int pi)] [])) (fun t k => st8 t k) ?_
  refine own_by (T' := T8) (g' := (mkF m 32 #[.val (.ref ob), .val (.ref sn), .val .null, .val (.int pi)] [(.ref ob)])) (fun t k => XS.aloadN X8.here hx rfl (hb hby d1_31) rfl rfl k) ?_
  refine own_by (T' := T8) (g' := (mkF m 33 #[.val (.ref ob), .val (.ref sn), .val .null, .val (.int pi)] [.null, (.ref ob)])) (fun t k => XS.aloadN X8.here hx rfl (hb hby d1_32) rfl rfl k) ?_
  obtain ⟨T9, h9, X9, e9, W9, st9⟩ := putF X8 hx hZ hown (host := "") (Or.inl (hw _ (own_m 54 rfl))) Via.refl e8 F_columns_ob E_ob (Or.inr ⟨(hw _ (own_m 55 rfl)), rfl, hnm⟩) (hw _ (own_m 1 rfl)) (ty := (.object "com/example/hermit_crab/hermitcrab/sql/Columns")) (by decide) rfl rfl (g := (mkF m 33 #[.val (.ref ob), .val (.ref sn), .val .null, .val (.int pi)] [.null, (.ref ob)])) rfl rfl (hb hby d1_33)
  have F_columns_ob_ := F_columns_ob.same W9
  have E_ob := E_ob.wr W9
  have F_primaryKeyIndex_ob := F_primaryKeyIndex_ob.other W9 (Or.inr (slot_ne (Or.inr (hw _ (own_m 57 rfl))) (Or.inr (hw _ (own_m 55 rfl))) (by decide) (t := .int) (t' := (.object "com/example/hermit_crab/hermitcrab/sql/Columns")) (by decide) (by decide)))
  have F_changedAt_ob := F_changedAt_ob.other W9 (Or.inr (slot_ne (Or.inl (hw _ (own_m 64 rfl))) (Or.inr (hw _ (own_m 55 rfl))) (by decide) (t := .long) (t' := (.object "com/example/hermit_crab/hermitcrab/sql/Columns")) (by decide) (by decide)))
  have Zle := Nat.le_trans Zle (Keep.of_wr W9).1
  have K_ := K_.wr W9 (Or.inl (List.mem_of_getElem? (i := 0) rfl))
  have E_b2 := E_b2.wr W9
  have F_slots_ob := F_slots_ob.other W9 (Or.inr (slot_ne (Or.inr (hw _ (own_m 33 rfl))) (Or.inr (hw _ (own_m 55 rfl))) (by decide) (t := (.object "com/example/hermit_crab/hermitcrab/engine/KeyIndex")) (t' := (.object "com/example/hermit_crab/hermitcrab/sql/Columns")) (by decide) (by decide)))
  have E_b5 := E_b5.wr W9
  have F_kept_ob := F_kept_ob.other W9 (Or.inr (slot_ne (Or.inr (hw _ (own_m 51 rfl))) (Or.inr (hw _ (own_m 55 rfl))) (by decide) (t := (.object "java/util/ArrayDeque")) (t' := (.object "com/example/hermit_crab/hermitcrab/sql/Columns")) (by decide) (by decide)))
  have F_name_ob := F_name_ob.other W9 (Or.inr (slot_ne (Or.inr (hw _ (own_m 53 rfl))) (Or.inr (hw _ (own_m 55 rfl))) (by decide) (t := (.object "java/lang/String")) (t' := (.object "com/example/hermit_crab/hermitcrab/sql/Columns")) (by decide) (by decide)))
  have F_columns_ob := F_columns_ob_
  have N_ := Fr.snoc X9 N_ g_ob
  refine own_by (T' := T9) (g' := (mkF m 36 #[.val (.ref ob), .val (.ref sn), .val .null, .val (.int pi)] [])) (fun t k => st9 t k) ?_
  refine own_by (T' := T9) (g' := (mkF m 37 #[.val (.ref ob), .val (.ref sn), .val .null, .val (.int pi)] [(.ref ob)])) (fun t k => XS.aloadN X9.here hx rfl (hb hby d1_36) rfl rfl k) ?_
  refine own_by (T' := T9) (g' := (mkF m 38 #[.val (.ref ob), .val (.ref sn), .val .null, .val (.int pi)] [(.int pi), (.ref ob)])) (fun t k => XS.iloadN X9.here hx rfl (hb hby d1_37) rfl k) ?_
  obtain ⟨T10, h10, X10, e10, W10, st10⟩ := putF X9 hx hZ hown (host := "") (Or.inl (hw _ (own_m 56 rfl))) Via.refl e9 F_primaryKeyIndex_ob E_ob (Or.inr ⟨(hw _ (own_m 57 rfl)), rfl, hnm⟩) (hw _ (own_m 1 rfl)) (ty := .int) (by decide) rfl rfl (g := (mkF m 38 #[.val (.ref ob), .val (.ref sn), .val .null, .val (.int pi)] [(.int pi), (.ref ob)])) rfl rfl (hb hby d1_38)
  have F_primaryKeyIndex_ob_ := F_primaryKeyIndex_ob.same W10
  have E_ob := E_ob.wr W10
  have F_changedAt_ob := F_changedAt_ob.other W10 (Or.inr (slot_ne (Or.inl (hw _ (own_m 64 rfl))) (Or.inr (hw _ (own_m 57 rfl))) (by decide) (t := .long) (t' := .int) (by decide) (by decide)))
  have Zle := Nat.le_trans Zle (Keep.of_wr W10).1
  have K_ := K_.wr W10 (Or.inl (List.mem_of_getElem? (i := 0) rfl))
  have E_b2 := E_b2.wr W10
  have F_slots_ob := F_slots_ob.other W10 (Or.inr (slot_ne (Or.inr (hw _ (own_m 33 rfl))) (Or.inr (hw _ (own_m 57 rfl))) (by decide) (t := (.object "com/example/hermit_crab/hermitcrab/engine/KeyIndex")) (t' := .int) (by decide) (by decide)))
  have E_b5 := E_b5.wr W10
  have F_kept_ob := F_kept_ob.other W10 (Or.inr (slot_ne (Or.inr (hw _ (own_m 51 rfl))) (Or.inr (hw _ (own_m 57 rfl))) (by decide) (t := (.object "java/util/ArrayDeque")) (t' := .int) (by decide) (by decide)))
  have F_name_ob := F_name_ob.other W10 (Or.inr (slot_ne (Or.inr (hw _ (own_m 53 rfl))) (Or.inr (hw _ (own_m 57 rfl))) (by decide) (t := (.object "java/lang/String")) (t' := .int) (by decide) (by decide)))
  have F_columns_ob := F_columns_ob.other W10 (Or.inr (slot_ne (Or.inr (hw _ (own_m 55 rfl))) (Or.inr (hw _ (own_m 57 rfl))) (by decide) (t := (.object "com/example/hermit_crab/hermitcrab/sql/Columns")) (t' := .int) (by decide) (by decide)))
  have F_primaryKeyIndex_ob := F_primaryKeyIndex_ob_
  have N_ := Fr.snoc X10 N_ g_ob
  refine own_by (T' := T10) (g' := (mkF m 41 #[.val (.ref ob), .val (.ref sn), .val .null, .val (.int pi)] [])) (fun t k => st10 t k) ?_
  exact own_retV X10 hx Bd.notSynchronized Bd.returns (hb hby d1_41) (by decide) (by decide) (by rw [e10]; exact ⟨rfl, N_, K_, E_ob, F_changedAt_ob⟩)

theorem ef_6 (m : MethodId) (ob : Addr) (yy : Int64) : entryFrame m #[(.ref ob), (.long yy)] 3 = mkF m 0 #[.val (.ref ob), .val (.long yy), .second] [] := by first | (simp [entryFrame, mkF, argsToLocals, Value.category]; done) | rfl
theorem d6_0 : decode prog_47_method_8_code 0 = .ok (.aload_n 0, 1) := by decide +kernel
theorem d6_1 : decode prog_47_method_8_code 1 = .ok (.getfield 63, 3) := by decide +kernel
theorem d6_4 : decode prog_47_method_8_code 4 = .ok (.lload_n 1, 1) := by decide +kernel
theorem d6_5 : decode prog_47_method_8_code 5 = .ok (.lcmp, 1) := by decide +kernel
theorem d6_6 : decode prog_47_method_8_code 6 = .ok (.ifCond .gt 7, 3) := by decide +kernel
theorem d6_13 : decode prog_47_method_8_code 13 = .ok (.iconst 0, 1) := by decide +kernel
theorem d6_14 : decode prog_47_method_8_code 14 = .ok (.ireturn, 1) := by decide +kernel
theorem d6_9 : decode prog_47_method_8_code 9 = .ok (.iconst 1, 1) := by decide +kernel
theorem d6_10 : decode prog_47_method_8_code 10 = .ok (.goto 4, 3) := by decide +kernel
def Q6 (Z : State) (ob : Addr) (yy : Int64) (ch : Int64) (h0 : Heap) (n0 : Nat) (v : Option Value) (h : Heap) (L : List Loc) : Prop := v = some (.int (own_u ch yy)) ∧ Fr n0 L ∧ h = h0
set_option maxRecDepth 65536 in
set_option maxHeartbeats 40000000 in
theorem rm6 (l : Launch) (Z : State) (a0 : Array Value) (hw : ∀ d ∈ tables_1, d.before a0 Z = true) (ws : List Jvm.Cond) (ob : Addr) (yy : Int64) (ch : Int64) (h0 : Heap) (n0 : Nat) (Zle : n0 ≤ h0.size) (F_changedAt_ob : Fld Z h0 ob "com/example/hermit_crab/hermitcrab/engine/Table" "changedAt" "J" (.long ch)) :
    MetFree l (⟨"com/example/hermit_crab/hermitcrab/engine/Table", "isUnchangedSince", "(J)Z"⟩ : MethodName) (head1 (Jvm.Cond.code (⟨"com/example/hermit_crab/hermitcrab/engine/Table", "isUnchangedSince", "(J)Z"⟩ : MethodName) prog_47_method_8_code 3 (some .boolean) :: ws) ({ frames := 0, cells := 0, slots := 0, locals := 0 } : Room)) (fun a U => a = #[(.ref ob), (.long yy)] ∧ Z.Warmed39 U.vm ∧ U.heap = h0) (fun _ _ _ _ _ => True) (fun _ U o U' => ∃ v L, o = .returned v ∧ Q6 Z ob yy ch h0 n0 v U'.heap L ∧ FrameEnd U o U' L ({ frames := 0, cells := 0, slots := 0, locals := 0 } : Room).cells ({ frames := 0, cells := 0, slots := 0, locals := 0 } : Room).slots) := by
  refine MetFree.of_bodySF (plainFor_of_name pn_com_example_hermit_crab_hermitcrab_engine_Table) hisR ?_
  intro p e s m args below meth c s₁ Bd hml0 hP hK
  obtain ⟨rfl, hZ, hh⟩ := hP
  have hx := Bd.exec
  have hby := Bd.bytes
  have hml : c.maxLocals = 3 := hml0
  have hown : s.vm.findClass "com/example/hermit_crab/hermitcrab/engine/Table" = some m.cls := findClass_of_methodNamed Bd.named
  have hnm := (name_of_methodNamed Bd.named Bd.method).1
  have X0 : Stand p l e ({ frames := 0, cells := 0, slots := 0, locals := 0 } : Room) s m #[(.ref ob), (.long yy)] below meth c s₁ [] 0 0 := Stand.of_body Bd
  have e0 : s₁.heap = h0 := by rw [← hh, Bd.state]; rfl
  have N_ := Fr.nil n0
  show own_Goes p.tables e below s (Q6 Z ob yy ch h0 n0) ({ frames := 0, cells := 0, slots := 0, locals := 0 } : Room).cells ({ frames := 0, cells := 0, slots := 0, locals := 0 } : Room).slots s₁ (entryFrame m #[(.ref ob), (.long yy)] 3)
  refine own_by (T' := s₁) (g' := (mkF m 0 #[.val (.ref ob), .val (.long yy), .second] [])) (fun t k => castTop (ef_6 m ob yy) k) ?_
  refine own_by (T' := s₁) (g' := (mkF m 1 #[.val (.ref ob), .val (.long yy), .second] [(.ref ob)])) (fun t k => XS.aloadN X0.here hx rfl (hb hby d6_0) rfl rfl k) ?_
  obtain ⟨T1, X1, e1, st1⟩ := getF X0 hx hZ hown (host := "") (Or.inl (hw _ (own_m 63 rfl))) Via.refl e0 F_changedAt_ob (g := (mkF m 1 #[.val (.ref ob), .val (.long yy), .second] [(.ref ob)])) rfl rfl (hb hby d6_1)
  refine own_by (T' := T1) (g' := (mkF m 4 #[.val (.ref ob), .val (.long yy), .second] [(.long ch)])) (fun t k => st1 t k) ?_
  refine own_by (T' := T1) (g' := (mkF m 5 #[.val (.ref ob), .val (.long yy), .second] [(.long yy), (.long ch)])) (fun t k => XS.lloadN X1.here hx rfl (hb hby d6_4) rfl k) ?_
  refine own_by (T' := T1) (g' := (mkF m 6 #[.val (.ref ob), .val (.long yy), .second] [(.int (lcmpW ch yy))])) (fun t k => XS.lcmp X1.here hx rfl (hb hby d6_5) rfl k) ?_
  by_cases hc6_2 : yy < ch
  · refine own_by (T' := T1) (g' := (mkF m 13 #[.val (.ref ob), .val (.long yy), .second] [])) (fun t k => XS.ifYes X1.here hx rfl (pc0 := 6) (pc' := 13) rfl (hb hby d6_6) rfl ((if0 _ _).trans (tlt ((lw_gt _ _).mpr hc6_2)).2.2.1) (by decide) (by decide) k) ?_
    refine own_by (T' := T1) (g' := (mkF m 14 #[.val (.ref ob), .val (.long yy), .second] [(.int 0)])) (fun t k => XS.iconst X1.here hx rfl (hb hby d6_13) k) ?_
    exact own_retN X1 hx (t := .boolean) Bd.notSynchronized Bd.returns (by simp) (hb hby d6_14) (by decide) (by decide) (by rw [e1]; exact ⟨by unfold own_u; rw [if_pos hc6_2]; rfl, N_, rfl⟩)
  · refine own_by (T' := T1) (g' := (mkF m 9 #[.val (.ref ob), .val (.long yy), .second] [])) (fun t k => XS.ifNo X1.here hx rfl (hb hby d6_6) rfl ((if0 _ _).trans (flt (fun q => hc6_2 ((lw_gt _ _).mp q))).2.2.1) k) ?_
    refine own_by (T' := T1) (g' := (mkF m 10 #[.val (.ref ob), .val (.long yy), .second] [(.int 1)])) (fun t k => XS.iconst X1.here hx rfl (hb hby d6_9) k) ?_
    refine own_by (T' := T1) (g' := (mkF m 14 #[.val (.ref ob), .val (.long yy), .second] [(.int 1)])) (fun t k => XS.goto X1.here hx rfl (pc0 := 10) (pc' := 14) rfl (hb hby d6_10) (by decide) (by decide) k) ?_
    exact own_retN X1 hx (t := .boolean) Bd.notSynchronized Bd.returns (by simp) (hb hby d6_14) (by decide) (by decide) (by rw [e1]; exact ⟨by unfold own_u; rw [if_neg hc6_2]; rfl, N_, rfl⟩)

theorem ef_7 (m : MethodId) (ob : Addr) (yy : Int64) : entryFrame m #[(.ref ob), (.long yy)] 3 = mkF m 0 #[.val (.ref ob), .val (.long yy), .second] [] := by first | (simp [entryFrame, mkF, argsToLocals, Value.category]; done) | rfl
theorem d7_0 : decode prog_47_method_9_code 0 = .ok (.aload_n 0, 1) := by decide +kernel
theorem d7_1 : decode prog_47_method_9_code 1 = .ok (.lload_n 1, 1) := by decide +kernel
theorem d7_2 : decode prog_47_method_9_code 2 = .ok (.putfield 63, 3) := by decide +kernel
theorem d7_5 : decode prog_47_method_9_code 5 = .ok (.return_, 1) := by decide +kernel
def Q7 (Z : State) (ob : Addr) (yy : Int64) (ch : Int64) (h0 : Heap) (n0 : Nat) (v : Option Value) (h : Heap) (L : List Loc) : Prop := v = none ∧ Fr n0 L ∧ Keep h0 h [ob] ∧ Exa Z h ob "com/example/hermit_crab/hermitcrab/engine/Table" ∧ Fld Z h ob "com/example/hermit_crab/hermitcrab/engine/Table" "changedAt" "J" (.long yy)
set_option maxRecDepth 65536 in
set_option maxHeartbeats 40000000 in
theorem rm7 (l : Launch) (Z : State) (a0 : Array Value) (hw : ∀ d ∈ tables_1, d.before a0 Z = true) (ws : List Jvm.Cond) (ob : Addr) (yy : Int64) (ch : Int64) (h0 : Heap) (n0 : Nat) (Zle : n0 ≤ h0.size) (E_ob : Exa Z h0 ob "com/example/hermit_crab/hermitcrab/engine/Table") (g_ob : n0 ≤ ob) (F_changedAt_ob : Fld Z h0 ob "com/example/hermit_crab/hermitcrab/engine/Table" "changedAt" "J" (.long ch)) :
    MetFree l (⟨"com/example/hermit_crab/hermitcrab/engine/Table", "markChangedAt", "(J)V"⟩ : MethodName) (head1 (Jvm.Cond.code (⟨"com/example/hermit_crab/hermitcrab/engine/Table", "markChangedAt", "(J)V"⟩ : MethodName) prog_47_method_9_code 3 none :: ws) ({ frames := 0, cells := 0, slots := 0, locals := 0 } : Room)) (fun a U => a = #[(.ref ob), (.long yy)] ∧ Z.Warmed39 U.vm ∧ U.heap = h0) (fun _ _ _ _ _ => True) (fun _ U o U' => ∃ v L, o = .returned v ∧ Q7 Z ob yy ch h0 n0 v U'.heap L ∧ FrameEnd U o U' L ({ frames := 0, cells := 0, slots := 0, locals := 0 } : Room).cells ({ frames := 0, cells := 0, slots := 0, locals := 0 } : Room).slots) := by
  refine MetFree.of_bodySF (plainFor_of_name pn_com_example_hermit_crab_hermitcrab_engine_Table) hisR ?_
  intro p e s m args below meth c s₁ Bd hml0 hP hK
  obtain ⟨rfl, hZ, hh⟩ := hP
  have hx := Bd.exec
  have hby := Bd.bytes
  have hml : c.maxLocals = 3 := hml0
  have hown : s.vm.findClass "com/example/hermit_crab/hermitcrab/engine/Table" = some m.cls := findClass_of_methodNamed Bd.named
  have hnm := (name_of_methodNamed Bd.named Bd.method).1
  have X0 : Stand p l e ({ frames := 0, cells := 0, slots := 0, locals := 0 } : Room) s m #[(.ref ob), (.long yy)] below meth c s₁ [] 0 0 := Stand.of_body Bd
  have e0 : s₁.heap = h0 := by rw [← hh, Bd.state]; rfl
  have N_ := Fr.nil n0
  have K_ := Keep.refl h0 [ob]
  show own_Goes p.tables e below s (Q7 Z ob yy ch h0 n0) ({ frames := 0, cells := 0, slots := 0, locals := 0 } : Room).cells ({ frames := 0, cells := 0, slots := 0, locals := 0 } : Room).slots s₁ (entryFrame m #[(.ref ob), (.long yy)] 3)
  refine own_by (T' := s₁) (g' := (mkF m 0 #[.val (.ref ob), .val (.long yy), .second] [])) (fun t k => castTop (ef_7 m ob yy) k) ?_
  refine own_by (T' := s₁) (g' := (mkF m 1 #[.val (.ref ob), .val (.long yy), .second] [(.ref ob)])) (fun t k => XS.aloadN X0.here hx rfl (hb hby d7_0) rfl rfl k) ?_
  refine own_by (T' := s₁) (g' := (mkF m 2 #[.val (.ref ob), .val (.long yy), .second] [(.long yy), (.ref ob)])) (fun t k => XS.lloadN X0.here hx rfl (hb hby d7_1) rfl k) ?_
  obtain ⟨T1, h1, X1, e1, W1, st1⟩ := putF X0 hx hZ hown (host := "") (Or.inl (hw _ (own_m 63 rfl))) Via.refl e0 F_changedAt_ob E_ob (Or.inl (hw _ (own_m 64 rfl))) (hw _ (own_m 1 rfl)) (ty := .long) (by decide) rfl rfl (g := (mkF m 2 #[.val (.ref ob), .val (.long yy), .second] [(.long yy), (.ref ob)])) rfl rfl (hb hby d7_2)
  have F_changedAt_ob_ := F_changedAt_ob.same W1
  have E_ob := E_ob.wr W1
  have Zle := Nat.le_trans Zle (Keep.of_wr W1).1
  have K_ := K_.wr W1 (Or.inl (List.mem_of_getElem? (i := 0) rfl))
  have F_changedAt_ob := F_changedAt_ob_
  have N_ := Fr.snoc X1 N_ g_ob
  refine own_by (T' := T1) (g' := (mkF m 5 #[.val (.ref ob), .val (.long yy), .second] [])) (fun t k => st1 t k) ?_
  exact own_retV X1 hx Bd.notSynchronized Bd.returns (hb hby d7_5) (by decide) (by decide) (by rw [e1]; exact ⟨rfl, N_, K_, E_ob, F_changedAt_ob⟩)

theorem ef_8 (m : MethodId) (yy : Int64) (ww : Int64) : entryFrame m #[(.long yy), (.long ww)] 4 = mkF m 0 #[.val (.long yy), .second, .val (.long ww), .second] [] := by first | (simp [entryFrame, mkF, argsToLocals, Value.category]; done) | rfl
theorem d8_0 : decode jdk_29_method_66_code 0 = .ok (.lload_n 0, 1) := by decide +kernel
theorem d8_1 : decode jdk_29_method_66_code 1 = .ok (.lload_n 2, 1) := by decide +kernel
theorem d8_2 : decode jdk_29_method_66_code 2 = .ok (.lcmp, 1) := by decide +kernel
theorem d8_3 : decode jdk_29_method_66_code 3 = .ok (.ifCond .lt 7, 3) := by decide +kernel
theorem d8_10 : decode jdk_29_method_66_code 10 = .ok (.lload_n 2, 1) := by decide +kernel
theorem d8_11 : decode jdk_29_method_66_code 11 = .ok (.lreturn, 1) := by decide +kernel
theorem d8_6 : decode jdk_29_method_66_code 6 = .ok (.lload_n 0, 1) := by decide +kernel
theorem d8_7 : decode jdk_29_method_66_code 7 = .ok (.goto 4, 3) := by decide +kernel
def Q8 (Z : State) (yy : Int64) (ww : Int64) (h0 : Heap) (n0 : Nat) (v : Option Value) (h : Heap) (L : List Loc) : Prop := v = some (.long (own_max yy ww)) ∧ Fr n0 L ∧ h = h0
set_option maxRecDepth 65536 in
set_option maxHeartbeats 40000000 in
theorem rm8 (l : Launch) (Z : State) (a0 : Array Value) (hw : ∀ d ∈ tables_1, d.before a0 Z = true) (ws : List Jvm.Cond) (yy : Int64) (ww : Int64) (h0 : Heap) (n0 : Nat) (Zle : n0 ≤ h0.size) :
    MetFree l (⟨"java/lang/Math", "max", "(JJ)J"⟩ : MethodName) (head1 (Jvm.Cond.code (⟨"java/lang/Math", "max", "(JJ)J"⟩ : MethodName) jdk_29_method_66_code 4 (some .long) :: ws) ({ frames := 0, cells := 0, slots := 0, locals := 0 } : Room)) (fun a U => a = #[(.long yy), (.long ww)] ∧ Z.Warmed39 U.vm ∧ U.heap = h0) (fun _ _ _ _ _ => True) (fun _ U o U' => ∃ v L, o = .returned v ∧ Q8 Z yy ww h0 n0 v U'.heap L ∧ FrameEnd U o U' L ({ frames := 0, cells := 0, slots := 0, locals := 0 } : Room).cells ({ frames := 0, cells := 0, slots := 0, locals := 0 } : Room).slots) := by
  refine MetFree.of_bodySF (Jvm.Free.JP.mathPlain rfl (by decide +kernel)) hisR ?_
  intro p e s m args below meth c s₁ Bd hml0 hP hK
  obtain ⟨rfl, hZ, hh⟩ := hP
  have hx := Bd.exec
  have hby := Bd.bytes
  have hml : c.maxLocals = 4 := hml0
  have hown : s.vm.findClass "java/lang/Math" = some m.cls := findClass_of_methodNamed Bd.named
  have hnm := (name_of_methodNamed Bd.named Bd.method).1
  have X0 : Stand p l e ({ frames := 0, cells := 0, slots := 0, locals := 0 } : Room) s m #[(.long yy), (.long ww)] below meth c s₁ [] 0 0 := Stand.of_body Bd
  have e0 : s₁.heap = h0 := by rw [← hh, Bd.state]; rfl
  have N_ := Fr.nil n0
  show own_Goes p.tables e below s (Q8 Z yy ww h0 n0) ({ frames := 0, cells := 0, slots := 0, locals := 0 } : Room).cells ({ frames := 0, cells := 0, slots := 0, locals := 0 } : Room).slots s₁ (entryFrame m #[(.long yy), (.long ww)] 4)
  refine own_by (T' := s₁) (g' := (mkF m 0 #[.val (.long yy), .second, .val (.long ww), .second] [])) (fun t k => castTop (ef_8 m yy ww) k) ?_
  refine own_by (T' := s₁) (g' := (mkF m 1 #[.val (.long yy), .second, .val (.long ww), .second] [(.long yy)])) (fun t k => XS.lloadN X0.here hx rfl (hb hby d8_0) rfl k) ?_
  refine own_by (T' := s₁) (g' := (mkF m 2 #[.val (.long yy), .second, .val (.long ww), .second] [(.long ww), (.long yy)])) (fun t k => XS.lloadN X0.here hx rfl (hb hby d8_1) rfl k) ?_
  refine own_by (T' := s₁) (g' := (mkF m 3 #[.val (.long yy), .second, .val (.long ww), .second] [(.int (lcmpW yy ww))])) (fun t k => XS.lcmp X0.here hx rfl (hb hby d8_2) rfl k) ?_
  by_cases hc3_1 : yy < ww
  · refine own_by (T' := s₁) (g' := (mkF m 10 #[.val (.long yy), .second, .val (.long ww), .second] [])) (fun t k => XS.ifYes X0.here hx rfl (pc0 := 3) (pc' := 10) rfl (hb hby d8_3) rfl ((if0 _ _).trans (tlt ((lw_lt _ _).mpr hc3_1)).1) (by decide) (by decide) k) ?_
    refine own_by (T' := s₁) (g' := (mkF m 11 #[.val (.long yy), .second, .val (.long ww), .second] [(.long ww)])) (fun t k => XS.lloadN X0.here hx rfl (hb hby d8_10) rfl k) ?_
    exact own_retJ X0 hx Bd.notSynchronized Bd.returns (hb hby d8_11) (by decide) (by decide) (by rw [e0]; exact ⟨by unfold own_max; rw [if_pos hc3_1], N_, rfl⟩)
  · refine own_by (T' := s₁) (g' := (mkF m 6 #[.val (.long yy), .second, .val (.long ww), .second] [])) (fun t k => XS.ifNo X0.here hx rfl (hb hby d8_3) rfl ((if0 _ _).trans (flt (fun q => hc3_1 ((lw_lt _ _).mp q))).1) k) ?_
    refine own_by (T' := s₁) (g' := (mkF m 7 #[.val (.long yy), .second, .val (.long ww), .second] [(.long yy)])) (fun t k => XS.lloadN X0.here hx rfl (hb hby d8_6) rfl k) ?_
    refine own_by (T' := s₁) (g' := (mkF m 11 #[.val (.long yy), .second, .val (.long ww), .second] [(.long yy)])) (fun t k => XS.goto X0.here hx rfl (pc0 := 7) (pc' := 11) rfl (hb hby d8_7) (by decide) (by decide) k) ?_
    exact own_retJ X0 hx Bd.notSynchronized Bd.returns (hb hby d8_11) (by decide) (by decide) (by rw [e0]; exact ⟨by unfold own_max; rw [if_neg hc3_1], N_, rfl⟩)

theorem pn_com_example_hermit_crab_hermitcrab_engine_TableIsUnchangedSincePinLaw : plainName "com/example/hermit_crab/hermitcrab/engine/TableIsUnchangedSincePinLaw" = true := by first | (simp [plainName, overriddenIn]; done) | decide +kernel
theorem ef_0 (m : MethodId) (x1 : Int64) (x2 : Int64) (x3 : Int64) (x4 : Int32) : entryFrame m #[(.long x1), (.long x2), (.long x3), (.int x4)] maxLocals = mkF m 0 #[.val (.long x1), .second, .val (.long x2), .second, .val (.long x3), .second, .val (.int x4), .unset, .unset, .unset, .unset, .unset, .unset, .unset, .unset] [] := by first | (simp [entryFrame, mkF, argsToLocals, Value.category, maxLocals]; done) | rfl
theorem pd_0 : parseMethodDescriptor "(Ljava/lang/String;Lcom/example/hermit_crab/hermitcrab/sql/Columns;I)V" = some ⟨[(.object "java/lang/String"), (.object "com/example/hermit_crab/hermitcrab/sql/Columns"), .int], none⟩ := by decide +kernel
theorem pd_2 : parseMethodDescriptor "(J)Z" = some ⟨[.long], some .boolean⟩ := by decide +kernel
theorem pd_3 : parseMethodDescriptor "(J)V" = some ⟨[.long], none⟩ := by decide +kernel
theorem pd_4 : parseMethodDescriptor "(JJ)J" = some ⟨[.long, .long], some .long⟩ := by decide +kernel
def Q0 (Z : State) (x1 : Int64) (x2 : Int64) (x3 : Int64) (x4 : Int32) (h0 : Heap) (n0 : Nat) (v : Option Value) (h : Heap) (L : List Loc) : Prop := v = some (.int 1) ∧ Fr n0 L
set_option maxRecDepth 65536 in
set_option maxHeartbeats 40000000 in
theorem rm0 (l : Launch) (Z : State) (a0 : Array Value) (hw : ∀ d ∈ tables_1, d.before a0 Z = true) (ws : List Jvm.Cond) (x1 : Int64) (x2 : Int64) (x3 : Int64) (x4 : Int32) (h0 : Heap) (n0 : Nat) (Zle : n0 ≤ h0.size) :
    MetFree l x (head1 (Jvm.Cond.code x code maxLocals ret :: ws) room_1) (fun a U => a = #[(.long x1), (.long x2), (.long x3), (.int x4)] ∧ Z.Warmed39 U.vm ∧ U.heap = h0) (fun _ _ _ _ _ => True) (fun _ U o U' => ∃ v L, o = .returned v ∧ Q0 Z x1 x2 x3 x4 h0 n0 v U'.heap L ∧ ReturnedEndW U o U' L room_1.cells room_1.slots) := by
  refine MetFree.of_bodySF (plainFor_of_name pn_com_example_hermit_crab_hermitcrab_engine_TableIsUnchangedSincePinLaw) hisR ?_
  intro p e s m args below meth c s₁ Bd hml0 hP hK
  obtain ⟨rfl, hZ, hh⟩ := hP
  have hx := Bd.exec
  have hby := Bd.bytes
  have hml : c.maxLocals = 15 := hml0
  have hown : s.vm.findClass "com/example/hermit_crab/hermitcrab/engine/TableIsUnchangedSincePinLaw" = some m.cls := findClass_of_methodNamed Bd.named
  have hnm := (name_of_methodNamed Bd.named Bd.method).1
  have X0 : Stand p l e room_1 s m #[(.long x1), (.long x2), (.long x3), (.int x4)] below meth c s₁ [] 0 0 := Stand.of_body Bd
  have e0 : s₁.heap = h0 := by rw [← hh, Bd.state]; rfl
  have hS : s.Since s.vm 0 := (State.WarmedH.refl s).since 0
  have X0 : Stand p l e room_1 (s.setVm s.vm) m #[(.long x1), (.long x2), (.long x3), (.int x4)] below meth c s₁ [] 0 0 := X0
  have hk_ : 0 ≤ h0.size := Nat.zero_le _
  have hZ : Z.Warmed39 (s.setVm s.vm).vm := hZ
  have hown : (s.setVm s.vm).vm.findClass "com/example/hermit_crab/hermitcrab/engine/TableIsUnchangedSincePinLaw" = some m.cls := hown
  have N_ := Fr.nil n0
  show own_GoesW p.tables e below s (Q0 Z x1 x2 x3 x4 h0 n0) room_1.cells room_1.slots s₁ (entryFrame m #[(.long x1), (.long x2), (.long x3), (.int x4)] maxLocals)
  refine own_byW (T' := s₁) (g' := (mkF m 0 #[.val (.long x1), .second, .val (.long x2), .second, .val (.long x3), .second, .val (.int x4), .unset, .unset, .unset, .unset, .unset, .unset, .unset, .unset] [])) (fun t k => castTop (ef_0 m x1 x2 x3 x4) k) ?_
  obtain ⟨T1, h1, X1, e1, E1, A1, D1, -, st1⟩ := newO X0 hx hZ hown (hw _ (own_m 0 rfl)) (hw _ (own_m 1 rfl)) (hw _ (own_m 2 rfl)) e0 (g := (mkF m 0 #[.val (.long x1), .second, .val (.long x2), .second, .val (.long x3), .second, .val (.int x4), .unset, .unset, .unset, .unset, .unset, .unset, .unset, .unset] [])) rfl (hb hby at_0) (by decide) (by decide)
  obtain ⟨b1, g1⟩ : ∃ z, z = h0.size := ⟨_, rfl⟩
  rw [← g1] at A1 D1 st1
  have g_b1 : n0 ≤ b1 := Nat.le_trans Zle (Nat.le_of_eq g1.symm)
  have Zle := Nat.le_trans Zle E1.1
  have hk_ := Nat.le_trans hk_ E1.1
  have E_b1 := A1
  have F_slots_b1 : Fld Z h1 b1 "com/example/hermit_crab/hermitcrab/engine/Table" "slots" "Lcom/example/hermit_crab/hermitcrab/engine/KeyIndex;" .null := D1 (Or.inr (hw _ (own_m 33 rfl))) (ty := (.object "com/example/hermit_crab/hermitcrab/engine/KeyIndex")) (by decide)
  have F_kept_b1 : Fld Z h1 b1 "com/example/hermit_crab/hermitcrab/engine/Table" "kept" "Ljava/util/ArrayDeque;" .null := D1 (Or.inr (hw _ (own_m 51 rfl))) (ty := (.object "java/util/ArrayDeque")) (by decide)
  have F_name_b1 : Fld Z h1 b1 "com/example/hermit_crab/hermitcrab/engine/Table" "name" "Ljava/lang/String;" .null := D1 (Or.inr (hw _ (own_m 53 rfl))) (ty := (.object "java/lang/String")) (by decide)
  have F_columns_b1 : Fld Z h1 b1 "com/example/hermit_crab/hermitcrab/engine/Table" "columns" "Lcom/example/hermit_crab/hermitcrab/sql/Columns;" .null := D1 (Or.inr (hw _ (own_m 55 rfl))) (ty := (.object "com/example/hermit_crab/hermitcrab/sql/Columns")) (by decide)
  have F_primaryKeyIndex_b1 : Fld Z h1 b1 "com/example/hermit_crab/hermitcrab/engine/Table" "primaryKeyIndex" "I" (.int 0) := D1 (Or.inr (hw _ (own_m 57 rfl))) (ty := .int) (by decide)
  have F_changedAt_b1 : Fld Z h1 b1 "com/example/hermit_crab/hermitcrab/engine/Table" "changedAt" "J" (.long 0) := D1 (Or.inl (hw _ (own_m 64 rfl))) (ty := .long) (by decide)
  refine own_byW (T' := T1) (g' := (mkF m 3 #[.val (.long x1), .second, .val (.long x2), .second, .val (.long x3), .second, .val (.int x4), .unset, .unset, .unset, .unset, .unset, .unset, .unset, .unset] [(.ref b1)])) (fun t k => st1 t k) ?_
  refine own_byW (T' := T1) (g' := (mkF m 4 #[.val (.long x1), .second, .val (.long x2), .second, .val (.long x3), .second, .val (.int x4), .unset, .unset, .unset, .unset, .unset, .unset, .unset, .unset] [(.ref b1), (.ref b1)])) (fun t k => XS.dup X1.here hx rfl (hb hby at_3) rfl rfl k) ?_
  obtain ⟨sa2, T2, h2, kk2, X2, e2, E2, hS, hk_, hZ, hown, st2⟩ := ldcS X1 hx hZ hown (hw _ (own_m 3 rfl)) (own_str hw (by decide +kernel)) e1 hS hk_ (g := (mkF m 4 #[.val (.long x1), .second, .val (.long x2), .second, .val (.long x3), .second, .val (.int x4), .unset, .unset, .unset, .unset, .unset, .unset, .unset, .unset] [(.ref b1), (.ref b1)])) rfl (hb hby at_4) (n := 4) (by decide) (by decide) (by decide) (by decide)
  have Zle := Nat.le_trans Zle E2.1
  have E_b1 := E_b1.ext E2
  have F_slots_b1 := F_slots_b1.ext E2
  have F_kept_b1 := F_kept_b1.ext E2
  have F_name_b1 := F_name_b1.ext E2
  have F_columns_b1 := F_columns_b1.ext E2
  have F_primaryKeyIndex_b1 := F_primaryKeyIndex_b1.ext E2
  have F_changedAt_b1 := F_changedAt_b1.ext E2
  refine own_byW (T' := T2) (g' := (mkF m 6 #[.val (.long x1), .second, .val (.long x2), .second, .val (.long x3), .second, .val (.int x4), .unset, .unset, .unset, .unset, .unset, .unset, .unset, .unset] [(.ref sa2), (.ref b1), (.ref b1)])) (fun t k => st2 t k) ?_
  refine own_byW (T' := T2) (g' := (mkF m 7 #[.val (.long x1), .second, .val (.long x2), .second, .val (.long x3), .second, .val (.int x4), .unset, .unset, .unset, .unset, .unset, .unset, .unset, .unset] [.null, (.ref sa2), (.ref b1), (.ref b1)])) (fun t k => XS.aconstNull X2.here hx rfl (hb hby at_6) k) ?_
  refine own_byW (T' := T2) (g' := (mkF m 8 #[.val (.long x1), .second, .val (.long x2), .second, .val (.long x3), .second, .val (.int x4), .unset, .unset, .unset, .unset, .unset, .unset, .unset, .unset] [(.int 0), .null, (.ref sa2), (.ref b1), (.ref b1)])) (fun t k => XS.iconst X2.here hx rfl (hb hby at_7) k) ?_
  obtain ⟨_, _, ⟨T3, L3, k3, n3⟩, -, X3, ⟨Lc3, hQ3, l3, y3, z3⟩, st3⟩ := X2.specialBack hx (y := (⟨"com/example/hermit_crab/hermitcrab/engine/Table", "<init>", "(Ljava/lang/String;Lcom/example/hermit_crab/hermitcrab/sql/Columns;I)V"⟩ : MethodName)) rfl hown (mvT hZ (hw _ (own_m 11 rfl))) (mvT hZ (hw _ (own_m 12 rfl))) (mvT hZ (hw _ (own_m 13 rfl))) (by decide) (backOf (W := 1) (rm1 l Z a0 hw [] b1 sa2 (0 : Int32) h2 n0 Zle E_b1 g_b1 F_slots_b1 F_kept_b1 F_name_b1 F_columns_b1 F_primaryKeyIndex_b1 F_changedAt_b1) hZ (hw _ (own_m 13 rfl)) (hw _ (own_m 2 rfl)) (by decide) (by decide)) (g := (mkF m 8 #[.val (.long x1), .second, .val (.long x2), .second, .val (.long x3), .second, .val (.int x4), .unset, .unset, .unset, .unset, .unset, .unset, .unset, .unset] [(.int 0), .null, (.ref sa2), (.ref b1), (.ref b1)])) rfl (by rw [hml]; rfl) (Steps.refl _) (a := b1) (argsL := [(.ref sa2), .null, (.int 0)]) (rest := [(.ref b1)]) (lenOf pd_0 rfl) rfl (own_le rfl) (hb hby at_8) (fun _ _ => ⟨rfl, e2, (by decide : 3 + 6 ≤ _), (by decide : 16 + 71 ≤ _)⟩)
  dsimp only [Pt.U, Pt.locs, Pt.cells, Pt.slots] at X3 l3 y3 z3 st3 hQ3
  subst l3 y3 z3
  obtain ⟨rfl, Nq3, c3_0, c3_1, c3_2⟩ := hQ3
  have N_ := Fr.app N_ Nq3
  have Zle := Nat.le_trans Zle c3_0.1
  have E_b1 := E_b1.keep c3_0
  have hk_ := Nat.le_trans hk_ c3_0.1
  refine own_byW (T' := T3) (g' := (mkF m 11 #[.val (.long x1), .second, .val (.long x2), .second, .val (.long x3), .second, .val (.int x4), .unset, .unset, .unset, .unset, .unset, .unset, .unset, .unset] [(.ref b1)])) (fun t k => st3.trans k) ?_
  refine own_byW (T' := T3) (g' := (mkF m 13 #[.val (.long x1), .second, .val (.long x2), .second, .val (.long x3), .second, .val (.int x4), .val (.ref b1), .unset, .unset, .unset, .unset, .unset, .unset, .unset] [])) (fun t k => XS.astore X3.here hx rfl (hb hby at_11) rfl rfl (l' := #[.val (.long x1), .second, .val (.long x2), .second, .val (.long x3), .second, .val (.int x4), .val (.ref b1), .unset, .unset, .unset, .unset, .unset, .unset, .unset]) rfl k) ?_
  refine own_byW (T' := T3) (g' := (mkF m 15 #[.val (.long x1), .second, .val (.long x2), .second, .val (.long x3), .second, .val (.int x4), .val (.ref b1), .unset, .unset, .unset, .unset, .unset, .unset, .unset] [(.ref b1)])) (fun t k => XS.aload X3.here hx rfl (hb hby at_13) rfl rfl k) ?_
  refine own_byW (T' := T3) (g' := (mkF m 17 #[.val (.long x1), .second, .val (.long x2), .second, .val (.long x3), .second, .val (.int x4), .val (.ref b1), .unset, .unset, .unset, .unset, .unset, .unset, .unset] [(.long x3), (.ref b1)])) (fun t k => XS.lload X3.here hx rfl (hb hby at_15) rfl k) ?_
  obtain ⟨cq4, kq4, q4a, q4b, q4c⟩ := isOf hZ rfl c3_1
  obtain ⟨_, _, ⟨T4, L4, k4, n4⟩, -, X4, ⟨Lc4, hQ4, l4, y4, z4⟩, st4⟩ := X3.virtualBack hx (y := (⟨"com/example/hermit_crab/hermitcrab/engine/Table", "isUnchangedSince", "(J)Z"⟩ : MethodName)) (z := (⟨"com/example/hermit_crab/hermitcrab/engine/Table", "isUnchangedSince", "(J)Z"⟩ : MethodName)) hown (mvT hZ (hw _ (own_m 58 rfl))) (mvT hZ (hw _ (own_m 59 rfl))) (notFace_of_selects (args := #[]) (mvT hZ (hw _ (own_m 61 rfl)))) (mvT hZ (hw _ (own_m 61 rfl))) (mvT hZ (hw _ (own_m 60 rfl))) (by decide) (backOf (W := 0) (rm6 l Z a0 hw [] b1 x3 (0 : Int64) T3.heap n0 Zle c3_2) hZ (hw _ (own_m 62 rfl)) (hw _ (own_m 2 rfl)) (by decide) (by decide)) q4a q4c (g := (mkF m 17 #[.val (.long x1), .second, .val (.long x2), .second, .val (.long x3), .second, .val (.int x4), .val (.ref b1), .unset, .unset, .unset, .unset, .unset, .unset, .unset] [(.long x3), (.ref b1)])) rfl (by rw [hml]; rfl) (Steps.refl _) (argsL := [(.long x3)]) (rest := []) (lenOf pd_2 rfl) rfl (own_le rfl) (hb hby at_17) (fun _ _ => ⟨rfl, rfl, (by decide : 9 + 0 ≤ _), (by decide : 87 + 0 ≤ _)⟩)
  dsimp only [Pt.U, Pt.locs, Pt.cells, Pt.slots] at X4 l4 y4 z4 st4 hQ4
  subst l4 y4 z4
  obtain ⟨rfl, Nq4, e4⟩ := hQ4
  have N_ := Fr.app N_ Nq4
  refine own_byW (T' := T4) (g' := (mkF m 20 #[.val (.long x1), .second, .val (.long x2), .second, .val (.long x3), .second, .val (.int x4), .val (.ref b1), .unset, .unset, .unset, .unset, .unset, .unset, .unset] [(.int (own_u (0 : Int64) x3))])) (fun t k => st4.trans k) ?_
  have J42_5 : own_GoesW p.tables e below s (Q0 Z x1 x2 x3 x4 h0 n0) room_1.cells room_1.slots T4 (mkF m 42 #[.val (.long x1), .second, .val (.long x2), .second, .val (.long x3), .second, .val (.int x4), .val (.ref b1), .val (.int 1), .unset, .unset, .unset, .unset, .unset, .unset] []) := by
    refine own_byW (T' := T4) (g' := (mkF m 44 #[.val (.long x1), .second, .val (.long x2), .second, .val (.long x3), .second, .val (.int x4), .val (.ref b1), .val (.int 1), .unset, .unset, .unset, .unset, .unset, .unset] [(.int x4)])) (fun t k => XS.iload X4.here hx rfl (hb hby at_42) rfl k) ?_
    refine own_byW (T' := T4) (g' := (mkF m 45 #[.val (.long x1), .second, .val (.long x2), .second, .val (.long x3), .second, .val (.int x4), .val (.ref b1), .val (.int 1), .unset, .unset, .unset, .unset, .unset, .unset] [(.int 3), (.int x4)])) (fun t k => XS.iconst X4.here hx rfl (hb hby at_44) k) ?_
    refine own_byW (T' := T4) (g' := (mkF m 46 #[.val (.long x1), .second, .val (.long x2), .second, .val (.long x3), .second, .val (.int x4), .val (.ref b1), .val (.int 1), .unset, .unset, .unset, .unset, .unset, .unset] [(.int (x4 &&& (3 : Int32)))])) (fun t k => XS.iand X4.here hx rfl (hb hby at_45) rfl k) ?_
    refine own_byW (T' := T4) (g' := (mkF m 48 #[.val (.long x1), .second, .val (.long x2), .second, .val (.long x3), .second, .val (.int x4), .val (.ref b1), .val (.int 1), .val (.int (x4 &&& (3 : Int32))), .unset, .unset, .unset, .unset, .unset] [])) (fun t k => XS.istore X4.here hx rfl (hb hby at_46) rfl (l' := #[.val (.long x1), .second, .val (.long x2), .second, .val (.long x3), .second, .val (.int x4), .val (.ref b1), .val (.int 1), .val (.int (x4 &&& (3 : Int32))), .unset, .unset, .unset, .unset, .unset]) rfl k) ?_
    refine own_byW (T' := T4) (g' := (mkF m 49 #[.val (.long x1), .second, .val (.long x2), .second, .val (.long x3), .second, .val (.int x4), .val (.ref b1), .val (.int 1), .val (.int (x4 &&& (3 : Int32))), .unset, .unset, .unset, .unset, .unset] [(.long 0)])) (fun t k => XS.lconst X4.here hx rfl (hb hby at_48) k) ?_
    refine own_byW (T' := T4) (g' := (mkF m 51 #[.val (.long x1), .second, .val (.long x2), .second, .val (.long x3), .second, .val (.int x4), .val (.ref b1), .val (.int 1), .val (.int (x4 &&& (3 : Int32))), .val (.long 0), .second, .unset, .unset, .unset] [])) (fun t k => XS.lstore X4.here hx rfl (hb hby at_49) rfl (l' := #[.val (.long x1), .second, .val (.long x2), .second, .val (.long x3), .second, .val (.int x4), .val (.ref b1), .val (.int 1), .val (.int (x4 &&& (3 : Int32))), .val (.long 0), .second, .unset, .unset, .unset]) rfl k) ?_
    rcases own_and3 x4 with hk4 | hk4 | hk4 | hk4
    · rw [hk4]
      refine own_byW (T' := T4) (g' := (mkF m 53 #[.val (.long x1), .second, .val (.long x2), .second, .val (.long x3), .second, .val (.int x4), .val (.ref b1), .val (.int 1), .val (.int 0), .val (.long 0), .second, .unset, .unset, .unset] [(.int 0)])) (fun t k => XS.iload X4.here hx rfl (hb hby at_51) rfl k) ?_
      refine own_byW (T' := T4) (g' := (mkF m 54 #[.val (.long x1), .second, .val (.long x2), .second, .val (.long x3), .second, .val (.int x4), .val (.ref b1), .val (.int 1), .val (.int 0), .val (.long 0), .second, .unset, .unset, .unset] [(.int 1), (.int 0)])) (fun t k => XS.iconst X4.here hx rfl (hb hby at_53) k) ?_
      refine own_byW (T' := T4) (g' := (mkF m 66 #[.val (.long x1), .second, .val (.long x2), .second, .val (.long x3), .second, .val (.int x4), .val (.ref b1), .val (.int 1), .val (.int 0), .val (.long 0), .second, .unset, .unset, .unset] [])) (fun t k => XS.icmpYes X4.here hx rfl (pc0 := 54) (pc' := 66) rfl (hb hby at_54) rfl (tlt (by decide)).1 (by decide) (by decide) k) ?_
      refine own_byW (T' := T4) (g' := (mkF m 68 #[.val (.long x1), .second, .val (.long x2), .second, .val (.long x3), .second, .val (.int x4), .val (.ref b1), .val (.int 1), .val (.int 0), .val (.long 0), .second, .unset, .unset, .unset] [(.int 0)])) (fun t k => XS.iload X4.here hx rfl (hb hby at_66) rfl k) ?_
      refine own_byW (T' := T4) (g' := (mkF m 69 #[.val (.long x1), .second, .val (.long x2), .second, .val (.long x3), .second, .val (.int x4), .val (.ref b1), .val (.int 1), .val (.int 0), .val (.long 0), .second, .unset, .unset, .unset] [(.int 2), (.int 0)])) (fun t k => XS.iconst X4.here hx rfl (hb hby at_68) k) ?_
      refine own_byW (T' := T4) (g' := (mkF m 90 #[.val (.long x1), .second, .val (.long x2), .second, .val (.long x3), .second, .val (.int x4), .val (.ref b1), .val (.int 1), .val (.int 0), .val (.long 0), .second, .unset, .unset, .unset] [])) (fun t k => XS.icmpYes X4.here hx rfl (pc0 := 69) (pc' := 90) rfl (hb hby at_69) rfl (tlt (by decide)).1 (by decide) (by decide) k) ?_
      refine own_byW (T' := T4) (g' := (mkF m 92 #[.val (.long x1), .second, .val (.long x2), .second, .val (.long x3), .second, .val (.int x4), .val (.ref b1), .val (.int 1), .val (.int 0), .val (.long 0), .second, .unset, .unset, .unset] [(.ref b1)])) (fun t k => XS.aload X4.here hx rfl (hb hby at_90) rfl rfl k) ?_
      refine own_byW (T' := T4) (g' := (mkF m 94 #[.val (.long x1), .second, .val (.long x2), .second, .val (.long x3), .second, .val (.int x4), .val (.ref b1), .val (.int 1), .val (.int 0), .val (.long 0), .second, .unset, .unset, .unset] [(.long x3), (.ref b1)])) (fun t k => XS.lload X4.here hx rfl (hb hby at_92) rfl k) ?_
      obtain ⟨cq6, kq6, q6a, q6b, q6c⟩ := isOf hZ e4 c3_1
      obtain ⟨_, _, ⟨T6, L6, k6, n6⟩, -, X6, ⟨Lc6, hQ6, l6, y6, z6⟩, st6⟩ := X4.virtualBack hx (y := (⟨"com/example/hermit_crab/hermitcrab/engine/Table", "isUnchangedSince", "(J)Z"⟩ : MethodName)) (z := (⟨"com/example/hermit_crab/hermitcrab/engine/Table", "isUnchangedSince", "(J)Z"⟩ : MethodName)) hown (mvT hZ (hw _ (own_m 58 rfl))) (mvT hZ (hw _ (own_m 59 rfl))) (notFace_of_selects (args := #[]) (mvT hZ (hw _ (own_m 61 rfl)))) (mvT hZ (hw _ (own_m 61 rfl))) (mvT hZ (hw _ (own_m 60 rfl))) (by decide) (backOf (W := 0) (rm6 l Z a0 hw [] b1 x3 (0 : Int64) T3.heap n0 Zle c3_2) hZ (hw _ (own_m 62 rfl)) (hw _ (own_m 2 rfl)) (by decide) (by decide)) q6a q6c (g := (mkF m 94 #[.val (.long x1), .second, .val (.long x2), .second, .val (.long x3), .second, .val (.int x4), .val (.ref b1), .val (.int 1), .val (.int 0), .val (.long 0), .second, .unset, .unset, .unset] [(.long x3), (.ref b1)])) rfl (by rw [hml]; rfl) (Steps.refl _) (argsL := [(.long x3)]) (rest := []) (lenOf pd_2 rfl) rfl (own_le rfl) (hb hby at_94) (fun _ _ => ⟨rfl, e4, (by decide : 9 + 0 ≤ _), (by decide : 87 + 0 ≤ _)⟩)
      dsimp only [Pt.U, Pt.locs, Pt.cells, Pt.slots] at X6 l6 y6 z6 st6 hQ6
      subst l6 y6 z6
      obtain ⟨rfl, Nq6, e6⟩ := hQ6
      have N_ := Fr.app N_ Nq6
      refine own_byW (T' := T6) (g' := (mkF m 97 #[.val (.long x1), .second, .val (.long x2), .second, .val (.long x3), .second, .val (.int x4), .val (.ref b1), .val (.int 1), .val (.int 0), .val (.long 0), .second, .unset, .unset, .unset] [(.int (own_u (0 : Int64) x3))])) (fun t k => st6.trans k) ?_
      have J120_7 : own_GoesW p.tables e below s (Q0 Z x1 x2 x3 x4 h0 n0) room_1.cells room_1.slots T6 (mkF m 120 #[.val (.long x1), .second, .val (.long x2), .second, .val (.long x3), .second, .val (.int x4), .val (.ref b1), .val (.int 1), .val (.int 0), .val (.long 0), .second, .val (.int 1), .unset, .unset] []) := by
        refine own_byW (T' := T6) (g' := (mkF m 122 #[.val (.long x1), .second, .val (.long x2), .second, .val (.long x3), .second, .val (.int x4), .val (.ref b1), .val (.int 1), .val (.int 0), .val (.long 0), .second, .val (.int 1), .unset, .unset] [(.ref b1)])) (fun t k => XS.aload X6.here hx rfl (hb hby at_120) rfl rfl k) ?_
        refine own_byW (T' := T6) (g' := (mkF m 124 #[.val (.long x1), .second, .val (.long x2), .second, .val (.long x3), .second, .val (.int x4), .val (.ref b1), .val (.int 1), .val (.int 0), .val (.long 0), .second, .val (.int 1), .unset, .unset] [(.long 0), (.ref b1)])) (fun t k => XS.lload X6.here hx rfl (hb hby at_122) rfl k) ?_
        obtain ⟨cq8, kq8, q8a, q8b, q8c⟩ := isOf hZ e6 c3_1
        obtain ⟨_, _, ⟨T8, L8, k8, n8⟩, -, X8, ⟨Lc8, hQ8, l8, y8, z8⟩, st8⟩ := X6.virtualBack hx (y := (⟨"com/example/hermit_crab/hermitcrab/engine/Table", "isUnchangedSince", "(J)Z"⟩ : MethodName)) (z := (⟨"com/example/hermit_crab/hermitcrab/engine/Table", "isUnchangedSince", "(J)Z"⟩ : MethodName)) hown (mvT hZ (hw _ (own_m 58 rfl))) (mvT hZ (hw _ (own_m 59 rfl))) (notFace_of_selects (args := #[]) (mvT hZ (hw _ (own_m 61 rfl)))) (mvT hZ (hw _ (own_m 61 rfl))) (mvT hZ (hw _ (own_m 60 rfl))) (by decide) (backOf (W := 0) (rm6 l Z a0 hw [] b1 (0 : Int64) (0 : Int64) T3.heap n0 Zle c3_2) hZ (hw _ (own_m 62 rfl)) (hw _ (own_m 2 rfl)) (by decide) (by decide)) q8a q8c (g := (mkF m 124 #[.val (.long x1), .second, .val (.long x2), .second, .val (.long x3), .second, .val (.int x4), .val (.ref b1), .val (.int 1), .val (.int 0), .val (.long 0), .second, .val (.int 1), .unset, .unset] [(.long 0), (.ref b1)])) rfl (by rw [hml]; rfl) (Steps.refl _) (argsL := [(.long 0)]) (rest := []) (lenOf pd_2 rfl) rfl (own_le rfl) (hb hby at_124) (fun _ _ => ⟨rfl, e6, (by decide : 9 + 0 ≤ _), (by decide : 87 + 0 ≤ _)⟩)
        dsimp only [Pt.U, Pt.locs, Pt.cells, Pt.slots] at X8 l8 y8 z8 st8 hQ8
        subst l8 y8 z8
        obtain ⟨rfl, Nq8, e8⟩ := hQ8
        have N_ := Fr.app N_ Nq8
        refine own_byW (T' := T8) (g' := (mkF m 127 #[.val (.long x1), .second, .val (.long x2), .second, .val (.long x3), .second, .val (.int x4), .val (.ref b1), .val (.int 1), .val (.int 0), .val (.long 0), .second, .val (.int 1), .unset, .unset] [(.int (own_u (0 : Int64) (0 : Int64)))])) (fun t k => st8.trans k) ?_
        refine own_byW (T' := T8) (g' := (mkF m 129 #[.val (.long x1), .second, .val (.long x2), .second, .val (.long x3), .second, .val (.int x4), .val (.ref b1), .val (.int 1), .val (.int 0), .val (.long 0), .second, .val (.int 1), .val (.int (own_u (0 : Int64) (0 : Int64))), .unset] [])) (fun t k => XS.istore X8.here hx rfl (hb hby at_127) rfl (l' := #[.val (.long x1), .second, .val (.long x2), .second, .val (.long x3), .second, .val (.int x4), .val (.ref b1), .val (.int 1), .val (.int 0), .val (.long 0), .second, .val (.int 1), .val (.int (own_u (0 : Int64) (0 : Int64))), .unset]) rfl k) ?_
        refine own_byW (T' := T8) (g' := (mkF m 131 #[.val (.long x1), .second, .val (.long x2), .second, .val (.long x3), .second, .val (.int x4), .val (.ref b1), .val (.int 1), .val (.int 0), .val (.long 0), .second, .val (.int 1), .val (.int (own_u (0 : Int64) (0 : Int64))), .unset] [(.long 0)])) (fun t k => XS.lload X8.here hx rfl (hb hby at_129) rfl k) ?_
        refine own_byW (T' := T8) (g' := (mkF m 134 #[.val (.long x1), .second, .val (.long x2), .second, .val (.long x3), .second, .val (.int x4), .val (.ref b1), .val (.int 1), .val (.int 0), .val (.long 0), .second, .val (.int 1), .val (.int (own_u (0 : Int64) (0 : Int64))), .unset] [(.long (-9223372036854775808)), (.long 0)])) (fun t k => X8.ldc2Long hx hown (mvT hZ (hw _ (own_m 74 rfl))) (g := (mkF m 131 #[.val (.long x1), .second, .val (.long x2), .second, .val (.long x3), .second, .val (.int x4), .val (.ref b1), .val (.int 1), .val (.int 0), .val (.long 0), .second, .val (.int 1), .val (.int (own_u (0 : Int64) (0 : Int64))), .unset] [(.long 0)])) rfl (hb hby at_131) _ k) ?_
        refine own_byW (T' := T8) (g' := (mkF m 135 #[.val (.long x1), .second, .val (.long x2), .second, .val (.long x3), .second, .val (.int x4), .val (.ref b1), .val (.int 1), .val (.int 0), .val (.long 0), .second, .val (.int 1), .val (.int (own_u (0 : Int64) (0 : Int64))), .unset] [(.int (lcmpW (0 : Int64) (-9223372036854775808 : Int64)))])) (fun t k => XS.lcmp X8.here hx rfl (hb hby at_134) rfl k) ?_
        refine own_byW (T' := T8) (g' := (mkF m 138 #[.val (.long x1), .second, .val (.long x2), .second, .val (.long x3), .second, .val (.int x4), .val (.ref b1), .val (.int 1), .val (.int 0), .val (.long 0), .second, .val (.int 1), .val (.int (own_u (0 : Int64) (0 : Int64))), .unset] [])) (fun t k => XS.ifNo X8.here hx rfl (hb hby at_135) rfl ((if0 _ _).trans (feq (fun q => (by decide : ¬ ((0 : Int64) = (-9223372036854775808 : Int64))) ((lw_eq _ _).mp q))).1) k) ?_
        refine own_byW (T' := T8) (g' := (mkF m 140 #[.val (.long x1), .second, .val (.long x2), .second, .val (.long x3), .second, .val (.int x4), .val (.ref b1), .val (.int 1), .val (.int 0), .val (.long 0), .second, .val (.int 1), .val (.int (own_u (0 : Int64) (0 : Int64))), .unset] [(.ref b1)])) (fun t k => XS.aload X8.here hx rfl (hb hby at_138) rfl rfl k) ?_
        refine own_byW (T' := T8) (g' := (mkF m 142 #[.val (.long x1), .second, .val (.long x2), .second, .val (.long x3), .second, .val (.int x4), .val (.ref b1), .val (.int 1), .val (.int 0), .val (.long 0), .second, .val (.int 1), .val (.int (own_u (0 : Int64) (0 : Int64))), .unset] [(.long 0), (.ref b1)])) (fun t k => XS.lload X8.here hx rfl (hb hby at_140) rfl k) ?_
        refine own_byW (T' := T8) (g' := (mkF m 143 #[.val (.long x1), .second, .val (.long x2), .second, .val (.long x3), .second, .val (.int x4), .val (.ref b1), .val (.int 1), .val (.int 0), .val (.long 0), .second, .val (.int 1), .val (.int (own_u (0 : Int64) (0 : Int64))), .unset] [(.long 1), (.long 0), (.ref b1)])) (fun t k => XS.lconst X8.here hx rfl (hb hby at_142) k) ?_
        refine own_byW (T' := T8) (g' := (mkF m 144 #[.val (.long x1), .second, .val (.long x2), .second, .val (.long x3), .second, .val (.int x4), .val (.ref b1), .val (.int 1), .val (.int 0), .val (.long 0), .second, .val (.int 1), .val (.int (own_u (0 : Int64) (0 : Int64))), .unset] [(.long (-1)), (.ref b1)])) (fun t k => XS.lsub X8.here hx rfl (hb hby at_143) rfl k) ?_
        obtain ⟨cq9, kq9, q9a, q9b, q9c⟩ := isOf hZ e8 c3_1
        obtain ⟨_, _, ⟨T9, L9, k9, n9⟩, -, X9, ⟨Lc9, hQ9, l9, y9, z9⟩, st9⟩ := X8.virtualBack hx (y := (⟨"com/example/hermit_crab/hermitcrab/engine/Table", "isUnchangedSince", "(J)Z"⟩ : MethodName)) (z := (⟨"com/example/hermit_crab/hermitcrab/engine/Table", "isUnchangedSince", "(J)Z"⟩ : MethodName)) hown (mvT hZ (hw _ (own_m 58 rfl))) (mvT hZ (hw _ (own_m 59 rfl))) (notFace_of_selects (args := #[]) (mvT hZ (hw _ (own_m 61 rfl)))) (mvT hZ (hw _ (own_m 61 rfl))) (mvT hZ (hw _ (own_m 60 rfl))) (by decide) (backOf (W := 0) (rm6 l Z a0 hw [] b1 (-1 : Int64) (0 : Int64) T3.heap n0 Zle c3_2) hZ (hw _ (own_m 62 rfl)) (hw _ (own_m 2 rfl)) (by decide) (by decide)) q9a q9c (g := (mkF m 144 #[.val (.long x1), .second, .val (.long x2), .second, .val (.long x3), .second, .val (.int x4), .val (.ref b1), .val (.int 1), .val (.int 0), .val (.long 0), .second, .val (.int 1), .val (.int (own_u (0 : Int64) (0 : Int64))), .unset] [(.long (-1)), (.ref b1)])) rfl (by rw [hml]; rfl) (Steps.refl _) (argsL := [(.long (-1))]) (rest := []) (lenOf pd_2 rfl) rfl (own_le rfl) (hb hby at_144) (fun _ _ => ⟨rfl, e8, (by decide : 9 + 0 ≤ _), (by decide : 87 + 0 ≤ _)⟩)
        dsimp only [Pt.U, Pt.locs, Pt.cells, Pt.slots] at X9 l9 y9 z9 st9 hQ9
        subst l9 y9 z9
        obtain ⟨rfl, Nq9, e9⟩ := hQ9
        have N_ := Fr.app N_ Nq9
        refine own_byW (T' := T9) (g' := (mkF m 147 #[.val (.long x1), .second, .val (.long x2), .second, .val (.long x3), .second, .val (.int x4), .val (.ref b1), .val (.int 1), .val (.int 0), .val (.long 0), .second, .val (.int 1), .val (.int (own_u (0 : Int64) (0 : Int64))), .unset] [(.int (own_u (0 : Int64) (-1 : Int64)))])) (fun t k => st9.trans k) ?_
        refine own_byW (T' := T9) (g' := (mkF m 150 #[.val (.long x1), .second, .val (.long x2), .second, .val (.long x3), .second, .val (.int x4), .val (.ref b1), .val (.int 1), .val (.int 0), .val (.long 0), .second, .val (.int 1), .val (.int (own_u (0 : Int64) (0 : Int64))), .unset] [])) (fun t k => XS.ifNo X9.here hx rfl (hb hby at_147) rfl ((if0 _ _).trans (teq (by decide)).2) k) ?_
        refine own_byW (T' := T9) (g' := (mkF m 151 #[.val (.long x1), .second, .val (.long x2), .second, .val (.long x3), .second, .val (.int x4), .val (.ref b1), .val (.int 1), .val (.int 0), .val (.long 0), .second, .val (.int 1), .val (.int (own_u (0 : Int64) (0 : Int64))), .unset] [(.int 1)])) (fun t k => XS.iconst X9.here hx rfl (hb hby at_150) k) ?_
        refine own_byW (T' := T9) (g' := (mkF m 155 #[.val (.long x1), .second, .val (.long x2), .second, .val (.long x3), .second, .val (.int x4), .val (.ref b1), .val (.int 1), .val (.int 0), .val (.long 0), .second, .val (.int 1), .val (.int (own_u (0 : Int64) (0 : Int64))), .unset] [(.int 1)])) (fun t k => XS.goto X9.here hx rfl (pc0 := 151) (pc' := 155) rfl (hb hby at_151) (by decide) (by decide) k) ?_
        refine own_byW (T' := T9) (g' := (mkF m 157 #[.val (.long x1), .second, .val (.long x2), .second, .val (.long x3), .second, .val (.int x4), .val (.ref b1), .val (.int 1), .val (.int 0), .val (.long 0), .second, .val (.int 1), .val (.int (own_u (0 : Int64) (0 : Int64))), .val (.int 1)] [])) (fun t k => XS.istore X9.here hx rfl (hb hby at_155) rfl (l' := #[.val (.long x1), .second, .val (.long x2), .second, .val (.long x3), .second, .val (.int x4), .val (.ref b1), .val (.int 1), .val (.int 0), .val (.long 0), .second, .val (.int 1), .val (.int (own_u (0 : Int64) (0 : Int64))), .val (.int 1)]) rfl k) ?_
        refine own_byW (T' := T9) (g' := (mkF m 159 #[.val (.long x1), .second, .val (.long x2), .second, .val (.long x3), .second, .val (.int x4), .val (.ref b1), .val (.int 1), .val (.int 0), .val (.long 0), .second, .val (.int 1), .val (.int (own_u (0 : Int64) (0 : Int64))), .val (.int 1)] [(.int 1)])) (fun t k => XS.iload X9.here hx rfl (hb hby at_157) rfl k) ?_
        refine own_byW (T' := T9) (g' := (mkF m 162 #[.val (.long x1), .second, .val (.long x2), .second, .val (.long x3), .second, .val (.int x4), .val (.ref b1), .val (.int 1), .val (.int 0), .val (.long 0), .second, .val (.int 1), .val (.int (own_u (0 : Int64) (0 : Int64))), .val (.int 1)] [])) (fun t k => XS.ifNo X9.here hx rfl (hb hby at_159) rfl ((if0 _ _).trans (feq (by decide)).1) k) ?_
        refine own_byW (T' := T9) (g' := (mkF m 164 #[.val (.long x1), .second, .val (.long x2), .second, .val (.long x3), .second, .val (.int x4), .val (.ref b1), .val (.int 1), .val (.int 0), .val (.long 0), .second, .val (.int 1), .val (.int (own_u (0 : Int64) (0 : Int64))), .val (.int 1)] [(.int 1)])) (fun t k => XS.iload X9.here hx rfl (hb hby at_162) rfl k) ?_
        refine own_byW (T' := T9) (g' := (mkF m 167 #[.val (.long x1), .second, .val (.long x2), .second, .val (.long x3), .second, .val (.int x4), .val (.ref b1), .val (.int 1), .val (.int 0), .val (.long 0), .second, .val (.int 1), .val (.int (own_u (0 : Int64) (0 : Int64))), .val (.int 1)] [])) (fun t k => XS.ifNo X9.here hx rfl (hb hby at_164) rfl ((if0 _ _).trans (feq (by decide)).1) k) ?_
        refine own_byW (T' := T9) (g' := (mkF m 169 #[.val (.long x1), .second, .val (.long x2), .second, .val (.long x3), .second, .val (.int x4), .val (.ref b1), .val (.int 1), .val (.int 0), .val (.long 0), .second, .val (.int 1), .val (.int (own_u (0 : Int64) (0 : Int64))), .val (.int 1)] [(.int (own_u (0 : Int64) (0 : Int64)))])) (fun t k => XS.iload X9.here hx rfl (hb hby at_167) rfl k) ?_
        refine own_byW (T' := T9) (g' := (mkF m 172 #[.val (.long x1), .second, .val (.long x2), .second, .val (.long x3), .second, .val (.int x4), .val (.ref b1), .val (.int 1), .val (.int 0), .val (.long 0), .second, .val (.int 1), .val (.int (own_u (0 : Int64) (0 : Int64))), .val (.int 1)] [])) (fun t k => XS.ifNo X9.here hx rfl (hb hby at_169) rfl ((if0 _ _).trans (feq (own_u_self _)).1) k) ?_
        refine own_byW (T' := T9) (g' := (mkF m 174 #[.val (.long x1), .second, .val (.long x2), .second, .val (.long x3), .second, .val (.int x4), .val (.ref b1), .val (.int 1), .val (.int 0), .val (.long 0), .second, .val (.int 1), .val (.int (own_u (0 : Int64) (0 : Int64))), .val (.int 1)] [(.int 1)])) (fun t k => XS.iload X9.here hx rfl (hb hby at_172) rfl k) ?_
        refine own_byW (T' := T9) (g' := (mkF m 177 #[.val (.long x1), .second, .val (.long x2), .second, .val (.long x3), .second, .val (.int x4), .val (.ref b1), .val (.int 1), .val (.int 0), .val (.long 0), .second, .val (.int 1), .val (.int (own_u (0 : Int64) (0 : Int64))), .val (.int 1)] [])) (fun t k => XS.ifNo X9.here hx rfl (hb hby at_174) rfl ((if0 _ _).trans (feq (by decide)).1) k) ?_
        refine own_byW (T' := T9) (g' := (mkF m 178 #[.val (.long x1), .second, .val (.long x2), .second, .val (.long x3), .second, .val (.int x4), .val (.ref b1), .val (.int 1), .val (.int 0), .val (.long 0), .second, .val (.int 1), .val (.int (own_u (0 : Int64) (0 : Int64))), .val (.int 1)] [(.int 1)])) (fun t k => XS.iconst X9.here hx rfl (hb hby at_177) k) ?_
        refine own_byW (T' := T9) (g' := (mkF m 182 #[.val (.long x1), .second, .val (.long x2), .second, .val (.long x3), .second, .val (.int x4), .val (.ref b1), .val (.int 1), .val (.int 0), .val (.long 0), .second, .val (.int 1), .val (.int (own_u (0 : Int64) (0 : Int64))), .val (.int 1)] [(.int 1)])) (fun t k => XS.goto X9.here hx rfl (pc0 := 178) (pc' := 182) rfl (hb hby at_178) (by decide) (by decide) k) ?_
        exact own_retNW X9 hS (by rw [e9]; exact hk_) hx (t := .boolean) Bd.notSynchronized Bd.returns (by simp) (hb hby at_182) (by decide) (by decide) (by rw [e9]; exact ⟨rfl, N_⟩)
      refine own_byW (T' := T6) (g' := (mkF m 99 #[.val (.long x1), .second, .val (.long x2), .second, .val (.long x3), .second, .val (.int x4), .val (.ref b1), .val (.int 1), .val (.int 0), .val (.long 0), .second, .unset, .unset, .unset] [(.long 0), (.int (own_u (0 : Int64) x3))])) (fun t k => XS.lload X6.here hx rfl (hb hby at_97) rfl k) ?_
      refine own_byW (T' := T6) (g' := (mkF m 101 #[.val (.long x1), .second, .val (.long x2), .second, .val (.long x3), .second, .val (.int x4), .val (.ref b1), .val (.int 1), .val (.int 0), .val (.long 0), .second, .unset, .unset, .unset] [(.long x3), (.long 0), (.int (own_u (0 : Int64) x3))])) (fun t k => XS.lload X6.here hx rfl (hb hby at_99) rfl k) ?_
      refine own_byW (T' := T6) (g' := (mkF m 102 #[.val (.long x1), .second, .val (.long x2), .second, .val (.long x3), .second, .val (.int x4), .val (.ref b1), .val (.int 1), .val (.int 0), .val (.long 0), .second, .unset, .unset, .unset] [(.int (lcmpW (0 : Int64) x3)), (.int (own_u (0 : Int64) x3))])) (fun t k => XS.lcmp X6.here hx rfl (hb hby at_101) rfl k) ?_
      by_cases hc102_10 : x3 < (0 : Int64)
      · refine own_byW (T' := T6) (g' := (mkF m 109 #[.val (.long x1), .second, .val (.long x2), .second, .val (.long x3), .second, .val (.int x4), .val (.ref b1), .val (.int 1), .val (.int 0), .val (.long 0), .second, .unset, .unset, .unset] [(.int (own_u (0 : Int64) x3))])) (fun t k => XS.ifYes X6.here hx rfl (pc0 := 102) (pc' := 109) rfl (hb hby at_102) rfl ((if0 _ _).trans (tlt ((lw_gt _ _).mpr hc102_10)).2.2.1) (by decide) (by decide) k) ?_
        refine own_byW (T' := T6) (g' := (mkF m 110 #[.val (.long x1), .second, .val (.long x2), .second, .val (.long x3), .second, .val (.int x4), .val (.ref b1), .val (.int 1), .val (.int 0), .val (.long 0), .second, .unset, .unset, .unset] [(.int 0), (.int (own_u (0 : Int64) x3))])) (fun t k => XS.iconst X6.here hx rfl (hb hby at_109) k) ?_
        refine own_byW (T' := T6) (g' := (mkF m 113 #[.val (.long x1), .second, .val (.long x2), .second, .val (.long x3), .second, .val (.int x4), .val (.ref b1), .val (.int 1), .val (.int 0), .val (.long 0), .second, .unset, .unset, .unset] [])) (fun t k => XS.icmpNo X6.here hx rfl (hb hby at_110) rfl (teq (by unfold own_u; rw [if_pos hc102_10])).2 k) ?_
        refine own_byW (T' := T6) (g' := (mkF m 114 #[.val (.long x1), .second, .val (.long x2), .second, .val (.long x3), .second, .val (.int x4), .val (.ref b1), .val (.int 1), .val (.int 0), .val (.long 0), .second, .unset, .unset, .unset] [(.int 1)])) (fun t k => XS.iconst X6.here hx rfl (hb hby at_113) k) ?_
        refine own_byW (T' := T6) (g' := (mkF m 118 #[.val (.long x1), .second, .val (.long x2), .second, .val (.long x3), .second, .val (.int x4), .val (.ref b1), .val (.int 1), .val (.int 0), .val (.long 0), .second, .unset, .unset, .unset] [(.int 1)])) (fun t k => XS.goto X6.here hx rfl (pc0 := 114) (pc' := 118) rfl (hb hby at_114) (by decide) (by decide) k) ?_
        refine own_byW (T' := T6) (g' := (mkF m 120 #[.val (.long x1), .second, .val (.long x2), .second, .val (.long x3), .second, .val (.int x4), .val (.ref b1), .val (.int 1), .val (.int 0), .val (.long 0), .second, .val (.int 1), .unset, .unset] [])) (fun t k => XS.istore X6.here hx rfl (hb hby at_118) rfl (l' := #[.val (.long x1), .second, .val (.long x2), .second, .val (.long x3), .second, .val (.int x4), .val (.ref b1), .val (.int 1), .val (.int 0), .val (.long 0), .second, .val (.int 1), .unset, .unset]) rfl k) ?_
        exact J120_7
      · refine own_byW (T' := T6) (g' := (mkF m 105 #[.val (.long x1), .second, .val (.long x2), .second, .val (.long x3), .second, .val (.int x4), .val (.ref b1), .val (.int 1), .val (.int 0), .val (.long 0), .second, .unset, .unset, .unset] [(.int (own_u (0 : Int64) x3))])) (fun t k => XS.ifNo X6.here hx rfl (hb hby at_102) rfl ((if0 _ _).trans (flt (fun q => hc102_10 ((lw_gt _ _).mp q))).2.2.1) k) ?_
        refine own_byW (T' := T6) (g' := (mkF m 106 #[.val (.long x1), .second, .val (.long x2), .second, .val (.long x3), .second, .val (.int x4), .val (.ref b1), .val (.int 1), .val (.int 0), .val (.long 0), .second, .unset, .unset, .unset] [(.int 1), (.int (own_u (0 : Int64) x3))])) (fun t k => XS.iconst X6.here hx rfl (hb hby at_105) k) ?_
        refine own_byW (T' := T6) (g' := (mkF m 110 #[.val (.long x1), .second, .val (.long x2), .second, .val (.long x3), .second, .val (.int x4), .val (.ref b1), .val (.int 1), .val (.int 0), .val (.long 0), .second, .unset, .unset, .unset] [(.int 1), (.int (own_u (0 : Int64) x3))])) (fun t k => XS.goto X6.here hx rfl (pc0 := 106) (pc' := 110) rfl (hb hby at_106) (by decide) (by decide) k) ?_
        refine own_byW (T' := T6) (g' := (mkF m 113 #[.val (.long x1), .second, .val (.long x2), .second, .val (.long x3), .second, .val (.int x4), .val (.ref b1), .val (.int 1), .val (.int 0), .val (.long 0), .second, .unset, .unset, .unset] [])) (fun t k => XS.icmpNo X6.here hx rfl (hb hby at_110) rfl (teq (by unfold own_u; rw [if_neg hc102_10])).2 k) ?_
        refine own_byW (T' := T6) (g' := (mkF m 114 #[.val (.long x1), .second, .val (.long x2), .second, .val (.long x3), .second, .val (.int x4), .val (.ref b1), .val (.int 1), .val (.int 0), .val (.long 0), .second, .unset, .unset, .unset] [(.int 1)])) (fun t k => XS.iconst X6.here hx rfl (hb hby at_113) k) ?_
        refine own_byW (T' := T6) (g' := (mkF m 118 #[.val (.long x1), .second, .val (.long x2), .second, .val (.long x3), .second, .val (.int x4), .val (.ref b1), .val (.int 1), .val (.int 0), .val (.long 0), .second, .unset, .unset, .unset] [(.int 1)])) (fun t k => XS.goto X6.here hx rfl (pc0 := 114) (pc' := 118) rfl (hb hby at_114) (by decide) (by decide) k) ?_
        refine own_byW (T' := T6) (g' := (mkF m 120 #[.val (.long x1), .second, .val (.long x2), .second, .val (.long x3), .second, .val (.int x4), .val (.ref b1), .val (.int 1), .val (.int 0), .val (.long 0), .second, .val (.int 1), .unset, .unset] [])) (fun t k => XS.istore X6.here hx rfl (hb hby at_118) rfl (l' := #[.val (.long x1), .second, .val (.long x2), .second, .val (.long x3), .second, .val (.int x4), .val (.ref b1), .val (.int 1), .val (.int 0), .val (.long 0), .second, .val (.int 1), .unset, .unset]) rfl k) ?_
        exact J120_7
    · rw [hk4]
      refine own_byW (T' := T4) (g' := (mkF m 53 #[.val (.long x1), .second, .val (.long x2), .second, .val (.long x3), .second, .val (.int x4), .val (.ref b1), .val (.int 1), .val (.int 1), .val (.long 0), .second, .unset, .unset, .unset] [(.int 1)])) (fun t k => XS.iload X4.here hx rfl (hb hby at_51) rfl k) ?_
      refine own_byW (T' := T4) (g' := (mkF m 54 #[.val (.long x1), .second, .val (.long x2), .second, .val (.long x3), .second, .val (.int x4), .val (.ref b1), .val (.int 1), .val (.int 1), .val (.long 0), .second, .unset, .unset, .unset] [(.int 1), (.int 1)])) (fun t k => XS.iconst X4.here hx rfl (hb hby at_53) k) ?_
      refine own_byW (T' := T4) (g' := (mkF m 57 #[.val (.long x1), .second, .val (.long x2), .second, .val (.long x3), .second, .val (.int x4), .val (.ref b1), .val (.int 1), .val (.int 1), .val (.long 0), .second, .unset, .unset, .unset] [])) (fun t k => XS.icmpNo X4.here hx rfl (hb hby at_54) rfl (flt (by decide)).1 k) ?_
      refine own_byW (T' := T4) (g' := (mkF m 59 #[.val (.long x1), .second, .val (.long x2), .second, .val (.long x3), .second, .val (.int x4), .val (.ref b1), .val (.int 1), .val (.int 1), .val (.long 0), .second, .unset, .unset, .unset] [(.ref b1)])) (fun t k => XS.aload X4.here hx rfl (hb hby at_57) rfl rfl k) ?_
      refine own_byW (T' := T4) (g' := (mkF m 60 #[.val (.long x1), .second, .val (.long x2), .second, .val (.long x3), .second, .val (.int x4), .val (.ref b1), .val (.int 1), .val (.int 1), .val (.long 0), .second, .unset, .unset, .unset] [(.long x1), (.ref b1)])) (fun t k => XS.lloadN X4.here hx rfl (hb hby at_59) rfl k) ?_
      obtain ⟨cq11, kq11, q11a, q11b, q11c⟩ := isOf hZ e4 c3_1
      obtain ⟨_, _, ⟨T11, L11, k11, n11⟩, -, X11, ⟨Lc11, hQ11, l11, y11, z11⟩, st11⟩ := X4.virtualBack hx (y := (⟨"com/example/hermit_crab/hermitcrab/engine/Table", "markChangedAt", "(J)V"⟩ : MethodName)) (z := (⟨"com/example/hermit_crab/hermitcrab/engine/Table", "markChangedAt", "(J)V"⟩ : MethodName)) hown (mvT hZ (hw _ (own_m 65 rfl))) (mvT hZ (hw _ (own_m 66 rfl))) (notFace_of_selects (args := #[]) (mvT hZ (hw _ (own_m 68 rfl)))) (mvT hZ (hw _ (own_m 68 rfl))) (mvT hZ (hw _ (own_m 67 rfl))) (by decide) (backOf (W := 0) (rm7 l Z a0 hw [] b1 x1 (0 : Int64) T3.heap n0 Zle c3_1 g_b1 c3_2) hZ (hw _ (own_m 69 rfl)) (hw _ (own_m 2 rfl)) (by decide) (by decide)) q11a q11c (g := (mkF m 60 #[.val (.long x1), .second, .val (.long x2), .second, .val (.long x3), .second, .val (.int x4), .val (.ref b1), .val (.int 1), .val (.int 1), .val (.long 0), .second, .unset, .unset, .unset] [(.long x1), (.ref b1)])) rfl (by rw [hml]; rfl) (Steps.refl _) (argsL := [(.long x1)]) (rest := []) (lenOf pd_3 rfl) rfl (own_le rfl) (hb hby at_60) (fun _ _ => ⟨rfl, e4, (by decide : 9 + 0 ≤ _), (by decide : 87 + 0 ≤ _)⟩)
      dsimp only [Pt.U, Pt.locs, Pt.cells, Pt.slots] at X11 l11 y11 z11 st11 hQ11
      subst l11 y11 z11
      obtain ⟨rfl, Nq11, c11_0, c11_1, c11_2⟩ := hQ11
      have N_ := Fr.app N_ Nq11
      have Zle := Nat.le_trans Zle c11_0.1
      have c3_1 := c3_1.keep c11_0
      have hk_ := Nat.le_trans hk_ c11_0.1
      refine own_byW (T' := T11) (g' := (mkF m 63 #[.val (.long x1), .second, .val (.long x2), .second, .val (.long x3), .second, .val (.int x4), .val (.ref b1), .val (.int 1), .val (.int 1), .val (.long 0), .second, .unset, .unset, .unset] [])) (fun t k => st11.trans k) ?_
      refine own_byW (T' := T11) (g' := (mkF m 64 #[.val (.long x1), .second, .val (.long x2), .second, .val (.long x3), .second, .val (.int x4), .val (.ref b1), .val (.int 1), .val (.int 1), .val (.long 0), .second, .unset, .unset, .unset] [(.long x1)])) (fun t k => XS.lloadN X11.here hx rfl (hb hby at_63) rfl k) ?_
      refine own_byW (T' := T11) (g' := (mkF m 66 #[.val (.long x1), .second, .val (.long x2), .second, .val (.long x3), .second, .val (.int x4), .val (.ref b1), .val (.int 1), .val (.int 1), .val (.long x1), .second, .unset, .unset, .unset] [])) (fun t k => XS.lstore X11.here hx rfl (hb hby at_64) rfl (l' := #[.val (.long x1), .second, .val (.long x2), .second, .val (.long x3), .second, .val (.int x4), .val (.ref b1), .val (.int 1), .val (.int 1), .val (.long x1), .second, .unset, .unset, .unset]) rfl k) ?_
      refine own_byW (T' := T11) (g' := (mkF m 68 #[.val (.long x1), .second, .val (.long x2), .second, .val (.long x3), .second, .val (.int x4), .val (.ref b1), .val (.int 1), .val (.int 1), .val (.long x1), .second, .unset, .unset, .unset] [(.int 1)])) (fun t k => XS.iload X11.here hx rfl (hb hby at_66) rfl k) ?_
      refine own_byW (T' := T11) (g' := (mkF m 69 #[.val (.long x1), .second, .val (.long x2), .second, .val (.long x3), .second, .val (.int x4), .val (.ref b1), .val (.int 1), .val (.int 1), .val (.long x1), .second, .unset, .unset, .unset] [(.int 2), (.int 1)])) (fun t k => XS.iconst X11.here hx rfl (hb hby at_68) k) ?_
      refine own_byW (T' := T11) (g' := (mkF m 90 #[.val (.long x1), .second, .val (.long x2), .second, .val (.long x3), .second, .val (.int x4), .val (.ref b1), .val (.int 1), .val (.int 1), .val (.long x1), .second, .unset, .unset, .unset] [])) (fun t k => XS.icmpYes X11.here hx rfl (pc0 := 69) (pc' := 90) rfl (hb hby at_69) rfl (tlt (by decide)).1 (by decide) (by decide) k) ?_
      refine own_byW (T' := T11) (g' := (mkF m 92 #[.val (.long x1), .second, .val (.long x2), .second, .val (.long x3), .second, .val (.int x4), .val (.ref b1), .val (.int 1), .val (.int 1), .val (.long x1), .second, .unset, .unset, .unset] [(.ref b1)])) (fun t k => XS.aload X11.here hx rfl (hb hby at_90) rfl rfl k) ?_
      refine own_byW (T' := T11) (g' := (mkF m 94 #[.val (.long x1), .second, .val (.long x2), .second, .val (.long x3), .second, .val (.int x4), .val (.ref b1), .val (.int 1), .val (.int 1), .val (.long x1), .second, .unset, .unset, .unset] [(.long x3), (.ref b1)])) (fun t k => XS.lload X11.here hx rfl (hb hby at_92) rfl k) ?_
      obtain ⟨cq12, kq12, q12a, q12b, q12c⟩ := isOf hZ rfl c11_1
      obtain ⟨_, _, ⟨T12, L12, k12, n12⟩, -, X12, ⟨Lc12, hQ12, l12, y12, z12⟩, st12⟩ := X11.virtualBack hx (y := (⟨"com/example/hermit_crab/hermitcrab/engine/Table", "isUnchangedSince", "(J)Z"⟩ : MethodName)) (z := (⟨"com/example/hermit_crab/hermitcrab/engine/Table", "isUnchangedSince", "(J)Z"⟩ : MethodName)) hown (mvT hZ (hw _ (own_m 58 rfl))) (mvT hZ (hw _ (own_m 59 rfl))) (notFace_of_selects (args := #[]) (mvT hZ (hw _ (own_m 61 rfl)))) (mvT hZ (hw _ (own_m 61 rfl))) (mvT hZ (hw _ (own_m 60 rfl))) (by decide) (backOf (W := 0) (rm6 l Z a0 hw [] b1 x3 x1 T11.heap n0 Zle c11_2) hZ (hw _ (own_m 62 rfl)) (hw _ (own_m 2 rfl)) (by decide) (by decide)) q12a q12c (g := (mkF m 94 #[.val (.long x1), .second, .val (.long x2), .second, .val (.long x3), .second, .val (.int x4), .val (.ref b1), .val (.int 1), .val (.int 1), .val (.long x1), .second, .unset, .unset, .unset] [(.long x3), (.ref b1)])) rfl (by rw [hml]; rfl) (Steps.refl _) (argsL := [(.long x3)]) (rest := []) (lenOf pd_2 rfl) rfl (own_le rfl) (hb hby at_94) (fun _ _ => ⟨rfl, rfl, (by decide : 9 + 0 ≤ _), (by decide : 87 + 0 ≤ _)⟩)
      dsimp only [Pt.U, Pt.locs, Pt.cells, Pt.slots] at X12 l12 y12 z12 st12 hQ12
      subst l12 y12 z12
      obtain ⟨rfl, Nq12, e12⟩ := hQ12
      have N_ := Fr.app N_ Nq12
      refine own_byW (T' := T12) (g' := (mkF m 97 #[.val (.long x1), .second, .val (.long x2), .second, .val (.long x3), .second, .val (.int x4), .val (.ref b1), .val (.int 1), .val (.int 1), .val (.long x1), .second, .unset, .unset, .unset] [(.int (own_u x1 x3))])) (fun t k => st12.trans k) ?_
      have J120_13 : own_GoesW p.tables e below s (Q0 Z x1 x2 x3 x4 h0 n0) room_1.cells room_1.slots T12 (mkF m 120 #[.val (.long x1), .second, .val (.long x2), .second, .val (.long x3), .second, .val (.int x4), .val (.ref b1), .val (.int 1), .val (.int 1), .val (.long x1), .second, .val (.int 1), .unset, .unset] []) := by
        refine own_byW (T' := T12) (g' := (mkF m 122 #[.val (.long x1), .second, .val (.long x2), .second, .val (.long x3), .second, .val (.int x4), .val (.ref b1), .val (.int 1), .val (.int 1), .val (.long x1), .second, .val (.int 1), .unset, .unset] [(.ref b1)])) (fun t k => XS.aload X12.here hx rfl (hb hby at_120) rfl rfl k) ?_
        refine own_byW (T' := T12) (g' := (mkF m 124 #[.val (.long x1), .second, .val (.long x2), .second, .val (.long x3), .second, .val (.int x4), .val (.ref b1), .val (.int 1), .val (.int 1), .val (.long x1), .second, .val (.int 1), .unset, .unset] [(.long x1), (.ref b1)])) (fun t k => XS.lload X12.here hx rfl (hb hby at_122) rfl k) ?_
        obtain ⟨cq14, kq14, q14a, q14b, q14c⟩ := isOf hZ e12 c11_1
        obtain ⟨_, _, ⟨T14, L14, k14, n14⟩, -, X14, ⟨Lc14, hQ14, l14, y14, z14⟩, st14⟩ := X12.virtualBack hx (y := (⟨"com/example/hermit_crab/hermitcrab/engine/Table", "isUnchangedSince", "(J)Z"⟩ : MethodName)) (z := (⟨"com/example/hermit_crab/hermitcrab/engine/Table", "isUnchangedSince", "(J)Z"⟩ : MethodName)) hown (mvT hZ (hw _ (own_m 58 rfl))) (mvT hZ (hw _ (own_m 59 rfl))) (notFace_of_selects (args := #[]) (mvT hZ (hw _ (own_m 61 rfl)))) (mvT hZ (hw _ (own_m 61 rfl))) (mvT hZ (hw _ (own_m 60 rfl))) (by decide) (backOf (W := 0) (rm6 l Z a0 hw [] b1 x1 x1 T11.heap n0 Zle c11_2) hZ (hw _ (own_m 62 rfl)) (hw _ (own_m 2 rfl)) (by decide) (by decide)) q14a q14c (g := (mkF m 124 #[.val (.long x1), .second, .val (.long x2), .second, .val (.long x3), .second, .val (.int x4), .val (.ref b1), .val (.int 1), .val (.int 1), .val (.long x1), .second, .val (.int 1), .unset, .unset] [(.long x1), (.ref b1)])) rfl (by rw [hml]; rfl) (Steps.refl _) (argsL := [(.long x1)]) (rest := []) (lenOf pd_2 rfl) rfl (own_le rfl) (hb hby at_124) (fun _ _ => ⟨rfl, e12, (by decide : 9 + 0 ≤ _), (by decide : 87 + 0 ≤ _)⟩)
        dsimp only [Pt.U, Pt.locs, Pt.cells, Pt.slots] at X14 l14 y14 z14 st14 hQ14
        subst l14 y14 z14
        obtain ⟨rfl, Nq14, e14⟩ := hQ14
        have N_ := Fr.app N_ Nq14
        refine own_byW (T' := T14) (g' := (mkF m 127 #[.val (.long x1), .second, .val (.long x2), .second, .val (.long x3), .second, .val (.int x4), .val (.ref b1), .val (.int 1), .val (.int 1), .val (.long x1), .second, .val (.int 1), .unset, .unset] [(.int (own_u x1 x1))])) (fun t k => st14.trans k) ?_
        refine own_byW (T' := T14) (g' := (mkF m 129 #[.val (.long x1), .second, .val (.long x2), .second, .val (.long x3), .second, .val (.int x4), .val (.ref b1), .val (.int 1), .val (.int 1), .val (.long x1), .second, .val (.int 1), .val (.int (own_u x1 x1)), .unset] [])) (fun t k => XS.istore X14.here hx rfl (hb hby at_127) rfl (l' := #[.val (.long x1), .second, .val (.long x2), .second, .val (.long x3), .second, .val (.int x4), .val (.ref b1), .val (.int 1), .val (.int 1), .val (.long x1), .second, .val (.int 1), .val (.int (own_u x1 x1)), .unset]) rfl k) ?_
        refine own_byW (T' := T14) (g' := (mkF m 131 #[.val (.long x1), .second, .val (.long x2), .second, .val (.long x3), .second, .val (.int x4), .val (.ref b1), .val (.int 1), .val (.int 1), .val (.long x1), .second, .val (.int 1), .val (.int (own_u x1 x1)), .unset] [(.long x1)])) (fun t k => XS.lload X14.here hx rfl (hb hby at_129) rfl k) ?_
        refine own_byW (T' := T14) (g' := (mkF m 134 #[.val (.long x1), .second, .val (.long x2), .second, .val (.long x3), .second, .val (.int x4), .val (.ref b1), .val (.int 1), .val (.int 1), .val (.long x1), .second, .val (.int 1), .val (.int (own_u x1 x1)), .unset] [(.long (-9223372036854775808)), (.long x1)])) (fun t k => X14.ldc2Long hx hown (mvT hZ (hw _ (own_m 74 rfl))) (g := (mkF m 131 #[.val (.long x1), .second, .val (.long x2), .second, .val (.long x3), .second, .val (.int x4), .val (.ref b1), .val (.int 1), .val (.int 1), .val (.long x1), .second, .val (.int 1), .val (.int (own_u x1 x1)), .unset] [(.long x1)])) rfl (hb hby at_131) _ k) ?_
        refine own_byW (T' := T14) (g' := (mkF m 135 #[.val (.long x1), .second, .val (.long x2), .second, .val (.long x3), .second, .val (.int x4), .val (.ref b1), .val (.int 1), .val (.int 1), .val (.long x1), .second, .val (.int 1), .val (.int (own_u x1 x1)), .unset] [(.int (lcmpW x1 (-9223372036854775808 : Int64)))])) (fun t k => XS.lcmp X14.here hx rfl (hb hby at_134) rfl k) ?_
        by_cases hc135_15 : x1 = (-9223372036854775808 : Int64)
        · refine own_byW (T' := T14) (g' := (mkF m 150 #[.val (.long x1), .second, .val (.long x2), .second, .val (.long x3), .second, .val (.int x4), .val (.ref b1), .val (.int 1), .val (.int 1), .val (.long x1), .second, .val (.int 1), .val (.int (own_u x1 x1)), .unset] [])) (fun t k => XS.ifYes X14.here hx rfl (pc0 := 135) (pc' := 150) rfl (hb hby at_135) rfl ((if0 _ _).trans (teq ((lw_eq _ _).mpr hc135_15)).1) (by decide) (by decide) k) ?_
          refine own_byW (T' := T14) (g' := (mkF m 151 #[.val (.long x1), .second, .val (.long x2), .second, .val (.long x3), .second, .val (.int x4), .val (.ref b1), .val (.int 1), .val (.int 1), .val (.long x1), .second, .val (.int 1), .val (.int (own_u x1 x1)), .unset] [(.int 1)])) (fun t k => XS.iconst X14.here hx rfl (hb hby at_150) k) ?_
          refine own_byW (T' := T14) (g' := (mkF m 155 #[.val (.long x1), .second, .val (.long x2), .second, .val (.long x3), .second, .val (.int x4), .val (.ref b1), .val (.int 1), .val (.int 1), .val (.long x1), .second, .val (.int 1), .val (.int (own_u x1 x1)), .unset] [(.int 1)])) (fun t k => XS.goto X14.here hx rfl (pc0 := 151) (pc' := 155) rfl (hb hby at_151) (by decide) (by decide) k) ?_
          refine own_byW (T' := T14) (g' := (mkF m 157 #[.val (.long x1), .second, .val (.long x2), .second, .val (.long x3), .second, .val (.int x4), .val (.ref b1), .val (.int 1), .val (.int 1), .val (.long x1), .second, .val (.int 1), .val (.int (own_u x1 x1)), .val (.int 1)] [])) (fun t k => XS.istore X14.here hx rfl (hb hby at_155) rfl (l' := #[.val (.long x1), .second, .val (.long x2), .second, .val (.long x3), .second, .val (.int x4), .val (.ref b1), .val (.int 1), .val (.int 1), .val (.long x1), .second, .val (.int 1), .val (.int (own_u x1 x1)), .val (.int 1)]) rfl k) ?_
          refine own_byW (T' := T14) (g' := (mkF m 159 #[.val (.long x1), .second, .val (.long x2), .second, .val (.long x3), .second, .val (.int x4), .val (.ref b1), .val (.int 1), .val (.int 1), .val (.long x1), .second, .val (.int 1), .val (.int (own_u x1 x1)), .val (.int 1)] [(.int 1)])) (fun t k => XS.iload X14.here hx rfl (hb hby at_157) rfl k) ?_
          refine own_byW (T' := T14) (g' := (mkF m 162 #[.val (.long x1), .second, .val (.long x2), .second, .val (.long x3), .second, .val (.int x4), .val (.ref b1), .val (.int 1), .val (.int 1), .val (.long x1), .second, .val (.int 1), .val (.int (own_u x1 x1)), .val (.int 1)] [])) (fun t k => XS.ifNo X14.here hx rfl (hb hby at_159) rfl ((if0 _ _).trans (feq (by decide)).1) k) ?_
          refine own_byW (T' := T14) (g' := (mkF m 164 #[.val (.long x1), .second, .val (.long x2), .second, .val (.long x3), .second, .val (.int x4), .val (.ref b1), .val (.int 1), .val (.int 1), .val (.long x1), .second, .val (.int 1), .val (.int (own_u x1 x1)), .val (.int 1)] [(.int 1)])) (fun t k => XS.iload X14.here hx rfl (hb hby at_162) rfl k) ?_
          refine own_byW (T' := T14) (g' := (mkF m 167 #[.val (.long x1), .second, .val (.long x2), .second, .val (.long x3), .second, .val (.int x4), .val (.ref b1), .val (.int 1), .val (.int 1), .val (.long x1), .second, .val (.int 1), .val (.int (own_u x1 x1)), .val (.int 1)] [])) (fun t k => XS.ifNo X14.here hx rfl (hb hby at_164) rfl ((if0 _ _).trans (feq (by decide)).1) k) ?_
          refine own_byW (T' := T14) (g' := (mkF m 169 #[.val (.long x1), .second, .val (.long x2), .second, .val (.long x3), .second, .val (.int x4), .val (.ref b1), .val (.int 1), .val (.int 1), .val (.long x1), .second, .val (.int 1), .val (.int (own_u x1 x1)), .val (.int 1)] [(.int (own_u x1 x1))])) (fun t k => XS.iload X14.here hx rfl (hb hby at_167) rfl k) ?_
          refine own_byW (T' := T14) (g' := (mkF m 172 #[.val (.long x1), .second, .val (.long x2), .second, .val (.long x3), .second, .val (.int x4), .val (.ref b1), .val (.int 1), .val (.int 1), .val (.long x1), .second, .val (.int 1), .val (.int (own_u x1 x1)), .val (.int 1)] [])) (fun t k => XS.ifNo X14.here hx rfl (hb hby at_169) rfl ((if0 _ _).trans (feq (own_u_self _)).1) k) ?_
          refine own_byW (T' := T14) (g' := (mkF m 174 #[.val (.long x1), .second, .val (.long x2), .second, .val (.long x3), .second, .val (.int x4), .val (.ref b1), .val (.int 1), .val (.int 1), .val (.long x1), .second, .val (.int 1), .val (.int (own_u x1 x1)), .val (.int 1)] [(.int 1)])) (fun t k => XS.iload X14.here hx rfl (hb hby at_172) rfl k) ?_
          refine own_byW (T' := T14) (g' := (mkF m 177 #[.val (.long x1), .second, .val (.long x2), .second, .val (.long x3), .second, .val (.int x4), .val (.ref b1), .val (.int 1), .val (.int 1), .val (.long x1), .second, .val (.int 1), .val (.int (own_u x1 x1)), .val (.int 1)] [])) (fun t k => XS.ifNo X14.here hx rfl (hb hby at_174) rfl ((if0 _ _).trans (feq (by decide)).1) k) ?_
          refine own_byW (T' := T14) (g' := (mkF m 178 #[.val (.long x1), .second, .val (.long x2), .second, .val (.long x3), .second, .val (.int x4), .val (.ref b1), .val (.int 1), .val (.int 1), .val (.long x1), .second, .val (.int 1), .val (.int (own_u x1 x1)), .val (.int 1)] [(.int 1)])) (fun t k => XS.iconst X14.here hx rfl (hb hby at_177) k) ?_
          refine own_byW (T' := T14) (g' := (mkF m 182 #[.val (.long x1), .second, .val (.long x2), .second, .val (.long x3), .second, .val (.int x4), .val (.ref b1), .val (.int 1), .val (.int 1), .val (.long x1), .second, .val (.int 1), .val (.int (own_u x1 x1)), .val (.int 1)] [(.int 1)])) (fun t k => XS.goto X14.here hx rfl (pc0 := 178) (pc' := 182) rfl (hb hby at_178) (by decide) (by decide) k) ?_
          exact own_retNW X14 hS (by rw [e14]; exact hk_) hx (t := .boolean) Bd.notSynchronized Bd.returns (by simp) (hb hby at_182) (by decide) (by decide) (by rw [e14]; exact ⟨rfl, N_⟩)
        · refine own_byW (T' := T14) (g' := (mkF m 138 #[.val (.long x1), .second, .val (.long x2), .second, .val (.long x3), .second, .val (.int x4), .val (.ref b1), .val (.int 1), .val (.int 1), .val (.long x1), .second, .val (.int 1), .val (.int (own_u x1 x1)), .unset] [])) (fun t k => XS.ifNo X14.here hx rfl (hb hby at_135) rfl ((if0 _ _).trans (feq (fun q => hc135_15 ((lw_eq _ _).mp q))).1) k) ?_
          refine own_byW (T' := T14) (g' := (mkF m 140 #[.val (.long x1), .second, .val (.long x2), .second, .val (.long x3), .second, .val (.int x4), .val (.ref b1), .val (.int 1), .val (.int 1), .val (.long x1), .second, .val (.int 1), .val (.int (own_u x1 x1)), .unset] [(.ref b1)])) (fun t k => XS.aload X14.here hx rfl (hb hby at_138) rfl rfl k) ?_
          refine own_byW (T' := T14) (g' := (mkF m 142 #[.val (.long x1), .second, .val (.long x2), .second, .val (.long x3), .second, .val (.int x4), .val (.ref b1), .val (.int 1), .val (.int 1), .val (.long x1), .second, .val (.int 1), .val (.int (own_u x1 x1)), .unset] [(.long x1), (.ref b1)])) (fun t k => XS.lload X14.here hx rfl (hb hby at_140) rfl k) ?_
          refine own_byW (T' := T14) (g' := (mkF m 143 #[.val (.long x1), .second, .val (.long x2), .second, .val (.long x3), .second, .val (.int x4), .val (.ref b1), .val (.int 1), .val (.int 1), .val (.long x1), .second, .val (.int 1), .val (.int (own_u x1 x1)), .unset] [(.long 1), (.long x1), (.ref b1)])) (fun t k => XS.lconst X14.here hx rfl (hb hby at_142) k) ?_
          refine own_byW (T' := T14) (g' := (mkF m 144 #[.val (.long x1), .second, .val (.long x2), .second, .val (.long x3), .second, .val (.int x4), .val (.ref b1), .val (.int 1), .val (.int 1), .val (.long x1), .second, .val (.int 1), .val (.int (own_u x1 x1)), .unset] [(.long (x1 - (1 : Int64))), (.ref b1)])) (fun t k => XS.lsub X14.here hx rfl (hb hby at_143) rfl k) ?_
          obtain ⟨cq16, kq16, q16a, q16b, q16c⟩ := isOf hZ e14 c11_1
          obtain ⟨_, _, ⟨T16, L16, k16, n16⟩, -, X16, ⟨Lc16, hQ16, l16, y16, z16⟩, st16⟩ := X14.virtualBack hx (y := (⟨"com/example/hermit_crab/hermitcrab/engine/Table", "isUnchangedSince", "(J)Z"⟩ : MethodName)) (z := (⟨"com/example/hermit_crab/hermitcrab/engine/Table", "isUnchangedSince", "(J)Z"⟩ : MethodName)) hown (mvT hZ (hw _ (own_m 58 rfl))) (mvT hZ (hw _ (own_m 59 rfl))) (notFace_of_selects (args := #[]) (mvT hZ (hw _ (own_m 61 rfl)))) (mvT hZ (hw _ (own_m 61 rfl))) (mvT hZ (hw _ (own_m 60 rfl))) (by decide) (backOf (W := 0) (rm6 l Z a0 hw [] b1 (x1 - (1 : Int64)) x1 T11.heap n0 Zle c11_2) hZ (hw _ (own_m 62 rfl)) (hw _ (own_m 2 rfl)) (by decide) (by decide)) q16a q16c (g := (mkF m 144 #[.val (.long x1), .second, .val (.long x2), .second, .val (.long x3), .second, .val (.int x4), .val (.ref b1), .val (.int 1), .val (.int 1), .val (.long x1), .second, .val (.int 1), .val (.int (own_u x1 x1)), .unset] [(.long (x1 - (1 : Int64))), (.ref b1)])) rfl (by rw [hml]; rfl) (Steps.refl _) (argsL := [(.long (x1 - (1 : Int64)))]) (rest := []) (lenOf pd_2 rfl) rfl (own_le rfl) (hb hby at_144) (fun _ _ => ⟨rfl, e14, (by decide : 9 + 0 ≤ _), (by decide : 87 + 0 ≤ _)⟩)
          dsimp only [Pt.U, Pt.locs, Pt.cells, Pt.slots] at X16 l16 y16 z16 st16 hQ16
          subst l16 y16 z16
          obtain ⟨rfl, Nq16, e16⟩ := hQ16
          have N_ := Fr.app N_ Nq16
          refine own_byW (T' := T16) (g' := (mkF m 147 #[.val (.long x1), .second, .val (.long x2), .second, .val (.long x3), .second, .val (.int x4), .val (.ref b1), .val (.int 1), .val (.int 1), .val (.long x1), .second, .val (.int 1), .val (.int (own_u x1 x1)), .unset] [(.int (own_u x1 (x1 - (1 : Int64))))])) (fun t k => st16.trans k) ?_
          refine own_byW (T' := T16) (g' := (mkF m 150 #[.val (.long x1), .second, .val (.long x2), .second, .val (.long x3), .second, .val (.int x4), .val (.ref b1), .val (.int 1), .val (.int 1), .val (.long x1), .second, .val (.int 1), .val (.int (own_u x1 x1)), .unset] [])) (fun t k => XS.ifNo X16.here hx rfl (hb hby at_147) rfl ((if0 _ _).trans (teq (own_u_below hc135_15)).2) k) ?_
          refine own_byW (T' := T16) (g' := (mkF m 151 #[.val (.long x1), .second, .val (.long x2), .second, .val (.long x3), .second, .val (.int x4), .val (.ref b1), .val (.int 1), .val (.int 1), .val (.long x1), .second, .val (.int 1), .val (.int (own_u x1 x1)), .unset] [(.int 1)])) (fun t k => XS.iconst X16.here hx rfl (hb hby at_150) k) ?_
          refine own_byW (T' := T16) (g' := (mkF m 155 #[.val (.long x1), .second, .val (.long x2), .second, .val (.long x3), .second, .val (.int x4), .val (.ref b1), .val (.int 1), .val (.int 1), .val (.long x1), .second, .val (.int 1), .val (.int (own_u x1 x1)), .unset] [(.int 1)])) (fun t k => XS.goto X16.here hx rfl (pc0 := 151) (pc' := 155) rfl (hb hby at_151) (by decide) (by decide) k) ?_
          refine own_byW (T' := T16) (g' := (mkF m 157 #[.val (.long x1), .second, .val (.long x2), .second, .val (.long x3), .second, .val (.int x4), .val (.ref b1), .val (.int 1), .val (.int 1), .val (.long x1), .second, .val (.int 1), .val (.int (own_u x1 x1)), .val (.int 1)] [])) (fun t k => XS.istore X16.here hx rfl (hb hby at_155) rfl (l' := #[.val (.long x1), .second, .val (.long x2), .second, .val (.long x3), .second, .val (.int x4), .val (.ref b1), .val (.int 1), .val (.int 1), .val (.long x1), .second, .val (.int 1), .val (.int (own_u x1 x1)), .val (.int 1)]) rfl k) ?_
          refine own_byW (T' := T16) (g' := (mkF m 159 #[.val (.long x1), .second, .val (.long x2), .second, .val (.long x3), .second, .val (.int x4), .val (.ref b1), .val (.int 1), .val (.int 1), .val (.long x1), .second, .val (.int 1), .val (.int (own_u x1 x1)), .val (.int 1)] [(.int 1)])) (fun t k => XS.iload X16.here hx rfl (hb hby at_157) rfl k) ?_
          refine own_byW (T' := T16) (g' := (mkF m 162 #[.val (.long x1), .second, .val (.long x2), .second, .val (.long x3), .second, .val (.int x4), .val (.ref b1), .val (.int 1), .val (.int 1), .val (.long x1), .second, .val (.int 1), .val (.int (own_u x1 x1)), .val (.int 1)] [])) (fun t k => XS.ifNo X16.here hx rfl (hb hby at_159) rfl ((if0 _ _).trans (feq (by decide)).1) k) ?_
          refine own_byW (T' := T16) (g' := (mkF m 164 #[.val (.long x1), .second, .val (.long x2), .second, .val (.long x3), .second, .val (.int x4), .val (.ref b1), .val (.int 1), .val (.int 1), .val (.long x1), .second, .val (.int 1), .val (.int (own_u x1 x1)), .val (.int 1)] [(.int 1)])) (fun t k => XS.iload X16.here hx rfl (hb hby at_162) rfl k) ?_
          refine own_byW (T' := T16) (g' := (mkF m 167 #[.val (.long x1), .second, .val (.long x2), .second, .val (.long x3), .second, .val (.int x4), .val (.ref b1), .val (.int 1), .val (.int 1), .val (.long x1), .second, .val (.int 1), .val (.int (own_u x1 x1)), .val (.int 1)] [])) (fun t k => XS.ifNo X16.here hx rfl (hb hby at_164) rfl ((if0 _ _).trans (feq (by decide)).1) k) ?_
          refine own_byW (T' := T16) (g' := (mkF m 169 #[.val (.long x1), .second, .val (.long x2), .second, .val (.long x3), .second, .val (.int x4), .val (.ref b1), .val (.int 1), .val (.int 1), .val (.long x1), .second, .val (.int 1), .val (.int (own_u x1 x1)), .val (.int 1)] [(.int (own_u x1 x1))])) (fun t k => XS.iload X16.here hx rfl (hb hby at_167) rfl k) ?_
          refine own_byW (T' := T16) (g' := (mkF m 172 #[.val (.long x1), .second, .val (.long x2), .second, .val (.long x3), .second, .val (.int x4), .val (.ref b1), .val (.int 1), .val (.int 1), .val (.long x1), .second, .val (.int 1), .val (.int (own_u x1 x1)), .val (.int 1)] [])) (fun t k => XS.ifNo X16.here hx rfl (hb hby at_169) rfl ((if0 _ _).trans (feq (own_u_self _)).1) k) ?_
          refine own_byW (T' := T16) (g' := (mkF m 174 #[.val (.long x1), .second, .val (.long x2), .second, .val (.long x3), .second, .val (.int x4), .val (.ref b1), .val (.int 1), .val (.int 1), .val (.long x1), .second, .val (.int 1), .val (.int (own_u x1 x1)), .val (.int 1)] [(.int 1)])) (fun t k => XS.iload X16.here hx rfl (hb hby at_172) rfl k) ?_
          refine own_byW (T' := T16) (g' := (mkF m 177 #[.val (.long x1), .second, .val (.long x2), .second, .val (.long x3), .second, .val (.int x4), .val (.ref b1), .val (.int 1), .val (.int 1), .val (.long x1), .second, .val (.int 1), .val (.int (own_u x1 x1)), .val (.int 1)] [])) (fun t k => XS.ifNo X16.here hx rfl (hb hby at_174) rfl ((if0 _ _).trans (feq (by decide)).1) k) ?_
          refine own_byW (T' := T16) (g' := (mkF m 178 #[.val (.long x1), .second, .val (.long x2), .second, .val (.long x3), .second, .val (.int x4), .val (.ref b1), .val (.int 1), .val (.int 1), .val (.long x1), .second, .val (.int 1), .val (.int (own_u x1 x1)), .val (.int 1)] [(.int 1)])) (fun t k => XS.iconst X16.here hx rfl (hb hby at_177) k) ?_
          refine own_byW (T' := T16) (g' := (mkF m 182 #[.val (.long x1), .second, .val (.long x2), .second, .val (.long x3), .second, .val (.int x4), .val (.ref b1), .val (.int 1), .val (.int 1), .val (.long x1), .second, .val (.int 1), .val (.int (own_u x1 x1)), .val (.int 1)] [(.int 1)])) (fun t k => XS.goto X16.here hx rfl (pc0 := 178) (pc' := 182) rfl (hb hby at_178) (by decide) (by decide) k) ?_
          exact own_retNW X16 hS (by rw [e16]; exact hk_) hx (t := .boolean) Bd.notSynchronized Bd.returns (by simp) (hb hby at_182) (by decide) (by decide) (by rw [e16]; exact ⟨rfl, N_⟩)
      refine own_byW (T' := T12) (g' := (mkF m 99 #[.val (.long x1), .second, .val (.long x2), .second, .val (.long x3), .second, .val (.int x4), .val (.ref b1), .val (.int 1), .val (.int 1), .val (.long x1), .second, .unset, .unset, .unset] [(.long x1), (.int (own_u x1 x3))])) (fun t k => XS.lload X12.here hx rfl (hb hby at_97) rfl k) ?_
      refine own_byW (T' := T12) (g' := (mkF m 101 #[.val (.long x1), .second, .val (.long x2), .second, .val (.long x3), .second, .val (.int x4), .val (.ref b1), .val (.int 1), .val (.int 1), .val (.long x1), .second, .unset, .unset, .unset] [(.long x3), (.long x1), (.int (own_u x1 x3))])) (fun t k => XS.lload X12.here hx rfl (hb hby at_99) rfl k) ?_
      refine own_byW (T' := T12) (g' := (mkF m 102 #[.val (.long x1), .second, .val (.long x2), .second, .val (.long x3), .second, .val (.int x4), .val (.ref b1), .val (.int 1), .val (.int 1), .val (.long x1), .second, .unset, .unset, .unset] [(.int (lcmpW x1 x3)), (.int (own_u x1 x3))])) (fun t k => XS.lcmp X12.here hx rfl (hb hby at_101) rfl k) ?_
      by_cases hc102_17 : x3 < x1
      · refine own_byW (T' := T12) (g' := (mkF m 109 #[.val (.long x1), .second, .val (.long x2), .second, .val (.long x3), .second, .val (.int x4), .val (.ref b1), .val (.int 1), .val (.int 1), .val (.long x1), .second, .unset, .unset, .unset] [(.int (own_u x1 x3))])) (fun t k => XS.ifYes X12.here hx rfl (pc0 := 102) (pc' := 109) rfl (hb hby at_102) rfl ((if0 _ _).trans (tlt ((lw_gt _ _).mpr hc102_17)).2.2.1) (by decide) (by decide) k) ?_
        refine own_byW (T' := T12) (g' := (mkF m 110 #[.val (.long x1), .second, .val (.long x2), .second, .val (.long x3), .second, .val (.int x4), .val (.ref b1), .val (.int 1), .val (.int 1), .val (.long x1), .second, .unset, .unset, .unset] [(.int 0), (.int (own_u x1 x3))])) (fun t k => XS.iconst X12.here hx rfl (hb hby at_109) k) ?_
        refine own_byW (T' := T12) (g' := (mkF m 113 #[.val (.long x1), .second, .val (.long x2), .second, .val (.long x3), .second, .val (.int x4), .val (.ref b1), .val (.int 1), .val (.int 1), .val (.long x1), .second, .unset, .unset, .unset] [])) (fun t k => XS.icmpNo X12.here hx rfl (hb hby at_110) rfl (teq (by unfold own_u; rw [if_pos hc102_17])).2 k) ?_
        refine own_byW (T' := T12) (g' := (mkF m 114 #[.val (.long x1), .second, .val (.long x2), .second, .val (.long x3), .second, .val (.int x4), .val (.ref b1), .val (.int 1), .val (.int 1), .val (.long x1), .second, .unset, .unset, .unset] [(.int 1)])) (fun t k => XS.iconst X12.here hx rfl (hb hby at_113) k) ?_
        refine own_byW (T' := T12) (g' := (mkF m 118 #[.val (.long x1), .second, .val (.long x2), .second, .val (.long x3), .second, .val (.int x4), .val (.ref b1), .val (.int 1), .val (.int 1), .val (.long x1), .second, .unset, .unset, .unset] [(.int 1)])) (fun t k => XS.goto X12.here hx rfl (pc0 := 114) (pc' := 118) rfl (hb hby at_114) (by decide) (by decide) k) ?_
        refine own_byW (T' := T12) (g' := (mkF m 120 #[.val (.long x1), .second, .val (.long x2), .second, .val (.long x3), .second, .val (.int x4), .val (.ref b1), .val (.int 1), .val (.int 1), .val (.long x1), .second, .val (.int 1), .unset, .unset] [])) (fun t k => XS.istore X12.here hx rfl (hb hby at_118) rfl (l' := #[.val (.long x1), .second, .val (.long x2), .second, .val (.long x3), .second, .val (.int x4), .val (.ref b1), .val (.int 1), .val (.int 1), .val (.long x1), .second, .val (.int 1), .unset, .unset]) rfl k) ?_
        exact J120_13
      · refine own_byW (T' := T12) (g' := (mkF m 105 #[.val (.long x1), .second, .val (.long x2), .second, .val (.long x3), .second, .val (.int x4), .val (.ref b1), .val (.int 1), .val (.int 1), .val (.long x1), .second, .unset, .unset, .unset] [(.int (own_u x1 x3))])) (fun t k => XS.ifNo X12.here hx rfl (hb hby at_102) rfl ((if0 _ _).trans (flt (fun q => hc102_17 ((lw_gt _ _).mp q))).2.2.1) k) ?_
        refine own_byW (T' := T12) (g' := (mkF m 106 #[.val (.long x1), .second, .val (.long x2), .second, .val (.long x3), .second, .val (.int x4), .val (.ref b1), .val (.int 1), .val (.int 1), .val (.long x1), .second, .unset, .unset, .unset] [(.int 1), (.int (own_u x1 x3))])) (fun t k => XS.iconst X12.here hx rfl (hb hby at_105) k) ?_
        refine own_byW (T' := T12) (g' := (mkF m 110 #[.val (.long x1), .second, .val (.long x2), .second, .val (.long x3), .second, .val (.int x4), .val (.ref b1), .val (.int 1), .val (.int 1), .val (.long x1), .second, .unset, .unset, .unset] [(.int 1), (.int (own_u x1 x3))])) (fun t k => XS.goto X12.here hx rfl (pc0 := 106) (pc' := 110) rfl (hb hby at_106) (by decide) (by decide) k) ?_
        refine own_byW (T' := T12) (g' := (mkF m 113 #[.val (.long x1), .second, .val (.long x2), .second, .val (.long x3), .second, .val (.int x4), .val (.ref b1), .val (.int 1), .val (.int 1), .val (.long x1), .second, .unset, .unset, .unset] [])) (fun t k => XS.icmpNo X12.here hx rfl (hb hby at_110) rfl (teq (by unfold own_u; rw [if_neg hc102_17])).2 k) ?_
        refine own_byW (T' := T12) (g' := (mkF m 114 #[.val (.long x1), .second, .val (.long x2), .second, .val (.long x3), .second, .val (.int x4), .val (.ref b1), .val (.int 1), .val (.int 1), .val (.long x1), .second, .unset, .unset, .unset] [(.int 1)])) (fun t k => XS.iconst X12.here hx rfl (hb hby at_113) k) ?_
        refine own_byW (T' := T12) (g' := (mkF m 118 #[.val (.long x1), .second, .val (.long x2), .second, .val (.long x3), .second, .val (.int x4), .val (.ref b1), .val (.int 1), .val (.int 1), .val (.long x1), .second, .unset, .unset, .unset] [(.int 1)])) (fun t k => XS.goto X12.here hx rfl (pc0 := 114) (pc' := 118) rfl (hb hby at_114) (by decide) (by decide) k) ?_
        refine own_byW (T' := T12) (g' := (mkF m 120 #[.val (.long x1), .second, .val (.long x2), .second, .val (.long x3), .second, .val (.int x4), .val (.ref b1), .val (.int 1), .val (.int 1), .val (.long x1), .second, .val (.int 1), .unset, .unset] [])) (fun t k => XS.istore X12.here hx rfl (hb hby at_118) rfl (l' := #[.val (.long x1), .second, .val (.long x2), .second, .val (.long x3), .second, .val (.int x4), .val (.ref b1), .val (.int 1), .val (.int 1), .val (.long x1), .second, .val (.int 1), .unset, .unset]) rfl k) ?_
        exact J120_13
    · rw [hk4]
      refine own_byW (T' := T4) (g' := (mkF m 53 #[.val (.long x1), .second, .val (.long x2), .second, .val (.long x3), .second, .val (.int x4), .val (.ref b1), .val (.int 1), .val (.int 2), .val (.long 0), .second, .unset, .unset, .unset] [(.int 2)])) (fun t k => XS.iload X4.here hx rfl (hb hby at_51) rfl k) ?_
      refine own_byW (T' := T4) (g' := (mkF m 54 #[.val (.long x1), .second, .val (.long x2), .second, .val (.long x3), .second, .val (.int x4), .val (.ref b1), .val (.int 1), .val (.int 2), .val (.long 0), .second, .unset, .unset, .unset] [(.int 1), (.int 2)])) (fun t k => XS.iconst X4.here hx rfl (hb hby at_53) k) ?_
      refine own_byW (T' := T4) (g' := (mkF m 57 #[.val (.long x1), .second, .val (.long x2), .second, .val (.long x3), .second, .val (.int x4), .val (.ref b1), .val (.int 1), .val (.int 2), .val (.long 0), .second, .unset, .unset, .unset] [])) (fun t k => XS.icmpNo X4.here hx rfl (hb hby at_54) rfl (flt (by decide)).1 k) ?_
      refine own_byW (T' := T4) (g' := (mkF m 59 #[.val (.long x1), .second, .val (.long x2), .second, .val (.long x3), .second, .val (.int x4), .val (.ref b1), .val (.int 1), .val (.int 2), .val (.long 0), .second, .unset, .unset, .unset] [(.ref b1)])) (fun t k => XS.aload X4.here hx rfl (hb hby at_57) rfl rfl k) ?_
      refine own_byW (T' := T4) (g' := (mkF m 60 #[.val (.long x1), .second, .val (.long x2), .second, .val (.long x3), .second, .val (.int x4), .val (.ref b1), .val (.int 1), .val (.int 2), .val (.long 0), .second, .unset, .unset, .unset] [(.long x1), (.ref b1)])) (fun t k => XS.lloadN X4.here hx rfl (hb hby at_59) rfl k) ?_
      obtain ⟨cq18, kq18, q18a, q18b, q18c⟩ := isOf hZ e4 c3_1
      obtain ⟨_, _, ⟨T18, L18, k18, n18⟩, -, X18, ⟨Lc18, hQ18, l18, y18, z18⟩, st18⟩ := X4.virtualBack hx (y := (⟨"com/example/hermit_crab/hermitcrab/engine/Table", "markChangedAt", "(J)V"⟩ : MethodName)) (z := (⟨"com/example/hermit_crab/hermitcrab/engine/Table", "markChangedAt", "(J)V"⟩ : MethodName)) hown (mvT hZ (hw _ (own_m 65 rfl))) (mvT hZ (hw _ (own_m 66 rfl))) (notFace_of_selects (args := #[]) (mvT hZ (hw _ (own_m 68 rfl)))) (mvT hZ (hw _ (own_m 68 rfl))) (mvT hZ (hw _ (own_m 67 rfl))) (by decide) (backOf (W := 0) (rm7 l Z a0 hw [] b1 x1 (0 : Int64) T3.heap n0 Zle c3_1 g_b1 c3_2) hZ (hw _ (own_m 69 rfl)) (hw _ (own_m 2 rfl)) (by decide) (by decide)) q18a q18c (g := (mkF m 60 #[.val (.long x1), .second, .val (.long x2), .second, .val (.long x3), .second, .val (.int x4), .val (.ref b1), .val (.int 1), .val (.int 2), .val (.long 0), .second, .unset, .unset, .unset] [(.long x1), (.ref b1)])) rfl (by rw [hml]; rfl) (Steps.refl _) (argsL := [(.long x1)]) (rest := []) (lenOf pd_3 rfl) rfl (own_le rfl) (hb hby at_60) (fun _ _ => ⟨rfl, e4, (by decide : 9 + 0 ≤ _), (by decide : 87 + 0 ≤ _)⟩)
      dsimp only [Pt.U, Pt.locs, Pt.cells, Pt.slots] at X18 l18 y18 z18 st18 hQ18
      subst l18 y18 z18
      obtain ⟨rfl, Nq18, c18_0, c18_1, c18_2⟩ := hQ18
      have N_ := Fr.app N_ Nq18
      have Zle := Nat.le_trans Zle c18_0.1
      have c3_1 := c3_1.keep c18_0
      have hk_ := Nat.le_trans hk_ c18_0.1
      refine own_byW (T' := T18) (g' := (mkF m 63 #[.val (.long x1), .second, .val (.long x2), .second, .val (.long x3), .second, .val (.int x4), .val (.ref b1), .val (.int 1), .val (.int 2), .val (.long 0), .second, .unset, .unset, .unset] [])) (fun t k => st18.trans k) ?_
      refine own_byW (T' := T18) (g' := (mkF m 64 #[.val (.long x1), .second, .val (.long x2), .second, .val (.long x3), .second, .val (.int x4), .val (.ref b1), .val (.int 1), .val (.int 2), .val (.long 0), .second, .unset, .unset, .unset] [(.long x1)])) (fun t k => XS.lloadN X18.here hx rfl (hb hby at_63) rfl k) ?_
      refine own_byW (T' := T18) (g' := (mkF m 66 #[.val (.long x1), .second, .val (.long x2), .second, .val (.long x3), .second, .val (.int x4), .val (.ref b1), .val (.int 1), .val (.int 2), .val (.long x1), .second, .unset, .unset, .unset] [])) (fun t k => XS.lstore X18.here hx rfl (hb hby at_64) rfl (l' := #[.val (.long x1), .second, .val (.long x2), .second, .val (.long x3), .second, .val (.int x4), .val (.ref b1), .val (.int 1), .val (.int 2), .val (.long x1), .second, .unset, .unset, .unset]) rfl k) ?_
      refine own_byW (T' := T18) (g' := (mkF m 68 #[.val (.long x1), .second, .val (.long x2), .second, .val (.long x3), .second, .val (.int x4), .val (.ref b1), .val (.int 1), .val (.int 2), .val (.long x1), .second, .unset, .unset, .unset] [(.int 2)])) (fun t k => XS.iload X18.here hx rfl (hb hby at_66) rfl k) ?_
      refine own_byW (T' := T18) (g' := (mkF m 69 #[.val (.long x1), .second, .val (.long x2), .second, .val (.long x3), .second, .val (.int x4), .val (.ref b1), .val (.int 1), .val (.int 2), .val (.long x1), .second, .unset, .unset, .unset] [(.int 2), (.int 2)])) (fun t k => XS.iconst X18.here hx rfl (hb hby at_68) k) ?_
      refine own_byW (T' := T18) (g' := (mkF m 72 #[.val (.long x1), .second, .val (.long x2), .second, .val (.long x3), .second, .val (.int x4), .val (.ref b1), .val (.int 1), .val (.int 2), .val (.long x1), .second, .unset, .unset, .unset] [])) (fun t k => XS.icmpNo X18.here hx rfl (hb hby at_69) rfl (flt (by decide)).1 k) ?_
      refine own_byW (T' := T18) (g' := (mkF m 73 #[.val (.long x1), .second, .val (.long x2), .second, .val (.long x3), .second, .val (.int x4), .val (.ref b1), .val (.int 1), .val (.int 2), .val (.long x1), .second, .unset, .unset, .unset] [(.long x1)])) (fun t k => XS.lloadN X18.here hx rfl (hb hby at_72) rfl k) ?_
      refine own_byW (T' := T18) (g' := (mkF m 74 #[.val (.long x1), .second, .val (.long x2), .second, .val (.long x3), .second, .val (.int x4), .val (.ref b1), .val (.int 1), .val (.int 2), .val (.long x1), .second, .unset, .unset, .unset] [(.long x2), (.long x1)])) (fun t k => XS.lloadN X18.here hx rfl (hb hby at_73) rfl k) ?_
      obtain ⟨_, _, ⟨T19, L19, k19, n19⟩, -, X19, ⟨Lc19, hQ19, l19, y19, z19⟩, st19⟩ := Jvm.LawKit.callS X18 hx (y := (⟨"java/lang/Math", "max", "(JJ)J"⟩ : MethodName)) hown (mvT hZ (hw _ (own_m 70 rfl))) (mvT hZ (hw _ (own_m 71 rfl))) (mvT hZ (hw _ (own_m 72 rfl))) (mvT hZ (hw _ (own_m 73 rfl))) (by decide) (backOf (W := 0) (rm8 l Z a0 hw [] x1 x2 T18.heap n0 Zle ) hZ (hw _ (own_m 73 rfl)) (hw _ (own_m 72 rfl)) (by decide) (by decide)) (g := (mkF m 74 #[.val (.long x1), .second, .val (.long x2), .second, .val (.long x3), .second, .val (.int x4), .val (.ref b1), .val (.int 1), .val (.int 2), .val (.long x1), .second, .unset, .unset, .unset] [(.long x2), (.long x1)])) rfl (by rw [hml]; rfl) (argsL := [(.long x1), (.long x2)]) (rest := []) (lenOf pd_4 rfl) rfl (own_le rfl) (hb hby at_74) (fun _ _ => ⟨rfl, rfl, (by decide : 9 + 0 ≤ _), (by decide : 87 + 0 ≤ _)⟩)
      dsimp only [Pt.U, Pt.locs, Pt.cells, Pt.slots] at X19 l19 y19 z19 st19 hQ19
      subst l19 y19 z19
      obtain ⟨rfl, Nq19, e19⟩ := hQ19
      have N_ := Fr.app N_ Nq19
      refine own_byW (T' := T19) (g' := (mkF m 77 #[.val (.long x1), .second, .val (.long x2), .second, .val (.long x3), .second, .val (.int x4), .val (.ref b1), .val (.int 1), .val (.int 2), .val (.long x1), .second, .unset, .unset, .unset] [(.long (own_max x1 x2))])) (fun t k => st19 _ k) ?_
      refine own_byW (T' := T19) (g' := (mkF m 79 #[.val (.long x1), .second, .val (.long x2), .second, .val (.long x3), .second, .val (.int x4), .val (.ref b1), .val (.int 1), .val (.int 2), .val (.long x1), .second, .val (.long (own_max x1 x2)), .second, .unset] [])) (fun t k => XS.lstore X19.here hx rfl (hb hby at_77) rfl (l' := #[.val (.long x1), .second, .val (.long x2), .second, .val (.long x3), .second, .val (.int x4), .val (.ref b1), .val (.int 1), .val (.int 2), .val (.long x1), .second, .val (.long (own_max x1 x2)), .second, .unset]) rfl k) ?_
      obtain ⟨mx, e_mx⟩ : ∃ z : Int64, z = (own_max x1 x2) := ⟨_, rfl⟩
      rw [← e_mx]
      refine own_byW (T' := T19) (g' := (mkF m 81 #[.val (.long x1), .second, .val (.long x2), .second, .val (.long x3), .second, .val (.int x4), .val (.ref b1), .val (.int 1), .val (.int 2), .val (.long x1), .second, .val (.long mx), .second, .unset] [(.ref b1)])) (fun t k => XS.aload X19.here hx rfl (hb hby at_79) rfl rfl k) ?_
      refine own_byW (T' := T19) (g' := (mkF m 83 #[.val (.long x1), .second, .val (.long x2), .second, .val (.long x3), .second, .val (.int x4), .val (.ref b1), .val (.int 1), .val (.int 2), .val (.long x1), .second, .val (.long mx), .second, .unset] [(.long mx), (.ref b1)])) (fun t k => XS.lload X19.here hx rfl (hb hby at_81) rfl k) ?_
      obtain ⟨cq20, kq20, q20a, q20b, q20c⟩ := isOf hZ e19 c18_1
      obtain ⟨_, _, ⟨T20, L20, k20, n20⟩, -, X20, ⟨Lc20, hQ20, l20, y20, z20⟩, st20⟩ := X19.virtualBack hx (y := (⟨"com/example/hermit_crab/hermitcrab/engine/Table", "markChangedAt", "(J)V"⟩ : MethodName)) (z := (⟨"com/example/hermit_crab/hermitcrab/engine/Table", "markChangedAt", "(J)V"⟩ : MethodName)) hown (mvT hZ (hw _ (own_m 65 rfl))) (mvT hZ (hw _ (own_m 66 rfl))) (notFace_of_selects (args := #[]) (mvT hZ (hw _ (own_m 68 rfl)))) (mvT hZ (hw _ (own_m 68 rfl))) (mvT hZ (hw _ (own_m 67 rfl))) (by decide) (backOf (W := 0) (rm7 l Z a0 hw [] b1 mx x1 T18.heap n0 Zle c18_1 g_b1 c18_2) hZ (hw _ (own_m 69 rfl)) (hw _ (own_m 2 rfl)) (by decide) (by decide)) q20a q20c (g := (mkF m 83 #[.val (.long x1), .second, .val (.long x2), .second, .val (.long x3), .second, .val (.int x4), .val (.ref b1), .val (.int 1), .val (.int 2), .val (.long x1), .second, .val (.long mx), .second, .unset] [(.long mx), (.ref b1)])) rfl (by rw [hml]; rfl) (Steps.refl _) (argsL := [(.long mx)]) (rest := []) (lenOf pd_3 rfl) rfl (own_le rfl) (hb hby at_83) (fun _ _ => ⟨rfl, e19, (by decide : 9 + 0 ≤ _), (by decide : 87 + 0 ≤ _)⟩)
      dsimp only [Pt.U, Pt.locs, Pt.cells, Pt.slots] at X20 l20 y20 z20 st20 hQ20
      subst l20 y20 z20
      obtain ⟨rfl, Nq20, c20_0, c20_1, c20_2⟩ := hQ20
      have N_ := Fr.app N_ Nq20
      have Zle := Nat.le_trans Zle c20_0.1
      have c18_1 := c18_1.keep c20_0
      have hk_ := Nat.le_trans hk_ c20_0.1
      refine own_byW (T' := T20) (g' := (mkF m 86 #[.val (.long x1), .second, .val (.long x2), .second, .val (.long x3), .second, .val (.int x4), .val (.ref b1), .val (.int 1), .val (.int 2), .val (.long x1), .second, .val (.long mx), .second, .unset] [])) (fun t k => st20.trans k) ?_
      refine own_byW (T' := T20) (g' := (mkF m 88 #[.val (.long x1), .second, .val (.long x2), .second, .val (.long x3), .second, .val (.int x4), .val (.ref b1), .val (.int 1), .val (.int 2), .val (.long x1), .second, .val (.long mx), .second, .unset] [(.long mx)])) (fun t k => XS.lload X20.here hx rfl (hb hby at_86) rfl k) ?_
      refine own_byW (T' := T20) (g' := (mkF m 90 #[.val (.long x1), .second, .val (.long x2), .second, .val (.long x3), .second, .val (.int x4), .val (.ref b1), .val (.int 1), .val (.int 2), .val (.long mx), .second, .val (.long mx), .second, .unset] [])) (fun t k => XS.lstore X20.here hx rfl (hb hby at_88) rfl (l' := #[.val (.long x1), .second, .val (.long x2), .second, .val (.long x3), .second, .val (.int x4), .val (.ref b1), .val (.int 1), .val (.int 2), .val (.long mx), .second, .val (.long mx), .second, .unset]) rfl k) ?_
      refine own_byW (T' := T20) (g' := (mkF m 92 #[.val (.long x1), .second, .val (.long x2), .second, .val (.long x3), .second, .val (.int x4), .val (.ref b1), .val (.int 1), .val (.int 2), .val (.long mx), .second, .val (.long mx), .second, .unset] [(.ref b1)])) (fun t k => XS.aload X20.here hx rfl (hb hby at_90) rfl rfl k) ?_
      refine own_byW (T' := T20) (g' := (mkF m 94 #[.val (.long x1), .second, .val (.long x2), .second, .val (.long x3), .second, .val (.int x4), .val (.ref b1), .val (.int 1), .val (.int 2), .val (.long mx), .second, .val (.long mx), .second, .unset] [(.long x3), (.ref b1)])) (fun t k => XS.lload X20.here hx rfl (hb hby at_92) rfl k) ?_
      obtain ⟨cq21, kq21, q21a, q21b, q21c⟩ := isOf hZ rfl c20_1
      obtain ⟨_, _, ⟨T21, L21, k21, n21⟩, -, X21, ⟨Lc21, hQ21, l21, y21, z21⟩, st21⟩ := X20.virtualBack hx (y := (⟨"com/example/hermit_crab/hermitcrab/engine/Table", "isUnchangedSince", "(J)Z"⟩ : MethodName)) (z := (⟨"com/example/hermit_crab/hermitcrab/engine/Table", "isUnchangedSince", "(J)Z"⟩ : MethodName)) hown (mvT hZ (hw _ (own_m 58 rfl))) (mvT hZ (hw _ (own_m 59 rfl))) (notFace_of_selects (args := #[]) (mvT hZ (hw _ (own_m 61 rfl)))) (mvT hZ (hw _ (own_m 61 rfl))) (mvT hZ (hw _ (own_m 60 rfl))) (by decide) (backOf (W := 0) (rm6 l Z a0 hw [] b1 x3 mx T20.heap n0 Zle c20_2) hZ (hw _ (own_m 62 rfl)) (hw _ (own_m 2 rfl)) (by decide) (by decide)) q21a q21c (g := (mkF m 94 #[.val (.long x1), .second, .val (.long x2), .second, .val (.long x3), .second, .val (.int x4), .val (.ref b1), .val (.int 1), .val (.int 2), .val (.long mx), .second, .val (.long mx), .second, .unset] [(.long x3), (.ref b1)])) rfl (by rw [hml]; rfl) (Steps.refl _) (argsL := [(.long x3)]) (rest := []) (lenOf pd_2 rfl) rfl (own_le rfl) (hb hby at_94) (fun _ _ => ⟨rfl, rfl, (by decide : 9 + 0 ≤ _), (by decide : 87 + 0 ≤ _)⟩)
      dsimp only [Pt.U, Pt.locs, Pt.cells, Pt.slots] at X21 l21 y21 z21 st21 hQ21
      subst l21 y21 z21
      obtain ⟨rfl, Nq21, e21⟩ := hQ21
      have N_ := Fr.app N_ Nq21
      refine own_byW (T' := T21) (g' := (mkF m 97 #[.val (.long x1), .second, .val (.long x2), .second, .val (.long x3), .second, .val (.int x4), .val (.ref b1), .val (.int 1), .val (.int 2), .val (.long mx), .second, .val (.long mx), .second, .unset] [(.int (own_u mx x3))])) (fun t k => st21.trans k) ?_
      have J120_22 : own_GoesW p.tables e below s (Q0 Z x1 x2 x3 x4 h0 n0) room_1.cells room_1.slots T21 (mkF m 120 #[.val (.long x1), .second, .val (.long x2), .second, .val (.long x3), .second, .val (.int x4), .val (.ref b1), .val (.int 1), .val (.int 2), .val (.long mx), .second, .val (.int 1), .unset, .unset] []) := by
        refine own_byW (T' := T21) (g' := (mkF m 122 #[.val (.long x1), .second, .val (.long x2), .second, .val (.long x3), .second, .val (.int x4), .val (.ref b1), .val (.int 1), .val (.int 2), .val (.long mx), .second, .val (.int 1), .unset, .unset] [(.ref b1)])) (fun t k => XS.aload X21.here hx rfl (hb hby at_120) rfl rfl k) ?_
        refine own_byW (T' := T21) (g' := (mkF m 124 #[.val (.long x1), .second, .val (.long x2), .second, .val (.long x3), .second, .val (.int x4), .val (.ref b1), .val (.int 1), .val (.int 2), .val (.long mx), .second, .val (.int 1), .unset, .unset] [(.long mx), (.ref b1)])) (fun t k => XS.lload X21.here hx rfl (hb hby at_122) rfl k) ?_
        obtain ⟨cq23, kq23, q23a, q23b, q23c⟩ := isOf hZ e21 c20_1
        obtain ⟨_, _, ⟨T23, L23, k23, n23⟩, -, X23, ⟨Lc23, hQ23, l23, y23, z23⟩, st23⟩ := X21.virtualBack hx (y := (⟨"com/example/hermit_crab/hermitcrab/engine/Table", "isUnchangedSince", "(J)Z"⟩ : MethodName)) (z := (⟨"com/example/hermit_crab/hermitcrab/engine/Table", "isUnchangedSince", "(J)Z"⟩ : MethodName)) hown (mvT hZ (hw _ (own_m 58 rfl))) (mvT hZ (hw _ (own_m 59 rfl))) (notFace_of_selects (args := #[]) (mvT hZ (hw _ (own_m 61 rfl)))) (mvT hZ (hw _ (own_m 61 rfl))) (mvT hZ (hw _ (own_m 60 rfl))) (by decide) (backOf (W := 0) (rm6 l Z a0 hw [] b1 mx mx T20.heap n0 Zle c20_2) hZ (hw _ (own_m 62 rfl)) (hw _ (own_m 2 rfl)) (by decide) (by decide)) q23a q23c (g := (mkF m 124 #[.val (.long x1), .second, .val (.long x2), .second, .val (.long x3), .second, .val (.int x4), .val (.ref b1), .val (.int 1), .val (.int 2), .val (.long mx), .second, .val (.int 1), .unset, .unset] [(.long mx), (.ref b1)])) rfl (by rw [hml]; rfl) (Steps.refl _) (argsL := [(.long mx)]) (rest := []) (lenOf pd_2 rfl) rfl (own_le rfl) (hb hby at_124) (fun _ _ => ⟨rfl, e21, (by decide : 9 + 0 ≤ _), (by decide : 87 + 0 ≤ _)⟩)
        dsimp only [Pt.U, Pt.locs, Pt.cells, Pt.slots] at X23 l23 y23 z23 st23 hQ23
        subst l23 y23 z23
        obtain ⟨rfl, Nq23, e23⟩ := hQ23
        have N_ := Fr.app N_ Nq23
        refine own_byW (T' := T23) (g' := (mkF m 127 #[.val (.long x1), .second, .val (.long x2), .second, .val (.long x3), .second, .val (.int x4), .val (.ref b1), .val (.int 1), .val (.int 2), .val (.long mx), .second, .val (.int 1), .unset, .unset] [(.int (own_u mx mx))])) (fun t k => st23.trans k) ?_
        refine own_byW (T' := T23) (g' := (mkF m 129 #[.val (.long x1), .second, .val (.long x2), .second, .val (.long x3), .second, .val (.int x4), .val (.ref b1), .val (.int 1), .val (.int 2), .val (.long mx), .second, .val (.int 1), .val (.int (own_u mx mx)), .unset] [])) (fun t k => XS.istore X23.here hx rfl (hb hby at_127) rfl (l' := #[.val (.long x1), .second, .val (.long x2), .second, .val (.long x3), .second, .val (.int x4), .val (.ref b1), .val (.int 1), .val (.int 2), .val (.long mx), .second, .val (.int 1), .val (.int (own_u mx mx)), .unset]) rfl k) ?_
        refine own_byW (T' := T23) (g' := (mkF m 131 #[.val (.long x1), .second, .val (.long x2), .second, .val (.long x3), .second, .val (.int x4), .val (.ref b1), .val (.int 1), .val (.int 2), .val (.long mx), .second, .val (.int 1), .val (.int (own_u mx mx)), .unset] [(.long mx)])) (fun t k => XS.lload X23.here hx rfl (hb hby at_129) rfl k) ?_
        refine own_byW (T' := T23) (g' := (mkF m 134 #[.val (.long x1), .second, .val (.long x2), .second, .val (.long x3), .second, .val (.int x4), .val (.ref b1), .val (.int 1), .val (.int 2), .val (.long mx), .second, .val (.int 1), .val (.int (own_u mx mx)), .unset] [(.long (-9223372036854775808)), (.long mx)])) (fun t k => X23.ldc2Long hx hown (mvT hZ (hw _ (own_m 74 rfl))) (g := (mkF m 131 #[.val (.long x1), .second, .val (.long x2), .second, .val (.long x3), .second, .val (.int x4), .val (.ref b1), .val (.int 1), .val (.int 2), .val (.long mx), .second, .val (.int 1), .val (.int (own_u mx mx)), .unset] [(.long mx)])) rfl (hb hby at_131) _ k) ?_
        refine own_byW (T' := T23) (g' := (mkF m 135 #[.val (.long x1), .second, .val (.long x2), .second, .val (.long x3), .second, .val (.int x4), .val (.ref b1), .val (.int 1), .val (.int 2), .val (.long mx), .second, .val (.int 1), .val (.int (own_u mx mx)), .unset] [(.int (lcmpW mx (-9223372036854775808 : Int64)))])) (fun t k => XS.lcmp X23.here hx rfl (hb hby at_134) rfl k) ?_
        by_cases hc135_24 : mx = (-9223372036854775808 : Int64)
        · refine own_byW (T' := T23) (g' := (mkF m 150 #[.val (.long x1), .second, .val (.long x2), .second, .val (.long x3), .second, .val (.int x4), .val (.ref b1), .val (.int 1), .val (.int 2), .val (.long mx), .second, .val (.int 1), .val (.int (own_u mx mx)), .unset] [])) (fun t k => XS.ifYes X23.here hx rfl (pc0 := 135) (pc' := 150) rfl (hb hby at_135) rfl ((if0 _ _).trans (teq ((lw_eq _ _).mpr hc135_24)).1) (by decide) (by decide) k) ?_
          refine own_byW (T' := T23) (g' := (mkF m 151 #[.val (.long x1), .second, .val (.long x2), .second, .val (.long x3), .second, .val (.int x4), .val (.ref b1), .val (.int 1), .val (.int 2), .val (.long mx), .second, .val (.int 1), .val (.int (own_u mx mx)), .unset] [(.int 1)])) (fun t k => XS.iconst X23.here hx rfl (hb hby at_150) k) ?_
          refine own_byW (T' := T23) (g' := (mkF m 155 #[.val (.long x1), .second, .val (.long x2), .second, .val (.long x3), .second, .val (.int x4), .val (.ref b1), .val (.int 1), .val (.int 2), .val (.long mx), .second, .val (.int 1), .val (.int (own_u mx mx)), .unset] [(.int 1)])) (fun t k => XS.goto X23.here hx rfl (pc0 := 151) (pc' := 155) rfl (hb hby at_151) (by decide) (by decide) k) ?_
          refine own_byW (T' := T23) (g' := (mkF m 157 #[.val (.long x1), .second, .val (.long x2), .second, .val (.long x3), .second, .val (.int x4), .val (.ref b1), .val (.int 1), .val (.int 2), .val (.long mx), .second, .val (.int 1), .val (.int (own_u mx mx)), .val (.int 1)] [])) (fun t k => XS.istore X23.here hx rfl (hb hby at_155) rfl (l' := #[.val (.long x1), .second, .val (.long x2), .second, .val (.long x3), .second, .val (.int x4), .val (.ref b1), .val (.int 1), .val (.int 2), .val (.long mx), .second, .val (.int 1), .val (.int (own_u mx mx)), .val (.int 1)]) rfl k) ?_
          refine own_byW (T' := T23) (g' := (mkF m 159 #[.val (.long x1), .second, .val (.long x2), .second, .val (.long x3), .second, .val (.int x4), .val (.ref b1), .val (.int 1), .val (.int 2), .val (.long mx), .second, .val (.int 1), .val (.int (own_u mx mx)), .val (.int 1)] [(.int 1)])) (fun t k => XS.iload X23.here hx rfl (hb hby at_157) rfl k) ?_
          refine own_byW (T' := T23) (g' := (mkF m 162 #[.val (.long x1), .second, .val (.long x2), .second, .val (.long x3), .second, .val (.int x4), .val (.ref b1), .val (.int 1), .val (.int 2), .val (.long mx), .second, .val (.int 1), .val (.int (own_u mx mx)), .val (.int 1)] [])) (fun t k => XS.ifNo X23.here hx rfl (hb hby at_159) rfl ((if0 _ _).trans (feq (by decide)).1) k) ?_
          refine own_byW (T' := T23) (g' := (mkF m 164 #[.val (.long x1), .second, .val (.long x2), .second, .val (.long x3), .second, .val (.int x4), .val (.ref b1), .val (.int 1), .val (.int 2), .val (.long mx), .second, .val (.int 1), .val (.int (own_u mx mx)), .val (.int 1)] [(.int 1)])) (fun t k => XS.iload X23.here hx rfl (hb hby at_162) rfl k) ?_
          refine own_byW (T' := T23) (g' := (mkF m 167 #[.val (.long x1), .second, .val (.long x2), .second, .val (.long x3), .second, .val (.int x4), .val (.ref b1), .val (.int 1), .val (.int 2), .val (.long mx), .second, .val (.int 1), .val (.int (own_u mx mx)), .val (.int 1)] [])) (fun t k => XS.ifNo X23.here hx rfl (hb hby at_164) rfl ((if0 _ _).trans (feq (by decide)).1) k) ?_
          refine own_byW (T' := T23) (g' := (mkF m 169 #[.val (.long x1), .second, .val (.long x2), .second, .val (.long x3), .second, .val (.int x4), .val (.ref b1), .val (.int 1), .val (.int 2), .val (.long mx), .second, .val (.int 1), .val (.int (own_u mx mx)), .val (.int 1)] [(.int (own_u mx mx))])) (fun t k => XS.iload X23.here hx rfl (hb hby at_167) rfl k) ?_
          refine own_byW (T' := T23) (g' := (mkF m 172 #[.val (.long x1), .second, .val (.long x2), .second, .val (.long x3), .second, .val (.int x4), .val (.ref b1), .val (.int 1), .val (.int 2), .val (.long mx), .second, .val (.int 1), .val (.int (own_u mx mx)), .val (.int 1)] [])) (fun t k => XS.ifNo X23.here hx rfl (hb hby at_169) rfl ((if0 _ _).trans (feq (own_u_self _)).1) k) ?_
          refine own_byW (T' := T23) (g' := (mkF m 174 #[.val (.long x1), .second, .val (.long x2), .second, .val (.long x3), .second, .val (.int x4), .val (.ref b1), .val (.int 1), .val (.int 2), .val (.long mx), .second, .val (.int 1), .val (.int (own_u mx mx)), .val (.int 1)] [(.int 1)])) (fun t k => XS.iload X23.here hx rfl (hb hby at_172) rfl k) ?_
          refine own_byW (T' := T23) (g' := (mkF m 177 #[.val (.long x1), .second, .val (.long x2), .second, .val (.long x3), .second, .val (.int x4), .val (.ref b1), .val (.int 1), .val (.int 2), .val (.long mx), .second, .val (.int 1), .val (.int (own_u mx mx)), .val (.int 1)] [])) (fun t k => XS.ifNo X23.here hx rfl (hb hby at_174) rfl ((if0 _ _).trans (feq (by decide)).1) k) ?_
          refine own_byW (T' := T23) (g' := (mkF m 178 #[.val (.long x1), .second, .val (.long x2), .second, .val (.long x3), .second, .val (.int x4), .val (.ref b1), .val (.int 1), .val (.int 2), .val (.long mx), .second, .val (.int 1), .val (.int (own_u mx mx)), .val (.int 1)] [(.int 1)])) (fun t k => XS.iconst X23.here hx rfl (hb hby at_177) k) ?_
          refine own_byW (T' := T23) (g' := (mkF m 182 #[.val (.long x1), .second, .val (.long x2), .second, .val (.long x3), .second, .val (.int x4), .val (.ref b1), .val (.int 1), .val (.int 2), .val (.long mx), .second, .val (.int 1), .val (.int (own_u mx mx)), .val (.int 1)] [(.int 1)])) (fun t k => XS.goto X23.here hx rfl (pc0 := 178) (pc' := 182) rfl (hb hby at_178) (by decide) (by decide) k) ?_
          exact own_retNW X23 hS (by rw [e23]; exact hk_) hx (t := .boolean) Bd.notSynchronized Bd.returns (by simp) (hb hby at_182) (by decide) (by decide) (by rw [e23]; exact ⟨rfl, N_⟩)
        · refine own_byW (T' := T23) (g' := (mkF m 138 #[.val (.long x1), .second, .val (.long x2), .second, .val (.long x3), .second, .val (.int x4), .val (.ref b1), .val (.int 1), .val (.int 2), .val (.long mx), .second, .val (.int 1), .val (.int (own_u mx mx)), .unset] [])) (fun t k => XS.ifNo X23.here hx rfl (hb hby at_135) rfl ((if0 _ _).trans (feq (fun q => hc135_24 ((lw_eq _ _).mp q))).1) k) ?_
          refine own_byW (T' := T23) (g' := (mkF m 140 #[.val (.long x1), .second, .val (.long x2), .second, .val (.long x3), .second, .val (.int x4), .val (.ref b1), .val (.int 1), .val (.int 2), .val (.long mx), .second, .val (.int 1), .val (.int (own_u mx mx)), .unset] [(.ref b1)])) (fun t k => XS.aload X23.here hx rfl (hb hby at_138) rfl rfl k) ?_
          refine own_byW (T' := T23) (g' := (mkF m 142 #[.val (.long x1), .second, .val (.long x2), .second, .val (.long x3), .second, .val (.int x4), .val (.ref b1), .val (.int 1), .val (.int 2), .val (.long mx), .second, .val (.int 1), .val (.int (own_u mx mx)), .unset] [(.long mx), (.ref b1)])) (fun t k => XS.lload X23.here hx rfl (hb hby at_140) rfl k) ?_
          refine own_byW (T' := T23) (g' := (mkF m 143 #[.val (.long x1), .second, .val (.long x2), .second, .val (.long x3), .second, .val (.int x4), .val (.ref b1), .val (.int 1), .val (.int 2), .val (.long mx), .second, .val (.int 1), .val (.int (own_u mx mx)), .unset] [(.long 1), (.long mx), (.ref b1)])) (fun t k => XS.lconst X23.here hx rfl (hb hby at_142) k) ?_
          refine own_byW (T' := T23) (g' := (mkF m 144 #[.val (.long x1), .second, .val (.long x2), .second, .val (.long x3), .second, .val (.int x4), .val (.ref b1), .val (.int 1), .val (.int 2), .val (.long mx), .second, .val (.int 1), .val (.int (own_u mx mx)), .unset] [(.long (mx - (1 : Int64))), (.ref b1)])) (fun t k => XS.lsub X23.here hx rfl (hb hby at_143) rfl k) ?_
          obtain ⟨cq25, kq25, q25a, q25b, q25c⟩ := isOf hZ e23 c20_1
          obtain ⟨_, _, ⟨T25, L25, k25, n25⟩, -, X25, ⟨Lc25, hQ25, l25, y25, z25⟩, st25⟩ := X23.virtualBack hx (y := (⟨"com/example/hermit_crab/hermitcrab/engine/Table", "isUnchangedSince", "(J)Z"⟩ : MethodName)) (z := (⟨"com/example/hermit_crab/hermitcrab/engine/Table", "isUnchangedSince", "(J)Z"⟩ : MethodName)) hown (mvT hZ (hw _ (own_m 58 rfl))) (mvT hZ (hw _ (own_m 59 rfl))) (notFace_of_selects (args := #[]) (mvT hZ (hw _ (own_m 61 rfl)))) (mvT hZ (hw _ (own_m 61 rfl))) (mvT hZ (hw _ (own_m 60 rfl))) (by decide) (backOf (W := 0) (rm6 l Z a0 hw [] b1 (mx - (1 : Int64)) mx T20.heap n0 Zle c20_2) hZ (hw _ (own_m 62 rfl)) (hw _ (own_m 2 rfl)) (by decide) (by decide)) q25a q25c (g := (mkF m 144 #[.val (.long x1), .second, .val (.long x2), .second, .val (.long x3), .second, .val (.int x4), .val (.ref b1), .val (.int 1), .val (.int 2), .val (.long mx), .second, .val (.int 1), .val (.int (own_u mx mx)), .unset] [(.long (mx - (1 : Int64))), (.ref b1)])) rfl (by rw [hml]; rfl) (Steps.refl _) (argsL := [(.long (mx - (1 : Int64)))]) (rest := []) (lenOf pd_2 rfl) rfl (own_le rfl) (hb hby at_144) (fun _ _ => ⟨rfl, e23, (by decide : 9 + 0 ≤ _), (by decide : 87 + 0 ≤ _)⟩)
          dsimp only [Pt.U, Pt.locs, Pt.cells, Pt.slots] at X25 l25 y25 z25 st25 hQ25
          subst l25 y25 z25
          obtain ⟨rfl, Nq25, e25⟩ := hQ25
          have N_ := Fr.app N_ Nq25
          refine own_byW (T' := T25) (g' := (mkF m 147 #[.val (.long x1), .second, .val (.long x2), .second, .val (.long x3), .second, .val (.int x4), .val (.ref b1), .val (.int 1), .val (.int 2), .val (.long mx), .second, .val (.int 1), .val (.int (own_u mx mx)), .unset] [(.int (own_u mx (mx - (1 : Int64))))])) (fun t k => st25.trans k) ?_
          refine own_byW (T' := T25) (g' := (mkF m 150 #[.val (.long x1), .second, .val (.long x2), .second, .val (.long x3), .second, .val (.int x4), .val (.ref b1), .val (.int 1), .val (.int 2), .val (.long mx), .second, .val (.int 1), .val (.int (own_u mx mx)), .unset] [])) (fun t k => XS.ifNo X25.here hx rfl (hb hby at_147) rfl ((if0 _ _).trans (teq (own_u_below hc135_24)).2) k) ?_
          refine own_byW (T' := T25) (g' := (mkF m 151 #[.val (.long x1), .second, .val (.long x2), .second, .val (.long x3), .second, .val (.int x4), .val (.ref b1), .val (.int 1), .val (.int 2), .val (.long mx), .second, .val (.int 1), .val (.int (own_u mx mx)), .unset] [(.int 1)])) (fun t k => XS.iconst X25.here hx rfl (hb hby at_150) k) ?_
          refine own_byW (T' := T25) (g' := (mkF m 155 #[.val (.long x1), .second, .val (.long x2), .second, .val (.long x3), .second, .val (.int x4), .val (.ref b1), .val (.int 1), .val (.int 2), .val (.long mx), .second, .val (.int 1), .val (.int (own_u mx mx)), .unset] [(.int 1)])) (fun t k => XS.goto X25.here hx rfl (pc0 := 151) (pc' := 155) rfl (hb hby at_151) (by decide) (by decide) k) ?_
          refine own_byW (T' := T25) (g' := (mkF m 157 #[.val (.long x1), .second, .val (.long x2), .second, .val (.long x3), .second, .val (.int x4), .val (.ref b1), .val (.int 1), .val (.int 2), .val (.long mx), .second, .val (.int 1), .val (.int (own_u mx mx)), .val (.int 1)] [])) (fun t k => XS.istore X25.here hx rfl (hb hby at_155) rfl (l' := #[.val (.long x1), .second, .val (.long x2), .second, .val (.long x3), .second, .val (.int x4), .val (.ref b1), .val (.int 1), .val (.int 2), .val (.long mx), .second, .val (.int 1), .val (.int (own_u mx mx)), .val (.int 1)]) rfl k) ?_
          refine own_byW (T' := T25) (g' := (mkF m 159 #[.val (.long x1), .second, .val (.long x2), .second, .val (.long x3), .second, .val (.int x4), .val (.ref b1), .val (.int 1), .val (.int 2), .val (.long mx), .second, .val (.int 1), .val (.int (own_u mx mx)), .val (.int 1)] [(.int 1)])) (fun t k => XS.iload X25.here hx rfl (hb hby at_157) rfl k) ?_
          refine own_byW (T' := T25) (g' := (mkF m 162 #[.val (.long x1), .second, .val (.long x2), .second, .val (.long x3), .second, .val (.int x4), .val (.ref b1), .val (.int 1), .val (.int 2), .val (.long mx), .second, .val (.int 1), .val (.int (own_u mx mx)), .val (.int 1)] [])) (fun t k => XS.ifNo X25.here hx rfl (hb hby at_159) rfl ((if0 _ _).trans (feq (by decide)).1) k) ?_
          refine own_byW (T' := T25) (g' := (mkF m 164 #[.val (.long x1), .second, .val (.long x2), .second, .val (.long x3), .second, .val (.int x4), .val (.ref b1), .val (.int 1), .val (.int 2), .val (.long mx), .second, .val (.int 1), .val (.int (own_u mx mx)), .val (.int 1)] [(.int 1)])) (fun t k => XS.iload X25.here hx rfl (hb hby at_162) rfl k) ?_
          refine own_byW (T' := T25) (g' := (mkF m 167 #[.val (.long x1), .second, .val (.long x2), .second, .val (.long x3), .second, .val (.int x4), .val (.ref b1), .val (.int 1), .val (.int 2), .val (.long mx), .second, .val (.int 1), .val (.int (own_u mx mx)), .val (.int 1)] [])) (fun t k => XS.ifNo X25.here hx rfl (hb hby at_164) rfl ((if0 _ _).trans (feq (by decide)).1) k) ?_
          refine own_byW (T' := T25) (g' := (mkF m 169 #[.val (.long x1), .second, .val (.long x2), .second, .val (.long x3), .second, .val (.int x4), .val (.ref b1), .val (.int 1), .val (.int 2), .val (.long mx), .second, .val (.int 1), .val (.int (own_u mx mx)), .val (.int 1)] [(.int (own_u mx mx))])) (fun t k => XS.iload X25.here hx rfl (hb hby at_167) rfl k) ?_
          refine own_byW (T' := T25) (g' := (mkF m 172 #[.val (.long x1), .second, .val (.long x2), .second, .val (.long x3), .second, .val (.int x4), .val (.ref b1), .val (.int 1), .val (.int 2), .val (.long mx), .second, .val (.int 1), .val (.int (own_u mx mx)), .val (.int 1)] [])) (fun t k => XS.ifNo X25.here hx rfl (hb hby at_169) rfl ((if0 _ _).trans (feq (own_u_self _)).1) k) ?_
          refine own_byW (T' := T25) (g' := (mkF m 174 #[.val (.long x1), .second, .val (.long x2), .second, .val (.long x3), .second, .val (.int x4), .val (.ref b1), .val (.int 1), .val (.int 2), .val (.long mx), .second, .val (.int 1), .val (.int (own_u mx mx)), .val (.int 1)] [(.int 1)])) (fun t k => XS.iload X25.here hx rfl (hb hby at_172) rfl k) ?_
          refine own_byW (T' := T25) (g' := (mkF m 177 #[.val (.long x1), .second, .val (.long x2), .second, .val (.long x3), .second, .val (.int x4), .val (.ref b1), .val (.int 1), .val (.int 2), .val (.long mx), .second, .val (.int 1), .val (.int (own_u mx mx)), .val (.int 1)] [])) (fun t k => XS.ifNo X25.here hx rfl (hb hby at_174) rfl ((if0 _ _).trans (feq (by decide)).1) k) ?_
          refine own_byW (T' := T25) (g' := (mkF m 178 #[.val (.long x1), .second, .val (.long x2), .second, .val (.long x3), .second, .val (.int x4), .val (.ref b1), .val (.int 1), .val (.int 2), .val (.long mx), .second, .val (.int 1), .val (.int (own_u mx mx)), .val (.int 1)] [(.int 1)])) (fun t k => XS.iconst X25.here hx rfl (hb hby at_177) k) ?_
          refine own_byW (T' := T25) (g' := (mkF m 182 #[.val (.long x1), .second, .val (.long x2), .second, .val (.long x3), .second, .val (.int x4), .val (.ref b1), .val (.int 1), .val (.int 2), .val (.long mx), .second, .val (.int 1), .val (.int (own_u mx mx)), .val (.int 1)] [(.int 1)])) (fun t k => XS.goto X25.here hx rfl (pc0 := 178) (pc' := 182) rfl (hb hby at_178) (by decide) (by decide) k) ?_
          exact own_retNW X25 hS (by rw [e25]; exact hk_) hx (t := .boolean) Bd.notSynchronized Bd.returns (by simp) (hb hby at_182) (by decide) (by decide) (by rw [e25]; exact ⟨rfl, N_⟩)
      refine own_byW (T' := T21) (g' := (mkF m 99 #[.val (.long x1), .second, .val (.long x2), .second, .val (.long x3), .second, .val (.int x4), .val (.ref b1), .val (.int 1), .val (.int 2), .val (.long mx), .second, .val (.long mx), .second, .unset] [(.long mx), (.int (own_u mx x3))])) (fun t k => XS.lload X21.here hx rfl (hb hby at_97) rfl k) ?_
      refine own_byW (T' := T21) (g' := (mkF m 101 #[.val (.long x1), .second, .val (.long x2), .second, .val (.long x3), .second, .val (.int x4), .val (.ref b1), .val (.int 1), .val (.int 2), .val (.long mx), .second, .val (.long mx), .second, .unset] [(.long x3), (.long mx), (.int (own_u mx x3))])) (fun t k => XS.lload X21.here hx rfl (hb hby at_99) rfl k) ?_
      refine own_byW (T' := T21) (g' := (mkF m 102 #[.val (.long x1), .second, .val (.long x2), .second, .val (.long x3), .second, .val (.int x4), .val (.ref b1), .val (.int 1), .val (.int 2), .val (.long mx), .second, .val (.long mx), .second, .unset] [(.int (lcmpW mx x3)), (.int (own_u mx x3))])) (fun t k => XS.lcmp X21.here hx rfl (hb hby at_101) rfl k) ?_
      by_cases hc102_26 : x3 < mx
      · refine own_byW (T' := T21) (g' := (mkF m 109 #[.val (.long x1), .second, .val (.long x2), .second, .val (.long x3), .second, .val (.int x4), .val (.ref b1), .val (.int 1), .val (.int 2), .val (.long mx), .second, .val (.long mx), .second, .unset] [(.int (own_u mx x3))])) (fun t k => XS.ifYes X21.here hx rfl (pc0 := 102) (pc' := 109) rfl (hb hby at_102) rfl ((if0 _ _).trans (tlt ((lw_gt _ _).mpr hc102_26)).2.2.1) (by decide) (by decide) k) ?_
        refine own_byW (T' := T21) (g' := (mkF m 110 #[.val (.long x1), .second, .val (.long x2), .second, .val (.long x3), .second, .val (.int x4), .val (.ref b1), .val (.int 1), .val (.int 2), .val (.long mx), .second, .val (.long mx), .second, .unset] [(.int 0), (.int (own_u mx x3))])) (fun t k => XS.iconst X21.here hx rfl (hb hby at_109) k) ?_
        refine own_byW (T' := T21) (g' := (mkF m 113 #[.val (.long x1), .second, .val (.long x2), .second, .val (.long x3), .second, .val (.int x4), .val (.ref b1), .val (.int 1), .val (.int 2), .val (.long mx), .second, .val (.long mx), .second, .unset] [])) (fun t k => XS.icmpNo X21.here hx rfl (hb hby at_110) rfl (teq (by unfold own_u; rw [if_pos hc102_26])).2 k) ?_
        refine own_byW (T' := T21) (g' := (mkF m 114 #[.val (.long x1), .second, .val (.long x2), .second, .val (.long x3), .second, .val (.int x4), .val (.ref b1), .val (.int 1), .val (.int 2), .val (.long mx), .second, .val (.long mx), .second, .unset] [(.int 1)])) (fun t k => XS.iconst X21.here hx rfl (hb hby at_113) k) ?_
        refine own_byW (T' := T21) (g' := (mkF m 118 #[.val (.long x1), .second, .val (.long x2), .second, .val (.long x3), .second, .val (.int x4), .val (.ref b1), .val (.int 1), .val (.int 2), .val (.long mx), .second, .val (.long mx), .second, .unset] [(.int 1)])) (fun t k => XS.goto X21.here hx rfl (pc0 := 114) (pc' := 118) rfl (hb hby at_114) (by decide) (by decide) k) ?_
        refine own_byW (T' := T21) (g' := (mkF m 120 #[.val (.long x1), .second, .val (.long x2), .second, .val (.long x3), .second, .val (.int x4), .val (.ref b1), .val (.int 1), .val (.int 2), .val (.long mx), .second, .val (.int 1), .unset, .unset] [])) (fun t k => XS.istore X21.here hx rfl (hb hby at_118) rfl (l' := #[.val (.long x1), .second, .val (.long x2), .second, .val (.long x3), .second, .val (.int x4), .val (.ref b1), .val (.int 1), .val (.int 2), .val (.long mx), .second, .val (.int 1), .unset, .unset]) rfl k) ?_
        exact J120_22
      · refine own_byW (T' := T21) (g' := (mkF m 105 #[.val (.long x1), .second, .val (.long x2), .second, .val (.long x3), .second, .val (.int x4), .val (.ref b1), .val (.int 1), .val (.int 2), .val (.long mx), .second, .val (.long mx), .second, .unset] [(.int (own_u mx x3))])) (fun t k => XS.ifNo X21.here hx rfl (hb hby at_102) rfl ((if0 _ _).trans (flt (fun q => hc102_26 ((lw_gt _ _).mp q))).2.2.1) k) ?_
        refine own_byW (T' := T21) (g' := (mkF m 106 #[.val (.long x1), .second, .val (.long x2), .second, .val (.long x3), .second, .val (.int x4), .val (.ref b1), .val (.int 1), .val (.int 2), .val (.long mx), .second, .val (.long mx), .second, .unset] [(.int 1), (.int (own_u mx x3))])) (fun t k => XS.iconst X21.here hx rfl (hb hby at_105) k) ?_
        refine own_byW (T' := T21) (g' := (mkF m 110 #[.val (.long x1), .second, .val (.long x2), .second, .val (.long x3), .second, .val (.int x4), .val (.ref b1), .val (.int 1), .val (.int 2), .val (.long mx), .second, .val (.long mx), .second, .unset] [(.int 1), (.int (own_u mx x3))])) (fun t k => XS.goto X21.here hx rfl (pc0 := 106) (pc' := 110) rfl (hb hby at_106) (by decide) (by decide) k) ?_
        refine own_byW (T' := T21) (g' := (mkF m 113 #[.val (.long x1), .second, .val (.long x2), .second, .val (.long x3), .second, .val (.int x4), .val (.ref b1), .val (.int 1), .val (.int 2), .val (.long mx), .second, .val (.long mx), .second, .unset] [])) (fun t k => XS.icmpNo X21.here hx rfl (hb hby at_110) rfl (teq (by unfold own_u; rw [if_neg hc102_26])).2 k) ?_
        refine own_byW (T' := T21) (g' := (mkF m 114 #[.val (.long x1), .second, .val (.long x2), .second, .val (.long x3), .second, .val (.int x4), .val (.ref b1), .val (.int 1), .val (.int 2), .val (.long mx), .second, .val (.long mx), .second, .unset] [(.int 1)])) (fun t k => XS.iconst X21.here hx rfl (hb hby at_113) k) ?_
        refine own_byW (T' := T21) (g' := (mkF m 118 #[.val (.long x1), .second, .val (.long x2), .second, .val (.long x3), .second, .val (.int x4), .val (.ref b1), .val (.int 1), .val (.int 2), .val (.long mx), .second, .val (.long mx), .second, .unset] [(.int 1)])) (fun t k => XS.goto X21.here hx rfl (pc0 := 114) (pc' := 118) rfl (hb hby at_114) (by decide) (by decide) k) ?_
        refine own_byW (T' := T21) (g' := (mkF m 120 #[.val (.long x1), .second, .val (.long x2), .second, .val (.long x3), .second, .val (.int x4), .val (.ref b1), .val (.int 1), .val (.int 2), .val (.long mx), .second, .val (.int 1), .unset, .unset] [])) (fun t k => XS.istore X21.here hx rfl (hb hby at_118) rfl (l' := #[.val (.long x1), .second, .val (.long x2), .second, .val (.long x3), .second, .val (.int x4), .val (.ref b1), .val (.int 1), .val (.int 2), .val (.long mx), .second, .val (.int 1), .unset, .unset]) rfl k) ?_
        exact J120_22
    · rw [hk4]
      refine own_byW (T' := T4) (g' := (mkF m 53 #[.val (.long x1), .second, .val (.long x2), .second, .val (.long x3), .second, .val (.int x4), .val (.ref b1), .val (.int 1), .val (.int 3), .val (.long 0), .second, .unset, .unset, .unset] [(.int 3)])) (fun t k => XS.iload X4.here hx rfl (hb hby at_51) rfl k) ?_
      refine own_byW (T' := T4) (g' := (mkF m 54 #[.val (.long x1), .second, .val (.long x2), .second, .val (.long x3), .second, .val (.int x4), .val (.ref b1), .val (.int 1), .val (.int 3), .val (.long 0), .second, .unset, .unset, .unset] [(.int 1), (.int 3)])) (fun t k => XS.iconst X4.here hx rfl (hb hby at_53) k) ?_
      refine own_byW (T' := T4) (g' := (mkF m 57 #[.val (.long x1), .second, .val (.long x2), .second, .val (.long x3), .second, .val (.int x4), .val (.ref b1), .val (.int 1), .val (.int 3), .val (.long 0), .second, .unset, .unset, .unset] [])) (fun t k => XS.icmpNo X4.here hx rfl (hb hby at_54) rfl (flt (by decide)).1 k) ?_
      refine own_byW (T' := T4) (g' := (mkF m 59 #[.val (.long x1), .second, .val (.long x2), .second, .val (.long x3), .second, .val (.int x4), .val (.ref b1), .val (.int 1), .val (.int 3), .val (.long 0), .second, .unset, .unset, .unset] [(.ref b1)])) (fun t k => XS.aload X4.here hx rfl (hb hby at_57) rfl rfl k) ?_
      refine own_byW (T' := T4) (g' := (mkF m 60 #[.val (.long x1), .second, .val (.long x2), .second, .val (.long x3), .second, .val (.int x4), .val (.ref b1), .val (.int 1), .val (.int 3), .val (.long 0), .second, .unset, .unset, .unset] [(.long x1), (.ref b1)])) (fun t k => XS.lloadN X4.here hx rfl (hb hby at_59) rfl k) ?_
      obtain ⟨cq27, kq27, q27a, q27b, q27c⟩ := isOf hZ e4 c3_1
      obtain ⟨_, _, ⟨T27, L27, k27, n27⟩, -, X27, ⟨Lc27, hQ27, l27, y27, z27⟩, st27⟩ := X4.virtualBack hx (y := (⟨"com/example/hermit_crab/hermitcrab/engine/Table", "markChangedAt", "(J)V"⟩ : MethodName)) (z := (⟨"com/example/hermit_crab/hermitcrab/engine/Table", "markChangedAt", "(J)V"⟩ : MethodName)) hown (mvT hZ (hw _ (own_m 65 rfl))) (mvT hZ (hw _ (own_m 66 rfl))) (notFace_of_selects (args := #[]) (mvT hZ (hw _ (own_m 68 rfl)))) (mvT hZ (hw _ (own_m 68 rfl))) (mvT hZ (hw _ (own_m 67 rfl))) (by decide) (backOf (W := 0) (rm7 l Z a0 hw [] b1 x1 (0 : Int64) T3.heap n0 Zle c3_1 g_b1 c3_2) hZ (hw _ (own_m 69 rfl)) (hw _ (own_m 2 rfl)) (by decide) (by decide)) q27a q27c (g := (mkF m 60 #[.val (.long x1), .second, .val (.long x2), .second, .val (.long x3), .second, .val (.int x4), .val (.ref b1), .val (.int 1), .val (.int 3), .val (.long 0), .second, .unset, .unset, .unset] [(.long x1), (.ref b1)])) rfl (by rw [hml]; rfl) (Steps.refl _) (argsL := [(.long x1)]) (rest := []) (lenOf pd_3 rfl) rfl (own_le rfl) (hb hby at_60) (fun _ _ => ⟨rfl, e4, (by decide : 9 + 0 ≤ _), (by decide : 87 + 0 ≤ _)⟩)
      dsimp only [Pt.U, Pt.locs, Pt.cells, Pt.slots] at X27 l27 y27 z27 st27 hQ27
      subst l27 y27 z27
      obtain ⟨rfl, Nq27, c27_0, c27_1, c27_2⟩ := hQ27
      have N_ := Fr.app N_ Nq27
      have Zle := Nat.le_trans Zle c27_0.1
      have c3_1 := c3_1.keep c27_0
      have hk_ := Nat.le_trans hk_ c27_0.1
      refine own_byW (T' := T27) (g' := (mkF m 63 #[.val (.long x1), .second, .val (.long x2), .second, .val (.long x3), .second, .val (.int x4), .val (.ref b1), .val (.int 1), .val (.int 3), .val (.long 0), .second, .unset, .unset, .unset] [])) (fun t k => st27.trans k) ?_
      refine own_byW (T' := T27) (g' := (mkF m 64 #[.val (.long x1), .second, .val (.long x2), .second, .val (.long x3), .second, .val (.int x4), .val (.ref b1), .val (.int 1), .val (.int 3), .val (.long 0), .second, .unset, .unset, .unset] [(.long x1)])) (fun t k => XS.lloadN X27.here hx rfl (hb hby at_63) rfl k) ?_
      refine own_byW (T' := T27) (g' := (mkF m 66 #[.val (.long x1), .second, .val (.long x2), .second, .val (.long x3), .second, .val (.int x4), .val (.ref b1), .val (.int 1), .val (.int 3), .val (.long x1), .second, .unset, .unset, .unset] [])) (fun t k => XS.lstore X27.here hx rfl (hb hby at_64) rfl (l' := #[.val (.long x1), .second, .val (.long x2), .second, .val (.long x3), .second, .val (.int x4), .val (.ref b1), .val (.int 1), .val (.int 3), .val (.long x1), .second, .unset, .unset, .unset]) rfl k) ?_
      refine own_byW (T' := T27) (g' := (mkF m 68 #[.val (.long x1), .second, .val (.long x2), .second, .val (.long x3), .second, .val (.int x4), .val (.ref b1), .val (.int 1), .val (.int 3), .val (.long x1), .second, .unset, .unset, .unset] [(.int 3)])) (fun t k => XS.iload X27.here hx rfl (hb hby at_66) rfl k) ?_
      refine own_byW (T' := T27) (g' := (mkF m 69 #[.val (.long x1), .second, .val (.long x2), .second, .val (.long x3), .second, .val (.int x4), .val (.ref b1), .val (.int 1), .val (.int 3), .val (.long x1), .second, .unset, .unset, .unset] [(.int 2), (.int 3)])) (fun t k => XS.iconst X27.here hx rfl (hb hby at_68) k) ?_
      refine own_byW (T' := T27) (g' := (mkF m 72 #[.val (.long x1), .second, .val (.long x2), .second, .val (.long x3), .second, .val (.int x4), .val (.ref b1), .val (.int 1), .val (.int 3), .val (.long x1), .second, .unset, .unset, .unset] [])) (fun t k => XS.icmpNo X27.here hx rfl (hb hby at_69) rfl (flt (by decide)).1 k) ?_
      refine own_byW (T' := T27) (g' := (mkF m 73 #[.val (.long x1), .second, .val (.long x2), .second, .val (.long x3), .second, .val (.int x4), .val (.ref b1), .val (.int 1), .val (.int 3), .val (.long x1), .second, .unset, .unset, .unset] [(.long x1)])) (fun t k => XS.lloadN X27.here hx rfl (hb hby at_72) rfl k) ?_
      refine own_byW (T' := T27) (g' := (mkF m 74 #[.val (.long x1), .second, .val (.long x2), .second, .val (.long x3), .second, .val (.int x4), .val (.ref b1), .val (.int 1), .val (.int 3), .val (.long x1), .second, .unset, .unset, .unset] [(.long x2), (.long x1)])) (fun t k => XS.lloadN X27.here hx rfl (hb hby at_73) rfl k) ?_
      obtain ⟨_, _, ⟨T28, L28, k28, n28⟩, -, X28, ⟨Lc28, hQ28, l28, y28, z28⟩, st28⟩ := Jvm.LawKit.callS X27 hx (y := (⟨"java/lang/Math", "max", "(JJ)J"⟩ : MethodName)) hown (mvT hZ (hw _ (own_m 70 rfl))) (mvT hZ (hw _ (own_m 71 rfl))) (mvT hZ (hw _ (own_m 72 rfl))) (mvT hZ (hw _ (own_m 73 rfl))) (by decide) (backOf (W := 0) (rm8 l Z a0 hw [] x1 x2 T27.heap n0 Zle ) hZ (hw _ (own_m 73 rfl)) (hw _ (own_m 72 rfl)) (by decide) (by decide)) (g := (mkF m 74 #[.val (.long x1), .second, .val (.long x2), .second, .val (.long x3), .second, .val (.int x4), .val (.ref b1), .val (.int 1), .val (.int 3), .val (.long x1), .second, .unset, .unset, .unset] [(.long x2), (.long x1)])) rfl (by rw [hml]; rfl) (argsL := [(.long x1), (.long x2)]) (rest := []) (lenOf pd_4 rfl) rfl (own_le rfl) (hb hby at_74) (fun _ _ => ⟨rfl, rfl, (by decide : 9 + 0 ≤ _), (by decide : 87 + 0 ≤ _)⟩)
      dsimp only [Pt.U, Pt.locs, Pt.cells, Pt.slots] at X28 l28 y28 z28 st28 hQ28
      subst l28 y28 z28
      obtain ⟨rfl, Nq28, e28⟩ := hQ28
      have N_ := Fr.app N_ Nq28
      refine own_byW (T' := T28) (g' := (mkF m 77 #[.val (.long x1), .second, .val (.long x2), .second, .val (.long x3), .second, .val (.int x4), .val (.ref b1), .val (.int 1), .val (.int 3), .val (.long x1), .second, .unset, .unset, .unset] [(.long (own_max x1 x2))])) (fun t k => st28 _ k) ?_
      refine own_byW (T' := T28) (g' := (mkF m 79 #[.val (.long x1), .second, .val (.long x2), .second, .val (.long x3), .second, .val (.int x4), .val (.ref b1), .val (.int 1), .val (.int 3), .val (.long x1), .second, .val (.long (own_max x1 x2)), .second, .unset] [])) (fun t k => XS.lstore X28.here hx rfl (hb hby at_77) rfl (l' := #[.val (.long x1), .second, .val (.long x2), .second, .val (.long x3), .second, .val (.int x4), .val (.ref b1), .val (.int 1), .val (.int 3), .val (.long x1), .second, .val (.long (own_max x1 x2)), .second, .unset]) rfl k) ?_
      obtain ⟨mx, e_mx⟩ : ∃ z : Int64, z = (own_max x1 x2) := ⟨_, rfl⟩
      rw [← e_mx]
      refine own_byW (T' := T28) (g' := (mkF m 81 #[.val (.long x1), .second, .val (.long x2), .second, .val (.long x3), .second, .val (.int x4), .val (.ref b1), .val (.int 1), .val (.int 3), .val (.long x1), .second, .val (.long mx), .second, .unset] [(.ref b1)])) (fun t k => XS.aload X28.here hx rfl (hb hby at_79) rfl rfl k) ?_
      refine own_byW (T' := T28) (g' := (mkF m 83 #[.val (.long x1), .second, .val (.long x2), .second, .val (.long x3), .second, .val (.int x4), .val (.ref b1), .val (.int 1), .val (.int 3), .val (.long x1), .second, .val (.long mx), .second, .unset] [(.long mx), (.ref b1)])) (fun t k => XS.lload X28.here hx rfl (hb hby at_81) rfl k) ?_
      obtain ⟨cq29, kq29, q29a, q29b, q29c⟩ := isOf hZ e28 c27_1
      obtain ⟨_, _, ⟨T29, L29, k29, n29⟩, -, X29, ⟨Lc29, hQ29, l29, y29, z29⟩, st29⟩ := X28.virtualBack hx (y := (⟨"com/example/hermit_crab/hermitcrab/engine/Table", "markChangedAt", "(J)V"⟩ : MethodName)) (z := (⟨"com/example/hermit_crab/hermitcrab/engine/Table", "markChangedAt", "(J)V"⟩ : MethodName)) hown (mvT hZ (hw _ (own_m 65 rfl))) (mvT hZ (hw _ (own_m 66 rfl))) (notFace_of_selects (args := #[]) (mvT hZ (hw _ (own_m 68 rfl)))) (mvT hZ (hw _ (own_m 68 rfl))) (mvT hZ (hw _ (own_m 67 rfl))) (by decide) (backOf (W := 0) (rm7 l Z a0 hw [] b1 mx x1 T27.heap n0 Zle c27_1 g_b1 c27_2) hZ (hw _ (own_m 69 rfl)) (hw _ (own_m 2 rfl)) (by decide) (by decide)) q29a q29c (g := (mkF m 83 #[.val (.long x1), .second, .val (.long x2), .second, .val (.long x3), .second, .val (.int x4), .val (.ref b1), .val (.int 1), .val (.int 3), .val (.long x1), .second, .val (.long mx), .second, .unset] [(.long mx), (.ref b1)])) rfl (by rw [hml]; rfl) (Steps.refl _) (argsL := [(.long mx)]) (rest := []) (lenOf pd_3 rfl) rfl (own_le rfl) (hb hby at_83) (fun _ _ => ⟨rfl, e28, (by decide : 9 + 0 ≤ _), (by decide : 87 + 0 ≤ _)⟩)
      dsimp only [Pt.U, Pt.locs, Pt.cells, Pt.slots] at X29 l29 y29 z29 st29 hQ29
      subst l29 y29 z29
      obtain ⟨rfl, Nq29, c29_0, c29_1, c29_2⟩ := hQ29
      have N_ := Fr.app N_ Nq29
      have Zle := Nat.le_trans Zle c29_0.1
      have c27_1 := c27_1.keep c29_0
      have hk_ := Nat.le_trans hk_ c29_0.1
      refine own_byW (T' := T29) (g' := (mkF m 86 #[.val (.long x1), .second, .val (.long x2), .second, .val (.long x3), .second, .val (.int x4), .val (.ref b1), .val (.int 1), .val (.int 3), .val (.long x1), .second, .val (.long mx), .second, .unset] [])) (fun t k => st29.trans k) ?_
      refine own_byW (T' := T29) (g' := (mkF m 88 #[.val (.long x1), .second, .val (.long x2), .second, .val (.long x3), .second, .val (.int x4), .val (.ref b1), .val (.int 1), .val (.int 3), .val (.long x1), .second, .val (.long mx), .second, .unset] [(.long mx)])) (fun t k => XS.lload X29.here hx rfl (hb hby at_86) rfl k) ?_
      refine own_byW (T' := T29) (g' := (mkF m 90 #[.val (.long x1), .second, .val (.long x2), .second, .val (.long x3), .second, .val (.int x4), .val (.ref b1), .val (.int 1), .val (.int 3), .val (.long mx), .second, .val (.long mx), .second, .unset] [])) (fun t k => XS.lstore X29.here hx rfl (hb hby at_88) rfl (l' := #[.val (.long x1), .second, .val (.long x2), .second, .val (.long x3), .second, .val (.int x4), .val (.ref b1), .val (.int 1), .val (.int 3), .val (.long mx), .second, .val (.long mx), .second, .unset]) rfl k) ?_
      refine own_byW (T' := T29) (g' := (mkF m 92 #[.val (.long x1), .second, .val (.long x2), .second, .val (.long x3), .second, .val (.int x4), .val (.ref b1), .val (.int 1), .val (.int 3), .val (.long mx), .second, .val (.long mx), .second, .unset] [(.ref b1)])) (fun t k => XS.aload X29.here hx rfl (hb hby at_90) rfl rfl k) ?_
      refine own_byW (T' := T29) (g' := (mkF m 94 #[.val (.long x1), .second, .val (.long x2), .second, .val (.long x3), .second, .val (.int x4), .val (.ref b1), .val (.int 1), .val (.int 3), .val (.long mx), .second, .val (.long mx), .second, .unset] [(.long x3), (.ref b1)])) (fun t k => XS.lload X29.here hx rfl (hb hby at_92) rfl k) ?_
      obtain ⟨cq30, kq30, q30a, q30b, q30c⟩ := isOf hZ rfl c29_1
      obtain ⟨_, _, ⟨T30, L30, k30, n30⟩, -, X30, ⟨Lc30, hQ30, l30, y30, z30⟩, st30⟩ := X29.virtualBack hx (y := (⟨"com/example/hermit_crab/hermitcrab/engine/Table", "isUnchangedSince", "(J)Z"⟩ : MethodName)) (z := (⟨"com/example/hermit_crab/hermitcrab/engine/Table", "isUnchangedSince", "(J)Z"⟩ : MethodName)) hown (mvT hZ (hw _ (own_m 58 rfl))) (mvT hZ (hw _ (own_m 59 rfl))) (notFace_of_selects (args := #[]) (mvT hZ (hw _ (own_m 61 rfl)))) (mvT hZ (hw _ (own_m 61 rfl))) (mvT hZ (hw _ (own_m 60 rfl))) (by decide) (backOf (W := 0) (rm6 l Z a0 hw [] b1 x3 mx T29.heap n0 Zle c29_2) hZ (hw _ (own_m 62 rfl)) (hw _ (own_m 2 rfl)) (by decide) (by decide)) q30a q30c (g := (mkF m 94 #[.val (.long x1), .second, .val (.long x2), .second, .val (.long x3), .second, .val (.int x4), .val (.ref b1), .val (.int 1), .val (.int 3), .val (.long mx), .second, .val (.long mx), .second, .unset] [(.long x3), (.ref b1)])) rfl (by rw [hml]; rfl) (Steps.refl _) (argsL := [(.long x3)]) (rest := []) (lenOf pd_2 rfl) rfl (own_le rfl) (hb hby at_94) (fun _ _ => ⟨rfl, rfl, (by decide : 9 + 0 ≤ _), (by decide : 87 + 0 ≤ _)⟩)
      dsimp only [Pt.U, Pt.locs, Pt.cells, Pt.slots] at X30 l30 y30 z30 st30 hQ30
      subst l30 y30 z30
      obtain ⟨rfl, Nq30, e30⟩ := hQ30
      have N_ := Fr.app N_ Nq30
      refine own_byW (T' := T30) (g' := (mkF m 97 #[.val (.long x1), .second, .val (.long x2), .second, .val (.long x3), .second, .val (.int x4), .val (.ref b1), .val (.int 1), .val (.int 3), .val (.long mx), .second, .val (.long mx), .second, .unset] [(.int (own_u mx x3))])) (fun t k => st30.trans k) ?_
      have J120_31 : own_GoesW p.tables e below s (Q0 Z x1 x2 x3 x4 h0 n0) room_1.cells room_1.slots T30 (mkF m 120 #[.val (.long x1), .second, .val (.long x2), .second, .val (.long x3), .second, .val (.int x4), .val (.ref b1), .val (.int 1), .val (.int 3), .val (.long mx), .second, .val (.int 1), .unset, .unset] []) := by
        refine own_byW (T' := T30) (g' := (mkF m 122 #[.val (.long x1), .second, .val (.long x2), .second, .val (.long x3), .second, .val (.int x4), .val (.ref b1), .val (.int 1), .val (.int 3), .val (.long mx), .second, .val (.int 1), .unset, .unset] [(.ref b1)])) (fun t k => XS.aload X30.here hx rfl (hb hby at_120) rfl rfl k) ?_
        refine own_byW (T' := T30) (g' := (mkF m 124 #[.val (.long x1), .second, .val (.long x2), .second, .val (.long x3), .second, .val (.int x4), .val (.ref b1), .val (.int 1), .val (.int 3), .val (.long mx), .second, .val (.int 1), .unset, .unset] [(.long mx), (.ref b1)])) (fun t k => XS.lload X30.here hx rfl (hb hby at_122) rfl k) ?_
        obtain ⟨cq32, kq32, q32a, q32b, q32c⟩ := isOf hZ e30 c29_1
        obtain ⟨_, _, ⟨T32, L32, k32, n32⟩, -, X32, ⟨Lc32, hQ32, l32, y32, z32⟩, st32⟩ := X30.virtualBack hx (y := (⟨"com/example/hermit_crab/hermitcrab/engine/Table", "isUnchangedSince", "(J)Z"⟩ : MethodName)) (z := (⟨"com/example/hermit_crab/hermitcrab/engine/Table", "isUnchangedSince", "(J)Z"⟩ : MethodName)) hown (mvT hZ (hw _ (own_m 58 rfl))) (mvT hZ (hw _ (own_m 59 rfl))) (notFace_of_selects (args := #[]) (mvT hZ (hw _ (own_m 61 rfl)))) (mvT hZ (hw _ (own_m 61 rfl))) (mvT hZ (hw _ (own_m 60 rfl))) (by decide) (backOf (W := 0) (rm6 l Z a0 hw [] b1 mx mx T29.heap n0 Zle c29_2) hZ (hw _ (own_m 62 rfl)) (hw _ (own_m 2 rfl)) (by decide) (by decide)) q32a q32c (g := (mkF m 124 #[.val (.long x1), .second, .val (.long x2), .second, .val (.long x3), .second, .val (.int x4), .val (.ref b1), .val (.int 1), .val (.int 3), .val (.long mx), .second, .val (.int 1), .unset, .unset] [(.long mx), (.ref b1)])) rfl (by rw [hml]; rfl) (Steps.refl _) (argsL := [(.long mx)]) (rest := []) (lenOf pd_2 rfl) rfl (own_le rfl) (hb hby at_124) (fun _ _ => ⟨rfl, e30, (by decide : 9 + 0 ≤ _), (by decide : 87 + 0 ≤ _)⟩)
        dsimp only [Pt.U, Pt.locs, Pt.cells, Pt.slots] at X32 l32 y32 z32 st32 hQ32
        subst l32 y32 z32
        obtain ⟨rfl, Nq32, e32⟩ := hQ32
        have N_ := Fr.app N_ Nq32
        refine own_byW (T' := T32) (g' := (mkF m 127 #[.val (.long x1), .second, .val (.long x2), .second, .val (.long x3), .second, .val (.int x4), .val (.ref b1), .val (.int 1), .val (.int 3), .val (.long mx), .second, .val (.int 1), .unset, .unset] [(.int (own_u mx mx))])) (fun t k => st32.trans k) ?_
        refine own_byW (T' := T32) (g' := (mkF m 129 #[.val (.long x1), .second, .val (.long x2), .second, .val (.long x3), .second, .val (.int x4), .val (.ref b1), .val (.int 1), .val (.int 3), .val (.long mx), .second, .val (.int 1), .val (.int (own_u mx mx)), .unset] [])) (fun t k => XS.istore X32.here hx rfl (hb hby at_127) rfl (l' := #[.val (.long x1), .second, .val (.long x2), .second, .val (.long x3), .second, .val (.int x4), .val (.ref b1), .val (.int 1), .val (.int 3), .val (.long mx), .second, .val (.int 1), .val (.int (own_u mx mx)), .unset]) rfl k) ?_
        refine own_byW (T' := T32) (g' := (mkF m 131 #[.val (.long x1), .second, .val (.long x2), .second, .val (.long x3), .second, .val (.int x4), .val (.ref b1), .val (.int 1), .val (.int 3), .val (.long mx), .second, .val (.int 1), .val (.int (own_u mx mx)), .unset] [(.long mx)])) (fun t k => XS.lload X32.here hx rfl (hb hby at_129) rfl k) ?_
        refine own_byW (T' := T32) (g' := (mkF m 134 #[.val (.long x1), .second, .val (.long x2), .second, .val (.long x3), .second, .val (.int x4), .val (.ref b1), .val (.int 1), .val (.int 3), .val (.long mx), .second, .val (.int 1), .val (.int (own_u mx mx)), .unset] [(.long (-9223372036854775808)), (.long mx)])) (fun t k => X32.ldc2Long hx hown (mvT hZ (hw _ (own_m 74 rfl))) (g := (mkF m 131 #[.val (.long x1), .second, .val (.long x2), .second, .val (.long x3), .second, .val (.int x4), .val (.ref b1), .val (.int 1), .val (.int 3), .val (.long mx), .second, .val (.int 1), .val (.int (own_u mx mx)), .unset] [(.long mx)])) rfl (hb hby at_131) _ k) ?_
        refine own_byW (T' := T32) (g' := (mkF m 135 #[.val (.long x1), .second, .val (.long x2), .second, .val (.long x3), .second, .val (.int x4), .val (.ref b1), .val (.int 1), .val (.int 3), .val (.long mx), .second, .val (.int 1), .val (.int (own_u mx mx)), .unset] [(.int (lcmpW mx (-9223372036854775808 : Int64)))])) (fun t k => XS.lcmp X32.here hx rfl (hb hby at_134) rfl k) ?_
        by_cases hc135_33 : mx = (-9223372036854775808 : Int64)
        · refine own_byW (T' := T32) (g' := (mkF m 150 #[.val (.long x1), .second, .val (.long x2), .second, .val (.long x3), .second, .val (.int x4), .val (.ref b1), .val (.int 1), .val (.int 3), .val (.long mx), .second, .val (.int 1), .val (.int (own_u mx mx)), .unset] [])) (fun t k => XS.ifYes X32.here hx rfl (pc0 := 135) (pc' := 150) rfl (hb hby at_135) rfl ((if0 _ _).trans (teq ((lw_eq _ _).mpr hc135_33)).1) (by decide) (by decide) k) ?_
          refine own_byW (T' := T32) (g' := (mkF m 151 #[.val (.long x1), .second, .val (.long x2), .second, .val (.long x3), .second, .val (.int x4), .val (.ref b1), .val (.int 1), .val (.int 3), .val (.long mx), .second, .val (.int 1), .val (.int (own_u mx mx)), .unset] [(.int 1)])) (fun t k => XS.iconst X32.here hx rfl (hb hby at_150) k) ?_
          refine own_byW (T' := T32) (g' := (mkF m 155 #[.val (.long x1), .second, .val (.long x2), .second, .val (.long x3), .second, .val (.int x4), .val (.ref b1), .val (.int 1), .val (.int 3), .val (.long mx), .second, .val (.int 1), .val (.int (own_u mx mx)), .unset] [(.int 1)])) (fun t k => XS.goto X32.here hx rfl (pc0 := 151) (pc' := 155) rfl (hb hby at_151) (by decide) (by decide) k) ?_
          refine own_byW (T' := T32) (g' := (mkF m 157 #[.val (.long x1), .second, .val (.long x2), .second, .val (.long x3), .second, .val (.int x4), .val (.ref b1), .val (.int 1), .val (.int 3), .val (.long mx), .second, .val (.int 1), .val (.int (own_u mx mx)), .val (.int 1)] [])) (fun t k => XS.istore X32.here hx rfl (hb hby at_155) rfl (l' := #[.val (.long x1), .second, .val (.long x2), .second, .val (.long x3), .second, .val (.int x4), .val (.ref b1), .val (.int 1), .val (.int 3), .val (.long mx), .second, .val (.int 1), .val (.int (own_u mx mx)), .val (.int 1)]) rfl k) ?_
          refine own_byW (T' := T32) (g' := (mkF m 159 #[.val (.long x1), .second, .val (.long x2), .second, .val (.long x3), .second, .val (.int x4), .val (.ref b1), .val (.int 1), .val (.int 3), .val (.long mx), .second, .val (.int 1), .val (.int (own_u mx mx)), .val (.int 1)] [(.int 1)])) (fun t k => XS.iload X32.here hx rfl (hb hby at_157) rfl k) ?_
          refine own_byW (T' := T32) (g' := (mkF m 162 #[.val (.long x1), .second, .val (.long x2), .second, .val (.long x3), .second, .val (.int x4), .val (.ref b1), .val (.int 1), .val (.int 3), .val (.long mx), .second, .val (.int 1), .val (.int (own_u mx mx)), .val (.int 1)] [])) (fun t k => XS.ifNo X32.here hx rfl (hb hby at_159) rfl ((if0 _ _).trans (feq (by decide)).1) k) ?_
          refine own_byW (T' := T32) (g' := (mkF m 164 #[.val (.long x1), .second, .val (.long x2), .second, .val (.long x3), .second, .val (.int x4), .val (.ref b1), .val (.int 1), .val (.int 3), .val (.long mx), .second, .val (.int 1), .val (.int (own_u mx mx)), .val (.int 1)] [(.int 1)])) (fun t k => XS.iload X32.here hx rfl (hb hby at_162) rfl k) ?_
          refine own_byW (T' := T32) (g' := (mkF m 167 #[.val (.long x1), .second, .val (.long x2), .second, .val (.long x3), .second, .val (.int x4), .val (.ref b1), .val (.int 1), .val (.int 3), .val (.long mx), .second, .val (.int 1), .val (.int (own_u mx mx)), .val (.int 1)] [])) (fun t k => XS.ifNo X32.here hx rfl (hb hby at_164) rfl ((if0 _ _).trans (feq (by decide)).1) k) ?_
          refine own_byW (T' := T32) (g' := (mkF m 169 #[.val (.long x1), .second, .val (.long x2), .second, .val (.long x3), .second, .val (.int x4), .val (.ref b1), .val (.int 1), .val (.int 3), .val (.long mx), .second, .val (.int 1), .val (.int (own_u mx mx)), .val (.int 1)] [(.int (own_u mx mx))])) (fun t k => XS.iload X32.here hx rfl (hb hby at_167) rfl k) ?_
          refine own_byW (T' := T32) (g' := (mkF m 172 #[.val (.long x1), .second, .val (.long x2), .second, .val (.long x3), .second, .val (.int x4), .val (.ref b1), .val (.int 1), .val (.int 3), .val (.long mx), .second, .val (.int 1), .val (.int (own_u mx mx)), .val (.int 1)] [])) (fun t k => XS.ifNo X32.here hx rfl (hb hby at_169) rfl ((if0 _ _).trans (feq (own_u_self _)).1) k) ?_
          refine own_byW (T' := T32) (g' := (mkF m 174 #[.val (.long x1), .second, .val (.long x2), .second, .val (.long x3), .second, .val (.int x4), .val (.ref b1), .val (.int 1), .val (.int 3), .val (.long mx), .second, .val (.int 1), .val (.int (own_u mx mx)), .val (.int 1)] [(.int 1)])) (fun t k => XS.iload X32.here hx rfl (hb hby at_172) rfl k) ?_
          refine own_byW (T' := T32) (g' := (mkF m 177 #[.val (.long x1), .second, .val (.long x2), .second, .val (.long x3), .second, .val (.int x4), .val (.ref b1), .val (.int 1), .val (.int 3), .val (.long mx), .second, .val (.int 1), .val (.int (own_u mx mx)), .val (.int 1)] [])) (fun t k => XS.ifNo X32.here hx rfl (hb hby at_174) rfl ((if0 _ _).trans (feq (by decide)).1) k) ?_
          refine own_byW (T' := T32) (g' := (mkF m 178 #[.val (.long x1), .second, .val (.long x2), .second, .val (.long x3), .second, .val (.int x4), .val (.ref b1), .val (.int 1), .val (.int 3), .val (.long mx), .second, .val (.int 1), .val (.int (own_u mx mx)), .val (.int 1)] [(.int 1)])) (fun t k => XS.iconst X32.here hx rfl (hb hby at_177) k) ?_
          refine own_byW (T' := T32) (g' := (mkF m 182 #[.val (.long x1), .second, .val (.long x2), .second, .val (.long x3), .second, .val (.int x4), .val (.ref b1), .val (.int 1), .val (.int 3), .val (.long mx), .second, .val (.int 1), .val (.int (own_u mx mx)), .val (.int 1)] [(.int 1)])) (fun t k => XS.goto X32.here hx rfl (pc0 := 178) (pc' := 182) rfl (hb hby at_178) (by decide) (by decide) k) ?_
          exact own_retNW X32 hS (by rw [e32]; exact hk_) hx (t := .boolean) Bd.notSynchronized Bd.returns (by simp) (hb hby at_182) (by decide) (by decide) (by rw [e32]; exact ⟨rfl, N_⟩)
        · refine own_byW (T' := T32) (g' := (mkF m 138 #[.val (.long x1), .second, .val (.long x2), .second, .val (.long x3), .second, .val (.int x4), .val (.ref b1), .val (.int 1), .val (.int 3), .val (.long mx), .second, .val (.int 1), .val (.int (own_u mx mx)), .unset] [])) (fun t k => XS.ifNo X32.here hx rfl (hb hby at_135) rfl ((if0 _ _).trans (feq (fun q => hc135_33 ((lw_eq _ _).mp q))).1) k) ?_
          refine own_byW (T' := T32) (g' := (mkF m 140 #[.val (.long x1), .second, .val (.long x2), .second, .val (.long x3), .second, .val (.int x4), .val (.ref b1), .val (.int 1), .val (.int 3), .val (.long mx), .second, .val (.int 1), .val (.int (own_u mx mx)), .unset] [(.ref b1)])) (fun t k => XS.aload X32.here hx rfl (hb hby at_138) rfl rfl k) ?_
          refine own_byW (T' := T32) (g' := (mkF m 142 #[.val (.long x1), .second, .val (.long x2), .second, .val (.long x3), .second, .val (.int x4), .val (.ref b1), .val (.int 1), .val (.int 3), .val (.long mx), .second, .val (.int 1), .val (.int (own_u mx mx)), .unset] [(.long mx), (.ref b1)])) (fun t k => XS.lload X32.here hx rfl (hb hby at_140) rfl k) ?_
          refine own_byW (T' := T32) (g' := (mkF m 143 #[.val (.long x1), .second, .val (.long x2), .second, .val (.long x3), .second, .val (.int x4), .val (.ref b1), .val (.int 1), .val (.int 3), .val (.long mx), .second, .val (.int 1), .val (.int (own_u mx mx)), .unset] [(.long 1), (.long mx), (.ref b1)])) (fun t k => XS.lconst X32.here hx rfl (hb hby at_142) k) ?_
          refine own_byW (T' := T32) (g' := (mkF m 144 #[.val (.long x1), .second, .val (.long x2), .second, .val (.long x3), .second, .val (.int x4), .val (.ref b1), .val (.int 1), .val (.int 3), .val (.long mx), .second, .val (.int 1), .val (.int (own_u mx mx)), .unset] [(.long (mx - (1 : Int64))), (.ref b1)])) (fun t k => XS.lsub X32.here hx rfl (hb hby at_143) rfl k) ?_
          obtain ⟨cq34, kq34, q34a, q34b, q34c⟩ := isOf hZ e32 c29_1
          obtain ⟨_, _, ⟨T34, L34, k34, n34⟩, -, X34, ⟨Lc34, hQ34, l34, y34, z34⟩, st34⟩ := X32.virtualBack hx (y := (⟨"com/example/hermit_crab/hermitcrab/engine/Table", "isUnchangedSince", "(J)Z"⟩ : MethodName)) (z := (⟨"com/example/hermit_crab/hermitcrab/engine/Table", "isUnchangedSince", "(J)Z"⟩ : MethodName)) hown (mvT hZ (hw _ (own_m 58 rfl))) (mvT hZ (hw _ (own_m 59 rfl))) (notFace_of_selects (args := #[]) (mvT hZ (hw _ (own_m 61 rfl)))) (mvT hZ (hw _ (own_m 61 rfl))) (mvT hZ (hw _ (own_m 60 rfl))) (by decide) (backOf (W := 0) (rm6 l Z a0 hw [] b1 (mx - (1 : Int64)) mx T29.heap n0 Zle c29_2) hZ (hw _ (own_m 62 rfl)) (hw _ (own_m 2 rfl)) (by decide) (by decide)) q34a q34c (g := (mkF m 144 #[.val (.long x1), .second, .val (.long x2), .second, .val (.long x3), .second, .val (.int x4), .val (.ref b1), .val (.int 1), .val (.int 3), .val (.long mx), .second, .val (.int 1), .val (.int (own_u mx mx)), .unset] [(.long (mx - (1 : Int64))), (.ref b1)])) rfl (by rw [hml]; rfl) (Steps.refl _) (argsL := [(.long (mx - (1 : Int64)))]) (rest := []) (lenOf pd_2 rfl) rfl (own_le rfl) (hb hby at_144) (fun _ _ => ⟨rfl, e32, (by decide : 9 + 0 ≤ _), (by decide : 87 + 0 ≤ _)⟩)
          dsimp only [Pt.U, Pt.locs, Pt.cells, Pt.slots] at X34 l34 y34 z34 st34 hQ34
          subst l34 y34 z34
          obtain ⟨rfl, Nq34, e34⟩ := hQ34
          have N_ := Fr.app N_ Nq34
          refine own_byW (T' := T34) (g' := (mkF m 147 #[.val (.long x1), .second, .val (.long x2), .second, .val (.long x3), .second, .val (.int x4), .val (.ref b1), .val (.int 1), .val (.int 3), .val (.long mx), .second, .val (.int 1), .val (.int (own_u mx mx)), .unset] [(.int (own_u mx (mx - (1 : Int64))))])) (fun t k => st34.trans k) ?_
          refine own_byW (T' := T34) (g' := (mkF m 150 #[.val (.long x1), .second, .val (.long x2), .second, .val (.long x3), .second, .val (.int x4), .val (.ref b1), .val (.int 1), .val (.int 3), .val (.long mx), .second, .val (.int 1), .val (.int (own_u mx mx)), .unset] [])) (fun t k => XS.ifNo X34.here hx rfl (hb hby at_147) rfl ((if0 _ _).trans (teq (own_u_below hc135_33)).2) k) ?_
          refine own_byW (T' := T34) (g' := (mkF m 151 #[.val (.long x1), .second, .val (.long x2), .second, .val (.long x3), .second, .val (.int x4), .val (.ref b1), .val (.int 1), .val (.int 3), .val (.long mx), .second, .val (.int 1), .val (.int (own_u mx mx)), .unset] [(.int 1)])) (fun t k => XS.iconst X34.here hx rfl (hb hby at_150) k) ?_
          refine own_byW (T' := T34) (g' := (mkF m 155 #[.val (.long x1), .second, .val (.long x2), .second, .val (.long x3), .second, .val (.int x4), .val (.ref b1), .val (.int 1), .val (.int 3), .val (.long mx), .second, .val (.int 1), .val (.int (own_u mx mx)), .unset] [(.int 1)])) (fun t k => XS.goto X34.here hx rfl (pc0 := 151) (pc' := 155) rfl (hb hby at_151) (by decide) (by decide) k) ?_
          refine own_byW (T' := T34) (g' := (mkF m 157 #[.val (.long x1), .second, .val (.long x2), .second, .val (.long x3), .second, .val (.int x4), .val (.ref b1), .val (.int 1), .val (.int 3), .val (.long mx), .second, .val (.int 1), .val (.int (own_u mx mx)), .val (.int 1)] [])) (fun t k => XS.istore X34.here hx rfl (hb hby at_155) rfl (l' := #[.val (.long x1), .second, .val (.long x2), .second, .val (.long x3), .second, .val (.int x4), .val (.ref b1), .val (.int 1), .val (.int 3), .val (.long mx), .second, .val (.int 1), .val (.int (own_u mx mx)), .val (.int 1)]) rfl k) ?_
          refine own_byW (T' := T34) (g' := (mkF m 159 #[.val (.long x1), .second, .val (.long x2), .second, .val (.long x3), .second, .val (.int x4), .val (.ref b1), .val (.int 1), .val (.int 3), .val (.long mx), .second, .val (.int 1), .val (.int (own_u mx mx)), .val (.int 1)] [(.int 1)])) (fun t k => XS.iload X34.here hx rfl (hb hby at_157) rfl k) ?_
          refine own_byW (T' := T34) (g' := (mkF m 162 #[.val (.long x1), .second, .val (.long x2), .second, .val (.long x3), .second, .val (.int x4), .val (.ref b1), .val (.int 1), .val (.int 3), .val (.long mx), .second, .val (.int 1), .val (.int (own_u mx mx)), .val (.int 1)] [])) (fun t k => XS.ifNo X34.here hx rfl (hb hby at_159) rfl ((if0 _ _).trans (feq (by decide)).1) k) ?_
          refine own_byW (T' := T34) (g' := (mkF m 164 #[.val (.long x1), .second, .val (.long x2), .second, .val (.long x3), .second, .val (.int x4), .val (.ref b1), .val (.int 1), .val (.int 3), .val (.long mx), .second, .val (.int 1), .val (.int (own_u mx mx)), .val (.int 1)] [(.int 1)])) (fun t k => XS.iload X34.here hx rfl (hb hby at_162) rfl k) ?_
          refine own_byW (T' := T34) (g' := (mkF m 167 #[.val (.long x1), .second, .val (.long x2), .second, .val (.long x3), .second, .val (.int x4), .val (.ref b1), .val (.int 1), .val (.int 3), .val (.long mx), .second, .val (.int 1), .val (.int (own_u mx mx)), .val (.int 1)] [])) (fun t k => XS.ifNo X34.here hx rfl (hb hby at_164) rfl ((if0 _ _).trans (feq (by decide)).1) k) ?_
          refine own_byW (T' := T34) (g' := (mkF m 169 #[.val (.long x1), .second, .val (.long x2), .second, .val (.long x3), .second, .val (.int x4), .val (.ref b1), .val (.int 1), .val (.int 3), .val (.long mx), .second, .val (.int 1), .val (.int (own_u mx mx)), .val (.int 1)] [(.int (own_u mx mx))])) (fun t k => XS.iload X34.here hx rfl (hb hby at_167) rfl k) ?_
          refine own_byW (T' := T34) (g' := (mkF m 172 #[.val (.long x1), .second, .val (.long x2), .second, .val (.long x3), .second, .val (.int x4), .val (.ref b1), .val (.int 1), .val (.int 3), .val (.long mx), .second, .val (.int 1), .val (.int (own_u mx mx)), .val (.int 1)] [])) (fun t k => XS.ifNo X34.here hx rfl (hb hby at_169) rfl ((if0 _ _).trans (feq (own_u_self _)).1) k) ?_
          refine own_byW (T' := T34) (g' := (mkF m 174 #[.val (.long x1), .second, .val (.long x2), .second, .val (.long x3), .second, .val (.int x4), .val (.ref b1), .val (.int 1), .val (.int 3), .val (.long mx), .second, .val (.int 1), .val (.int (own_u mx mx)), .val (.int 1)] [(.int 1)])) (fun t k => XS.iload X34.here hx rfl (hb hby at_172) rfl k) ?_
          refine own_byW (T' := T34) (g' := (mkF m 177 #[.val (.long x1), .second, .val (.long x2), .second, .val (.long x3), .second, .val (.int x4), .val (.ref b1), .val (.int 1), .val (.int 3), .val (.long mx), .second, .val (.int 1), .val (.int (own_u mx mx)), .val (.int 1)] [])) (fun t k => XS.ifNo X34.here hx rfl (hb hby at_174) rfl ((if0 _ _).trans (feq (by decide)).1) k) ?_
          refine own_byW (T' := T34) (g' := (mkF m 178 #[.val (.long x1), .second, .val (.long x2), .second, .val (.long x3), .second, .val (.int x4), .val (.ref b1), .val (.int 1), .val (.int 3), .val (.long mx), .second, .val (.int 1), .val (.int (own_u mx mx)), .val (.int 1)] [(.int 1)])) (fun t k => XS.iconst X34.here hx rfl (hb hby at_177) k) ?_
          refine own_byW (T' := T34) (g' := (mkF m 182 #[.val (.long x1), .second, .val (.long x2), .second, .val (.long x3), .second, .val (.int x4), .val (.ref b1), .val (.int 1), .val (.int 3), .val (.long mx), .second, .val (.int 1), .val (.int (own_u mx mx)), .val (.int 1)] [(.int 1)])) (fun t k => XS.goto X34.here hx rfl (pc0 := 178) (pc' := 182) rfl (hb hby at_178) (by decide) (by decide) k) ?_
          exact own_retNW X34 hS (by rw [e34]; exact hk_) hx (t := .boolean) Bd.notSynchronized Bd.returns (by simp) (hb hby at_182) (by decide) (by decide) (by rw [e34]; exact ⟨rfl, N_⟩)
      refine own_byW (T' := T30) (g' := (mkF m 99 #[.val (.long x1), .second, .val (.long x2), .second, .val (.long x3), .second, .val (.int x4), .val (.ref b1), .val (.int 1), .val (.int 3), .val (.long mx), .second, .val (.long mx), .second, .unset] [(.long mx), (.int (own_u mx x3))])) (fun t k => XS.lload X30.here hx rfl (hb hby at_97) rfl k) ?_
      refine own_byW (T' := T30) (g' := (mkF m 101 #[.val (.long x1), .second, .val (.long x2), .second, .val (.long x3), .second, .val (.int x4), .val (.ref b1), .val (.int 1), .val (.int 3), .val (.long mx), .second, .val (.long mx), .second, .unset] [(.long x3), (.long mx), (.int (own_u mx x3))])) (fun t k => XS.lload X30.here hx rfl (hb hby at_99) rfl k) ?_
      refine own_byW (T' := T30) (g' := (mkF m 102 #[.val (.long x1), .second, .val (.long x2), .second, .val (.long x3), .second, .val (.int x4), .val (.ref b1), .val (.int 1), .val (.int 3), .val (.long mx), .second, .val (.long mx), .second, .unset] [(.int (lcmpW mx x3)), (.int (own_u mx x3))])) (fun t k => XS.lcmp X30.here hx rfl (hb hby at_101) rfl k) ?_
      by_cases hc102_35 : x3 < mx
      · refine own_byW (T' := T30) (g' := (mkF m 109 #[.val (.long x1), .second, .val (.long x2), .second, .val (.long x3), .second, .val (.int x4), .val (.ref b1), .val (.int 1), .val (.int 3), .val (.long mx), .second, .val (.long mx), .second, .unset] [(.int (own_u mx x3))])) (fun t k => XS.ifYes X30.here hx rfl (pc0 := 102) (pc' := 109) rfl (hb hby at_102) rfl ((if0 _ _).trans (tlt ((lw_gt _ _).mpr hc102_35)).2.2.1) (by decide) (by decide) k) ?_
        refine own_byW (T' := T30) (g' := (mkF m 110 #[.val (.long x1), .second, .val (.long x2), .second, .val (.long x3), .second, .val (.int x4), .val (.ref b1), .val (.int 1), .val (.int 3), .val (.long mx), .second, .val (.long mx), .second, .unset] [(.int 0), (.int (own_u mx x3))])) (fun t k => XS.iconst X30.here hx rfl (hb hby at_109) k) ?_
        refine own_byW (T' := T30) (g' := (mkF m 113 #[.val (.long x1), .second, .val (.long x2), .second, .val (.long x3), .second, .val (.int x4), .val (.ref b1), .val (.int 1), .val (.int 3), .val (.long mx), .second, .val (.long mx), .second, .unset] [])) (fun t k => XS.icmpNo X30.here hx rfl (hb hby at_110) rfl (teq (by unfold own_u; rw [if_pos hc102_35])).2 k) ?_
        refine own_byW (T' := T30) (g' := (mkF m 114 #[.val (.long x1), .second, .val (.long x2), .second, .val (.long x3), .second, .val (.int x4), .val (.ref b1), .val (.int 1), .val (.int 3), .val (.long mx), .second, .val (.long mx), .second, .unset] [(.int 1)])) (fun t k => XS.iconst X30.here hx rfl (hb hby at_113) k) ?_
        refine own_byW (T' := T30) (g' := (mkF m 118 #[.val (.long x1), .second, .val (.long x2), .second, .val (.long x3), .second, .val (.int x4), .val (.ref b1), .val (.int 1), .val (.int 3), .val (.long mx), .second, .val (.long mx), .second, .unset] [(.int 1)])) (fun t k => XS.goto X30.here hx rfl (pc0 := 114) (pc' := 118) rfl (hb hby at_114) (by decide) (by decide) k) ?_
        refine own_byW (T' := T30) (g' := (mkF m 120 #[.val (.long x1), .second, .val (.long x2), .second, .val (.long x3), .second, .val (.int x4), .val (.ref b1), .val (.int 1), .val (.int 3), .val (.long mx), .second, .val (.int 1), .unset, .unset] [])) (fun t k => XS.istore X30.here hx rfl (hb hby at_118) rfl (l' := #[.val (.long x1), .second, .val (.long x2), .second, .val (.long x3), .second, .val (.int x4), .val (.ref b1), .val (.int 1), .val (.int 3), .val (.long mx), .second, .val (.int 1), .unset, .unset]) rfl k) ?_
        exact J120_31
      · refine own_byW (T' := T30) (g' := (mkF m 105 #[.val (.long x1), .second, .val (.long x2), .second, .val (.long x3), .second, .val (.int x4), .val (.ref b1), .val (.int 1), .val (.int 3), .val (.long mx), .second, .val (.long mx), .second, .unset] [(.int (own_u mx x3))])) (fun t k => XS.ifNo X30.here hx rfl (hb hby at_102) rfl ((if0 _ _).trans (flt (fun q => hc102_35 ((lw_gt _ _).mp q))).2.2.1) k) ?_
        refine own_byW (T' := T30) (g' := (mkF m 106 #[.val (.long x1), .second, .val (.long x2), .second, .val (.long x3), .second, .val (.int x4), .val (.ref b1), .val (.int 1), .val (.int 3), .val (.long mx), .second, .val (.long mx), .second, .unset] [(.int 1), (.int (own_u mx x3))])) (fun t k => XS.iconst X30.here hx rfl (hb hby at_105) k) ?_
        refine own_byW (T' := T30) (g' := (mkF m 110 #[.val (.long x1), .second, .val (.long x2), .second, .val (.long x3), .second, .val (.int x4), .val (.ref b1), .val (.int 1), .val (.int 3), .val (.long mx), .second, .val (.long mx), .second, .unset] [(.int 1), (.int (own_u mx x3))])) (fun t k => XS.goto X30.here hx rfl (pc0 := 106) (pc' := 110) rfl (hb hby at_106) (by decide) (by decide) k) ?_
        refine own_byW (T' := T30) (g' := (mkF m 113 #[.val (.long x1), .second, .val (.long x2), .second, .val (.long x3), .second, .val (.int x4), .val (.ref b1), .val (.int 1), .val (.int 3), .val (.long mx), .second, .val (.long mx), .second, .unset] [])) (fun t k => XS.icmpNo X30.here hx rfl (hb hby at_110) rfl (teq (by unfold own_u; rw [if_neg hc102_35])).2 k) ?_
        refine own_byW (T' := T30) (g' := (mkF m 114 #[.val (.long x1), .second, .val (.long x2), .second, .val (.long x3), .second, .val (.int x4), .val (.ref b1), .val (.int 1), .val (.int 3), .val (.long mx), .second, .val (.long mx), .second, .unset] [(.int 1)])) (fun t k => XS.iconst X30.here hx rfl (hb hby at_113) k) ?_
        refine own_byW (T' := T30) (g' := (mkF m 118 #[.val (.long x1), .second, .val (.long x2), .second, .val (.long x3), .second, .val (.int x4), .val (.ref b1), .val (.int 1), .val (.int 3), .val (.long mx), .second, .val (.long mx), .second, .unset] [(.int 1)])) (fun t k => XS.goto X30.here hx rfl (pc0 := 114) (pc' := 118) rfl (hb hby at_114) (by decide) (by decide) k) ?_
        refine own_byW (T' := T30) (g' := (mkF m 120 #[.val (.long x1), .second, .val (.long x2), .second, .val (.long x3), .second, .val (.int x4), .val (.ref b1), .val (.int 1), .val (.int 3), .val (.long mx), .second, .val (.int 1), .unset, .unset] [])) (fun t k => XS.istore X30.here hx rfl (hb hby at_118) rfl (l' := #[.val (.long x1), .second, .val (.long x2), .second, .val (.long x3), .second, .val (.int x4), .val (.ref b1), .val (.int 1), .val (.int 3), .val (.long mx), .second, .val (.int 1), .unset, .unset]) rfl k) ?_
        exact J120_31
  refine own_byW (T' := T4) (g' := (mkF m 21 #[.val (.long x1), .second, .val (.long x2), .second, .val (.long x3), .second, .val (.int x4), .val (.ref b1), .unset, .unset, .unset, .unset, .unset, .unset, .unset] [(.long 0), (.int (own_u (0 : Int64) x3))])) (fun t k => XS.lconst X4.here hx rfl (hb hby at_20) k) ?_
  refine own_byW (T' := T4) (g' := (mkF m 23 #[.val (.long x1), .second, .val (.long x2), .second, .val (.long x3), .second, .val (.int x4), .val (.ref b1), .unset, .unset, .unset, .unset, .unset, .unset, .unset] [(.long x3), (.long 0), (.int (own_u (0 : Int64) x3))])) (fun t k => XS.lload X4.here hx rfl (hb hby at_21) rfl k) ?_
  refine own_byW (T' := T4) (g' := (mkF m 24 #[.val (.long x1), .second, .val (.long x2), .second, .val (.long x3), .second, .val (.int x4), .val (.ref b1), .unset, .unset, .unset, .unset, .unset, .unset, .unset] [(.int (lcmpW (0 : Int64) x3)), (.int (own_u (0 : Int64) x3))])) (fun t k => XS.lcmp X4.here hx rfl (hb hby at_23) rfl k) ?_
  by_cases hc24_36 : x3 < (0 : Int64)
  · refine own_byW (T' := T4) (g' := (mkF m 31 #[.val (.long x1), .second, .val (.long x2), .second, .val (.long x3), .second, .val (.int x4), .val (.ref b1), .unset, .unset, .unset, .unset, .unset, .unset, .unset] [(.int (own_u (0 : Int64) x3))])) (fun t k => XS.ifYes X4.here hx rfl (pc0 := 24) (pc' := 31) rfl (hb hby at_24) rfl ((if0 _ _).trans (tlt ((lw_gt _ _).mpr hc24_36)).2.2.1) (by decide) (by decide) k) ?_
    refine own_byW (T' := T4) (g' := (mkF m 32 #[.val (.long x1), .second, .val (.long x2), .second, .val (.long x3), .second, .val (.int x4), .val (.ref b1), .unset, .unset, .unset, .unset, .unset, .unset, .unset] [(.int 0), (.int (own_u (0 : Int64) x3))])) (fun t k => XS.iconst X4.here hx rfl (hb hby at_31) k) ?_
    refine own_byW (T' := T4) (g' := (mkF m 35 #[.val (.long x1), .second, .val (.long x2), .second, .val (.long x3), .second, .val (.int x4), .val (.ref b1), .unset, .unset, .unset, .unset, .unset, .unset, .unset] [])) (fun t k => XS.icmpNo X4.here hx rfl (hb hby at_32) rfl (teq (by unfold own_u; rw [if_pos hc24_36])).2 k) ?_
    refine own_byW (T' := T4) (g' := (mkF m 36 #[.val (.long x1), .second, .val (.long x2), .second, .val (.long x3), .second, .val (.int x4), .val (.ref b1), .unset, .unset, .unset, .unset, .unset, .unset, .unset] [(.int 1)])) (fun t k => XS.iconst X4.here hx rfl (hb hby at_35) k) ?_
    refine own_byW (T' := T4) (g' := (mkF m 40 #[.val (.long x1), .second, .val (.long x2), .second, .val (.long x3), .second, .val (.int x4), .val (.ref b1), .unset, .unset, .unset, .unset, .unset, .unset, .unset] [(.int 1)])) (fun t k => XS.goto X4.here hx rfl (pc0 := 36) (pc' := 40) rfl (hb hby at_36) (by decide) (by decide) k) ?_
    refine own_byW (T' := T4) (g' := (mkF m 42 #[.val (.long x1), .second, .val (.long x2), .second, .val (.long x3), .second, .val (.int x4), .val (.ref b1), .val (.int 1), .unset, .unset, .unset, .unset, .unset, .unset] [])) (fun t k => XS.istore X4.here hx rfl (hb hby at_40) rfl (l' := #[.val (.long x1), .second, .val (.long x2), .second, .val (.long x3), .second, .val (.int x4), .val (.ref b1), .val (.int 1), .unset, .unset, .unset, .unset, .unset, .unset]) rfl k) ?_
    exact J42_5
  · refine own_byW (T' := T4) (g' := (mkF m 27 #[.val (.long x1), .second, .val (.long x2), .second, .val (.long x3), .second, .val (.int x4), .val (.ref b1), .unset, .unset, .unset, .unset, .unset, .unset, .unset] [(.int (own_u (0 : Int64) x3))])) (fun t k => XS.ifNo X4.here hx rfl (hb hby at_24) rfl ((if0 _ _).trans (flt (fun q => hc24_36 ((lw_gt _ _).mp q))).2.2.1) k) ?_
    refine own_byW (T' := T4) (g' := (mkF m 28 #[.val (.long x1), .second, .val (.long x2), .second, .val (.long x3), .second, .val (.int x4), .val (.ref b1), .unset, .unset, .unset, .unset, .unset, .unset, .unset] [(.int 1), (.int (own_u (0 : Int64) x3))])) (fun t k => XS.iconst X4.here hx rfl (hb hby at_27) k) ?_
    refine own_byW (T' := T4) (g' := (mkF m 32 #[.val (.long x1), .second, .val (.long x2), .second, .val (.long x3), .second, .val (.int x4), .val (.ref b1), .unset, .unset, .unset, .unset, .unset, .unset, .unset] [(.int 1), (.int (own_u (0 : Int64) x3))])) (fun t k => XS.goto X4.here hx rfl (pc0 := 28) (pc' := 32) rfl (hb hby at_28) (by decide) (by decide) k) ?_
    refine own_byW (T' := T4) (g' := (mkF m 35 #[.val (.long x1), .second, .val (.long x2), .second, .val (.long x3), .second, .val (.int x4), .val (.ref b1), .unset, .unset, .unset, .unset, .unset, .unset, .unset] [])) (fun t k => XS.icmpNo X4.here hx rfl (hb hby at_32) rfl (teq (by unfold own_u; rw [if_neg hc24_36])).2 k) ?_
    refine own_byW (T' := T4) (g' := (mkF m 36 #[.val (.long x1), .second, .val (.long x2), .second, .val (.long x3), .second, .val (.int x4), .val (.ref b1), .unset, .unset, .unset, .unset, .unset, .unset, .unset] [(.int 1)])) (fun t k => XS.iconst X4.here hx rfl (hb hby at_35) k) ?_
    refine own_byW (T' := T4) (g' := (mkF m 40 #[.val (.long x1), .second, .val (.long x2), .second, .val (.long x3), .second, .val (.int x4), .val (.ref b1), .unset, .unset, .unset, .unset, .unset, .unset, .unset] [(.int 1)])) (fun t k => XS.goto X4.here hx rfl (pc0 := 36) (pc' := 40) rfl (hb hby at_36) (by decide) (by decide) k) ?_
    refine own_byW (T' := T4) (g' := (mkF m 42 #[.val (.long x1), .second, .val (.long x2), .second, .val (.long x3), .second, .val (.int x4), .val (.ref b1), .val (.int 1), .unset, .unset, .unset, .unset, .unset, .unset] [])) (fun t k => XS.istore X4.here hx rfl (hb hby at_40) rfl (l' := #[.val (.long x1), .second, .val (.long x2), .second, .val (.long x3), .second, .val (.int x4), .val (.ref b1), .val (.int 1), .unset, .unset, .unset, .unset, .unset, .unset]) rfl k) ?_
    exact J42_5

set_option maxRecDepth 65536 in
set_option maxHeartbeats 40000000 in
theorem comes_1 {Post : Tables → Env → Array Value → State → Outcome → State → Prop} (hpost : ∀ tb e args s v u, (limb_1_1.after args s (.returned v) u = true ∧ limb_1_2.after args s (.returned v) u = true ∧ True) → ReturnedEndW s (.returned v) u (Jvm.fieldLocs frame_1_writes args s ++ Jvm.arrayLocs frame_1_arrays args s ++ Jvm.staticLocs frame_1_statics s) 24 1280 → Post tb e args s (.returned v) u) :
    ArmFor flags0 classFile x code maxLocals ret World_1 tables_1 room_1 Calls_1 rest_1 Pre_1 Post := by
  intro l hfl _ _ p e ha hc hk s m args below hf hA hF happ hP
  obtain ⟨hcalls, hrest, hpre⟩ := hP
  obtain ⟨-, -, -, hnamed, -, -, -, hat⟩ := (Spec.applies_iff hf).mp happ
  obtain ⟨hg, hn⟩ := and_e (Cond.before_iff.mp (show (Jvm.Cond.and given_1 narrow_1).before args s = true from hpre))
  obtain ⟨hcount, g0⟩ := and_e hg
  obtain ⟨a0, g1⟩ := and_e g0
  obtain ⟨a1, g2⟩ := and_e g1
  obtain ⟨a2, g3⟩ := and_e g2
  obtain ⟨w0, w1, w2, w3, rfl⟩ : ∃ w0 w1 w2 w3 : Value, args = #[w0, w1, w2, w3] := by
    have hs : args.size = 4 := by simpa [Cond.value, given_1] using hcount
    obtain ⟨L⟩ := args
    match L, hs with
    | [w0, w1, w2, w3], _ => exact ⟨w0, w1, w2, w3, rfl⟩
  have hw := fun d (hd : d ∈ tables_1) => atoms_spec (ws := Jvm.Cond.code x code maxLocals ret :: tables_1) hat d (List.mem_cons_of_mem _ hd)
  have hfit : Fit s := fun {y c} hc i hi => by
    obtain ⟨ha, rfl⟩ := Array.getElem?_eq_some_iff.mp hc
    have q := List.all_eq_true.mp ((Array.all_eq_true_iff_forall_mem.mp hF) _ (Array.getElem_mem ha)) i (List.mem_range.mpr hi)
    simpa [Array.getElem?_eq_getElem hi] using q
  obtain ⟨i0, ei0⟩ := isL_v a0
  obtain rfl : w0 = (.long i0) := Option.some.inj ei0
  obtain ⟨i1, ei1⟩ := isL_v a1
  obtain rfl : w1 = (.long i1) := Option.some.inj ei1
  obtain ⟨i2, ei2⟩ := isL_v a2
  obtain rfl : w2 = (.long i2) := Option.some.inj ei2
  obtain ⟨i3, ei3⟩ := is_v g3
  obtain rfl : w3 = (.int i3) := Option.some.inj ei3
  obtain ⟨n, o, h1, h2, h3, _, L, rfl, ⟨rfl, N⟩, hq⟩ := rm0 l s _ hw tables_1 i0 i1 i2 i3 s.heap s.heap.size (Nat.le_refl _)  p e ha hc hk s m _ below hf ((Spec.applies_iff_loose hf).mp happ).1 ⟨rfl, State.Warmed39.refl s, rfl⟩ trivial
  refine ⟨n, _, h1, h2, h3, hpost _ _ _ _ _ _ ⟨Cond.after_iff.mpr rfl, Cond.after_iff.mpr (eq_i res_at (Term.int_eval (1)) rfl), trivial⟩ ⟨hq.1, hq.2.1, hq.2.2.1, (hq.2.2.2.sift fun y hy => Or.inr (N y hy)).mono (by decide) (by decide)⟩⟩
theorem main_1_1 : Claimed_1_1 := comes_1 fun _ _ _ _ _ _ h hF => ⟨h.1, hF⟩
theorem main_1_2 : Claimed_1_2 := comes_1 fun _ _ _ _ _ _ h hF => ⟨h.2.1, hF⟩

end Jvm.Pilot.@@N@@
namespace Jvm.Pilot.@@N@@
open Jvm Jvm.ClassFile Sem Op Lib Jvm.Free Jvm.Stand Jvm.Pilot.@@N@@.Jvm.D
/-! MADE BY PROGRAM (witnessworld.py) out of the Statement's table words and the real class files: 24 classes; the members and pool entries that the words name. The judged class is class 1, her method 1. -/
namespace start1
open Jvm.ClassFile
def u (s : String) : CpInfo := .utf8 (stringToUtf16 s)
/-- a pool by its gaps: so many unusable entries, then the entry; so many at the end -/
def gap : Nat → List CpInfo → List CpInfo
  | 0, r => r
  | n + 1, r => .unusable :: gap n r
def poolList (es : List (Nat × CpInfo)) (last : Nat) : List CpInfo := es.foldr (fun e r => gap e.1 (e.2 :: r)) (gap last [])
def pool (es : List (Nat × CpInfo)) (last : Nat) : Array CpInfo := ⟨poolList es last⟩
def fileOf (pool : Array CpInfo) (this : Nat) (attrs : Array Attribute := #[]) (ms : Array MethodInfo := #[]) (fl : Nat := 33) (sup : Nat := 0) (ifs : Array Nat := #[]) (fds : Array FieldInfo := #[]) : ClassFile where
  minorVersion := 0
  majorVersion := 65
  constantPool := pool
  accessFlags := fl
  thisClass := this
  superClass := sup
  interfaces := ifs
  fields := fds
  methods := ms
  attributes := attrs
def plain (name : String) (sup : Option ClassId) : Class where
  name := name
  kind := .ordinary
  loader := none
  accessFlags := 33
  super := sup
  interfaces := #[]
  cf := none
  fields := #[]
  methods := #[]
  instanceTypes := #[]
  staticTypes := #[]
  resolved := #[]
  callSites := []
  init := .initialized
  statics := none
  mirror := none

def pool0 : Array CpInfo := pool [(5, u "<init>"), (0, u "()V"), (1, .class_ 10), (1, u "java/lang/Object")] 113

def k0c0 : Code := { maxStack := 0, maxLocals := 1, code := object_method_1_code, exceptionTable := #[], attributes := #[] }
def k0m0 : Method := { name := "<init>", desc := "()V", sig := { parameters := [], returnType := none }, accessFlags := 1, code := some k0c0 }
/-- java/lang/Object -/
def k0 : Class := { plain "java/lang/Object" none with
  accessFlags := 33
  interfaces := #[]
  cf := some (fileOf pool0 8 #[] #[{ accessFlags := 1, nameIndex := 5, descriptorIndex := 6, attributes := #[] }] 33 0 #[] #[])
  fields := #[]
  methods := #[k0m0]
  instanceTypes := #[]
  staticTypes := #[]
  resolved := Array.replicate 124 none
  statics := none }

def pool1 : Array CpInfo := pool [(2, .class_ 4), (1, u "java/lang/Object"), (0, u "<init>"), (0, u "()V"), (0, .class_ 8), (0, u "com/example/hermit_crab/hermitcrab/engine/Table"), (0, .string 10), (0, u "t"), (0, .methodref 7 12), (0, .nameAndType 5 13), (0, u "(Ljava/lang/String;Lcom/example/hermit_crab/hermitcrab/sql/Columns;I)V"), (0, .methodref 7 15), (0, .nameAndType 16 17), (0, u "isUnchangedSince"), (0, u "(J)Z"), (0, .methodref 7 19), (0, .nameAndType 20 21), (0, u "markChangedAt"), (0, u "(J)V"), (0, .methodref 23 24), (0, .class_ 25), (0, .nameAndType 26 27), (0, u "java/lang/Math"), (0, u "max"), (0, u "(JJ)J"), (2, .long 9223372036854775808), (1, .class_ 33), (0, u "com/example/hermit_crab/hermitcrab/engine/TableIsUnchangedSincePinLaw"), (2, u "law"), (0, u "(JJJI)Z")] 3

def k1m0 : Method := { name := "<init>", desc := "()V", sig := { parameters := [], returnType := none }, accessFlags := 1, code := none }
def k1c1 : Code := { maxStack := 5, maxLocals := 15, code := code, exceptionTable := #[], attributes := #[] }
def k1m1 : Method := { name := "law", desc := "(JJJI)Z", sig := { parameters := [.long, .long, .long, .int], returnType := some .boolean }, accessFlags := 9, code := some k1c1 }
/-- com/example/hermit_crab/hermitcrab/engine/TableIsUnchangedSincePinLaw -/
def k1 : Class := { plain "com/example/hermit_crab/hermitcrab/engine/TableIsUnchangedSincePinLaw" (some 0) with
  accessFlags := 49
  interfaces := #[]
  cf := some (fileOf pool1 32 #[] #[{ accessFlags := 1, nameIndex := 5, descriptorIndex := 6, attributes := #[] }, { accessFlags := 9, nameIndex := 36, descriptorIndex := 37, attributes := #[] }] 49 2 #[] #[])
  fields := #[]
  methods := #[k1m0, k1m1]
  instanceTypes := #[]
  staticTypes := #[]
  resolved := Array.replicate 41 none
  statics := none }

def pool2 : Array CpInfo := pool [(1, .methodref 2 3), (0, .class_ 4), (0, .nameAndType 5 6), (0, u "java/lang/Object"), (0, u "<init>"), (0, u "()V"), (0, .class_ 8), (0, u "com/example/hermit_crab/hermitcrab/engine/KeyIndex"), (0, .methodref 7 3), (0, .fieldref 11 12), (0, .class_ 13), (0, .nameAndType 14 15), (0, u "com/example/hermit_crab/hermitcrab/engine/Table"), (0, u "slots"), (0, u "Lcom/example/hermit_crab/hermitcrab/engine/KeyIndex;"), (0, .class_ 17), (0, u "java/util/ArrayDeque"), (0, .methodref 16 3), (0, .fieldref 11 20), (0, .nameAndType 21 22), (0, u "kept"), (0, u "Ljava/util/ArrayDeque;"), (0, .fieldref 11 24), (0, .nameAndType 25 26), (0, u "name"), (0, u "Ljava/lang/String;"), (0, .fieldref 11 28), (0, .nameAndType 29 30), (0, u "columns"), (0, u "Lcom/example/hermit_crab/hermitcrab/sql/Columns;"), (0, .fieldref 11 32), (0, .nameAndType 33 34), (0, u "primaryKeyIndex"), (0, u "I"), (4, .class_ 40), (0, u "com/example/hermit_crab/hermitcrab/engine/Table$Slot"), (17, .class_ 60), (1, u "com/example/hermit_crab/hermitcrab/engine/Table$Version"), (1, u "J"), (0, .fieldref 11 64), (0, .nameAndType 65 62), (0, u "changedAt"), (30, .class_ 98), (1, u "com/example/hermit_crab/hermitcrab/engine/Table$RowVisitor"), (2, .class_ 102), (0, u "com/example/hermit_crab/hermitcrab/engine/Table$Walk"), (31, u "locksHeld"), (7, .class_ 143), (0, u "com/example/hermit_crab/hermitcrab/engine/Table$KeptVersion"), (40, u "reshapes"), (14, u "(Ljava/lang/String;Lcom/example/hermit_crab/hermitcrab/sql/Columns;I)V"), (16, u "isUnchangedSince"), (0, u "(J)Z"), (0, u "markChangedAt"), (0, u "(J)V")] 74

def k2c0 : Code := { maxStack := 3, maxLocals := 4, code := prog_47_method_1_code, exceptionTable := #[], attributes := #[] }
def k2m0 : Method := { name := "<init>", desc := "(Ljava/lang/String;Lcom/example/hermit_crab/hermitcrab/sql/Columns;I)V", sig := { parameters := [(.object "java/lang/String"), (.object "com/example/hermit_crab/hermitcrab/sql/Columns"), .int], returnType := none }, accessFlags := 0, code := some k2c0 }
def k2c1 : Code := { maxStack := 4, maxLocals := 3, code := prog_47_method_8_code, exceptionTable := #[], attributes := #[] }
def k2m1 : Method := { name := "isUnchangedSince", desc := "(J)Z", sig := { parameters := [.long], returnType := some .boolean }, accessFlags := 0, code := some k2c1 }
def k2c2 : Code := { maxStack := 3, maxLocals := 3, code := prog_47_method_9_code, exceptionTable := #[], attributes := #[] }
def k2m2 : Method := { name := "markChangedAt", desc := "(J)V", sig := { parameters := [.long], returnType := none }, accessFlags := 0, code := some k2c2 }
/-- com/example/hermit_crab/hermitcrab/engine/Table -/
def k2 : Class := { plain "com/example/hermit_crab/hermitcrab/engine/Table" (some 0) with
  accessFlags := 33
  interfaces := #[]
  cf := some (fileOf pool2 11 #[.nestMembers #[101, 96, 142, 39, 58]] #[{ accessFlags := 0, nameIndex := 5, descriptorIndex := 199, attributes := #[] }, { accessFlags := 0, nameIndex := 216, descriptorIndex := 217, attributes := #[] }, { accessFlags := 0, nameIndex := 218, descriptorIndex := 219, attributes := #[] }] 33 2 #[] #[{ accessFlags := 18, nameIndex := 25, descriptorIndex := 26, attributes := #[] }, { accessFlags := 18, nameIndex := 29, descriptorIndex := 30, attributes := #[] }, { accessFlags := 18, nameIndex := 33, descriptorIndex := 34, attributes := #[] }, { accessFlags := 18, nameIndex := 14, descriptorIndex := 15, attributes := #[] }, { accessFlags := 66, nameIndex := 184, descriptorIndex := 62, attributes := #[] }, { accessFlags := 66, nameIndex := 65, descriptorIndex := 62, attributes := #[] }, { accessFlags := 18, nameIndex := 21, descriptorIndex := 22, attributes := #[] }, { accessFlags := 2, nameIndex := 134, descriptorIndex := 34, attributes := #[] }])
  fields := #[{ name := "name", type := (.object "java/lang/String"), accessFlags := 18, slot := 0, constantValue := 0 }, { name := "columns", type := (.object "com/example/hermit_crab/hermitcrab/sql/Columns"), accessFlags := 18, slot := 1, constantValue := 0 }, { name := "primaryKeyIndex", type := .int, accessFlags := 18, slot := 2, constantValue := 0 }, { name := "slots", type := (.object "com/example/hermit_crab/hermitcrab/engine/KeyIndex"), accessFlags := 18, slot := 3, constantValue := 0 }, { name := "reshapes", type := .long, accessFlags := 66, slot := 4, constantValue := 0 }, { name := "changedAt", type := .long, accessFlags := 66, slot := 5, constantValue := 0 }, { name := "kept", type := (.object "java/util/ArrayDeque"), accessFlags := 18, slot := 6, constantValue := 0 }, { name := "locksHeld", type := .int, accessFlags := 2, slot := 7, constantValue := 0 }]
  methods := #[k2m0, k2m1, k2m2]
  instanceTypes := #[(.object "java/lang/String"), (.object "com/example/hermit_crab/hermitcrab/sql/Columns"), .int, (.object "com/example/hermit_crab/hermitcrab/engine/KeyIndex"), .long, .long, (.object "java/util/ArrayDeque"), .int]
  staticTypes := #[]
  resolved := Array.replicate 294 none
  statics := none }

def pool3 : Array CpInfo := pool [(1, .class_ 2), (0, u "java/io/Serializable"), (0, .class_ 4), (0, u "java/lang/Object")] 2

/-- java/io/Serializable -/
def k3 : Class := { plain "java/io/Serializable" (some 0) with
  accessFlags := 1537
  interfaces := #[]
  cf := some (fileOf pool3 1 #[] #[] 1537 3 #[] #[])
  fields := #[]
  methods := #[]
  instanceTypes := #[]
  staticTypes := #[]
  resolved := Array.replicate 7 none
  statics := none }

def pool4 : Array CpInfo := pool [(1, .class_ 2), (0, u "java/lang/Comparable"), (0, .class_ 4), (0, u "java/lang/Object")] 7

/-- java/lang/Comparable -/
def k4 : Class := { plain "java/lang/Comparable" (some 0) with
  accessFlags := 1537
  interfaces := #[]
  cf := some (fileOf pool4 1 #[] #[] 1537 3 #[] #[])
  fields := #[]
  methods := #[]
  instanceTypes := #[]
  staticTypes := #[]
  resolved := Array.replicate 12 none
  statics := none }

def pool5 : Array CpInfo := pool [(2, .class_ 4), (1, u "java/lang/CharSequence"), (42, .class_ 48), (0, u "java/lang/CharSequence$1CodePointIterator"), (10, .class_ 60), (0, u "java/lang/CharSequence$1CharIterator"), (5, .class_ 67), (0, u "java/lang/Object")] 63

/-- java/lang/CharSequence -/
def k5 : Class := { plain "java/lang/CharSequence" (some 0) with
  accessFlags := 1537
  interfaces := #[]
  cf := some (fileOf pool5 2 #[.nestMembers #[47, 59]] #[] 1537 66 #[] #[])
  fields := #[]
  methods := #[]
  instanceTypes := #[]
  staticTypes := #[]
  resolved := Array.replicate 131 none
  statics := none }

def pool6 : Array CpInfo := pool [(1, .class_ 2), (0, u "java/lang/constant/Constable"), (0, .class_ 4), (0, u "java/lang/Object")] 6

/-- java/lang/constant/Constable -/
def k6 : Class := { plain "java/lang/constant/Constable" (some 0) with
  accessFlags := 1537
  interfaces := #[]
  cf := some (fileOf pool6 1 #[] #[] 1537 3 #[] #[])
  fields := #[]
  methods := #[]
  instanceTypes := #[]
  staticTypes := #[]
  resolved := Array.replicate 11 none
  statics := none }

def pool7 : Array CpInfo := pool [(1, .class_ 2), (0, u "java/lang/constant/ConstantDesc"), (0, .class_ 4), (0, u "java/lang/Object")] 32

/-- java/lang/constant/ConstantDesc -/
def k7 : Class := { plain "java/lang/constant/ConstantDesc" (some 0) with
  accessFlags := 1537
  interfaces := #[]
  cf := some (fileOf pool7 1 #[] #[] 1537 3 #[] #[])
  fields := #[]
  methods := #[]
  instanceTypes := #[]
  staticTypes := #[]
  resolved := Array.replicate 37 none
  statics := none }

def pool8 : Array CpInfo := pool [(2, .class_ 4), (1, u "java/lang/Object"), (0, u "<init>"), (0, u "()V"), (3, .class_ 12), (1, u "java/lang/String"), (0, u "value"), (0, u "[B"), (2, u "coder"), (0, u "B"), (2, u "hash"), (0, u "I"), (2, u "hashIsZero"), (0, u "Z"), (13, u "COMPACT_STRINGS"), (534, .class_ 576), (0, u "java/lang/CharSequence"), (22, u "CASE_INSENSITIVE_ORDER"), (0, u "Ljava/util/Comparator;"), (500, u "serialPersistentFields"), (0, u "[Ljava/io/ObjectStreamField;"), (0, .class_ 1104), (0, u "java/lang/String$CaseInsensitiveComparator"), (1, .class_ 1107), (0, u "java/io/Serializable"), (0, .class_ 1109), (0, u "java/lang/Comparable"), (0, .class_ 1111), (0, u "java/lang/constant/Constable"), (0, .class_ 1113), (0, u "java/lang/constant/ConstantDesc"), (2, u "serialVersionUID"), (0, u "J"), (3, u "REPL"), (0, u "C"), (2, u "LATIN1"), (1, u "UTF16")] 323

def k8m0 : Method := { name := "<init>", desc := "()V", sig := { parameters := [], returnType := none }, accessFlags := 1, code := none }
/-- java/lang/String -/
def k8 : Class := { plain "java/lang/String" (some 0) with
  accessFlags := 49
  interfaces := #[3, 4, 5, 6, 7]
  cf := some (fileOf pool8 10 #[.nestMembers #[1103]] #[{ accessFlags := 1, nameIndex := 5, descriptorIndex := 6, attributes := #[] }] 49 2 #[1106, 1108, 575, 1110, 1112] #[{ accessFlags := 18, nameIndex := 13, descriptorIndex := 14, attributes := #[] }, { accessFlags := 18, nameIndex := 17, descriptorIndex := 18, attributes := #[] }, { accessFlags := 2, nameIndex := 21, descriptorIndex := 22, attributes := #[] }, { accessFlags := 2, nameIndex := 25, descriptorIndex := 26, attributes := #[] }, { accessFlags := 26, nameIndex := 1116, descriptorIndex := 1117, attributes := #[] }, { accessFlags := 24, nameIndex := 40, descriptorIndex := 26, attributes := #[] }, { accessFlags := 26, nameIndex := 1101, descriptorIndex := 1102, attributes := #[] }, { accessFlags := 26, nameIndex := 1121, descriptorIndex := 1122, attributes := #[] }, { accessFlags := 25, nameIndex := 599, descriptorIndex := 600, attributes := #[] }, { accessFlags := 24, nameIndex := 1125, descriptorIndex := 18, attributes := #[] }, { accessFlags := 24, nameIndex := 1127, descriptorIndex := 18, attributes := #[] }])
  fields := #[{ name := "value", type := (.array .byte), accessFlags := 18, slot := 0, constantValue := 0 }, { name := "coder", type := .byte, accessFlags := 18, slot := 1, constantValue := 0 }, { name := "hash", type := .int, accessFlags := 2, slot := 2, constantValue := 0 }, { name := "hashIsZero", type := .boolean, accessFlags := 2, slot := 3, constantValue := 0 }, { name := "serialVersionUID", type := .long, accessFlags := 26, slot := 0, constantValue := 0 }, { name := "COMPACT_STRINGS", type := .boolean, accessFlags := 24, slot := 1, constantValue := 0 }, { name := "serialPersistentFields", type := (.array (.object "java/io/ObjectStreamField")), accessFlags := 26, slot := 2, constantValue := 0 }, { name := "REPL", type := .char, accessFlags := 26, slot := 3, constantValue := 0 }, { name := "CASE_INSENSITIVE_ORDER", type := (.object "java/util/Comparator"), accessFlags := 25, slot := 4, constantValue := 0 }, { name := "LATIN1", type := .byte, accessFlags := 24, slot := 5, constantValue := 0 }, { name := "UTF16", type := .byte, accessFlags := 24, slot := 6, constantValue := 0 }]
  methods := #[k8m0]
  instanceTypes := #[(.array .byte), .byte, .int, .boolean]
  staticTypes := #[.long, .boolean, (.array (.object "java/io/ObjectStreamField")), .char, (.object "java/util/Comparator"), .byte, .byte]
  resolved := Array.replicate 1451 none
  statics := none }

def pool9 : Array CpInfo := pool [(1, .methodref 2 3), (0, .class_ 4), (0, .nameAndType 5 6), (0, u "java/lang/Object"), (0, u "<init>"), (0, u "()V"), (0, .class_ 8), (0, u "com/example/hermit_crab/hermitcrab/engine/KeyIndex"), (0, .fieldref 7 10), (0, .nameAndType 11 12), (0, u "firsts"), (0, u "[Ljava/lang/Object;"), (0, .fieldref 7 14), (0, .nameAndType 15 12), (0, u "lasts"), (0, .fieldref 7 17), (0, .nameAndType 18 12), (0, u "before"), (9, .class_ 30), (1, u "com/example/hermit_crab/hermitcrab/engine/KeyIndex$Node"), (37, u "LINK"), (0, u "Ljava/lang/invoke/VarHandle;"), (31, u "FIRST_LINK"), (7, u "MAX_HEIGHT"), (0, u "I")] 28

def k9c0 : Code := { maxStack := 2, maxLocals := 1, code := prog_9_method_1_code, exceptionTable := #[], attributes := #[] }
def k9m0 : Method := { name := "<init>", desc := "()V", sig := { parameters := [], returnType := none }, accessFlags := 0, code := some k9c0 }
/-- com/example/hermit_crab/hermitcrab/engine/KeyIndex -/
def k9 : Class := { plain "com/example/hermit_crab/hermitcrab/engine/KeyIndex" (some 0) with
  accessFlags := 32
  interfaces := #[]
  cf := some (fileOf pool9 7 #[.nestMembers #[28]] #[{ accessFlags := 0, nameIndex := 5, descriptorIndex := 6, attributes := #[] }] 32 2 #[] #[{ accessFlags := 26, nameIndex := 109, descriptorIndex := 110, attributes := #[] }, { accessFlags := 26, nameIndex := 68, descriptorIndex := 69, attributes := #[] }, { accessFlags := 26, nameIndex := 101, descriptorIndex := 69, attributes := #[] }, { accessFlags := 18, nameIndex := 11, descriptorIndex := 12, attributes := #[] }, { accessFlags := 18, nameIndex := 15, descriptorIndex := 12, attributes := #[] }, { accessFlags := 18, nameIndex := 18, descriptorIndex := 12, attributes := #[] }])
  fields := #[{ name := "MAX_HEIGHT", type := .int, accessFlags := 26, slot := 0, constantValue := 0 }, { name := "LINK", type := (.object "java/lang/invoke/VarHandle"), accessFlags := 26, slot := 1, constantValue := 0 }, { name := "FIRST_LINK", type := (.object "java/lang/invoke/VarHandle"), accessFlags := 26, slot := 2, constantValue := 0 }, { name := "firsts", type := (.array (.object "java/lang/Object")), accessFlags := 18, slot := 0, constantValue := 0 }, { name := "lasts", type := (.array (.object "java/lang/Object")), accessFlags := 18, slot := 1, constantValue := 0 }, { name := "before", type := (.array (.object "java/lang/Object")), accessFlags := 18, slot := 2, constantValue := 0 }]
  methods := #[k9m0]
  instanceTypes := #[(.array (.object "java/lang/Object")), (.array (.object "java/lang/Object")), (.array (.object "java/lang/Object"))]
  staticTypes := #[.int, (.object "java/lang/invoke/VarHandle"), (.object "java/lang/invoke/VarHandle")]
  resolved := Array.replicate 139 none
  statics := none }

def pool10 : Array CpInfo := pool [(8, .class_ 10), (1, u "java/lang/Iterable"), (24, .class_ 36), (0, u "java/lang/Object")] 25

/-- java/lang/Iterable -/
def k10 : Class := { plain "java/lang/Iterable" (some 0) with
  accessFlags := 1537
  interfaces := #[]
  cf := some (fileOf pool10 8 #[] #[] 1537 35 #[] #[])
  fields := #[]
  methods := #[]
  instanceTypes := #[]
  staticTypes := #[]
  resolved := Array.replicate 62 none
  statics := none }

def pool11 : Array CpInfo := pool [(10, .class_ 12), (1, u "java/util/Collection"), (47, .class_ 61), (0, u "java/lang/Object"), (0, .class_ 63), (0, u "java/lang/Iterable")] 51

/-- java/util/Collection -/
def k11 : Class := { plain "java/util/Collection" (some 0) with
  accessFlags := 1537
  interfaces := #[10]
  cf := some (fileOf pool11 10 #[] #[] 1537 60 #[62] #[])
  fields := #[]
  methods := #[]
  instanceTypes := #[]
  staticTypes := #[]
  resolved := Array.replicate 115 none
  statics := none }

def pool12 : Array CpInfo := pool [(1, .methodref 2 3), (0, .class_ 4), (0, .nameAndType 5 6), (0, u "java/lang/Object"), (0, u "<init>"), (0, u "()V"), (1, .class_ 10), (1, u "java/util/AbstractCollection"), (66, .class_ 78), (0, u "java/util/Collection")] 81

def k12c0 : Code := { maxStack := 1, maxLocals := 1, code := jdk_22_method_1_code, exceptionTable := #[], attributes := #[] }
def k12m0 : Method := { name := "<init>", desc := "()V", sig := { parameters := [], returnType := none }, accessFlags := 4, code := some k12c0 }
/-- java/util/AbstractCollection -/
def k12 : Class := { plain "java/util/AbstractCollection" (some 0) with
  accessFlags := 1057
  interfaces := #[11]
  cf := some (fileOf pool12 8 #[] #[{ accessFlags := 4, nameIndex := 5, descriptorIndex := 6, attributes := #[] }] 1057 2 #[77] #[])
  fields := #[]
  methods := #[k12m0]
  instanceTypes := #[]
  staticTypes := #[]
  resolved := Array.replicate 160 none
  statics := none }

def pool13 : Array CpInfo := pool [(1, .class_ 2), (0, u "java/util/Queue"), (0, .class_ 4), (0, u "java/lang/Object"), (0, .class_ 6), (0, u "java/util/Collection")] 14

/-- java/util/Queue -/
def k13 : Class := { plain "java/util/Queue" (some 0) with
  accessFlags := 1537
  interfaces := #[11]
  cf := some (fileOf pool13 1 #[] #[] 1537 3 #[5] #[])
  fields := #[]
  methods := #[]
  instanceTypes := #[]
  staticTypes := #[]
  resolved := Array.replicate 21 none
  statics := none }

def pool14 : Array CpInfo := pool [(8, .class_ 10), (1, u "java/util/SequencedCollection"), (15, .class_ 27), (0, u "java/lang/Object"), (0, .class_ 29), (0, u "java/util/Collection")] 27

/-- java/util/SequencedCollection -/
def k14 : Class := { plain "java/util/SequencedCollection" (some 0) with
  accessFlags := 1537
  interfaces := #[11]
  cf := some (fileOf pool14 8 #[] #[] 1537 26 #[28] #[])
  fields := #[]
  methods := #[]
  instanceTypes := #[]
  staticTypes := #[]
  resolved := Array.replicate 57 none
  statics := none }

def pool15 : Array CpInfo := pool [(8, .class_ 10), (1, u "java/util/Deque"), (2, .class_ 14), (0, u "java/lang/Object"), (0, .class_ 16), (0, u "java/util/Queue"), (0, .class_ 18), (0, u "java/util/SequencedCollection")] 51

/-- java/util/Deque -/
def k15 : Class := { plain "java/util/Deque" (some 0) with
  accessFlags := 1537
  interfaces := #[13, 14]
  cf := some (fileOf pool15 8 #[] #[] 1537 13 #[15, 17] #[])
  fields := #[]
  methods := #[]
  instanceTypes := #[]
  staticTypes := #[]
  resolved := Array.replicate 70 none
  statics := none }

def pool16 : Array CpInfo := pool [(1, .class_ 2), (0, u "java/lang/Cloneable"), (0, .class_ 4), (0, u "java/lang/Object")] 2

/-- java/lang/Cloneable -/
def k16 : Class := { plain "java/lang/Cloneable" (some 0) with
  accessFlags := 1537
  interfaces := #[]
  cf := some (fileOf pool16 1 #[] #[] 1537 3 #[] #[])
  fields := #[]
  methods := #[]
  instanceTypes := #[]
  staticTypes := #[]
  resolved := Array.replicate 7 none
  statics := none }

def pool17 : Array CpInfo := pool [(3, .fieldref 4 5), (0, .class_ 6), (0, .nameAndType 7 8), (0, u "java/util/ArrayDeque"), (0, u "elements"), (0, u "[Ljava/lang/Object;"), (13, u "tail"), (0, u "I"), (2, u "head"), (12, u "<init>"), (2, .methodref 43 44), (0, .class_ 45), (0, .nameAndType 39 46), (0, u "java/util/AbstractCollection"), (0, u "()V"), (0, .class_ 48), (0, u "java/lang/Object"), (82, .class_ 132), (0, u "java/util/ArrayDeque$DeqIterator"), (3, .class_ 137), (0, u "java/util/ArrayDeque$DescendingIterator"), (1, .class_ 140), (0, u "java/util/ArrayDeque$DeqSpliterator"), (137, .class_ 279), (0, u "java/util/Deque"), (0, .class_ 281), (0, u "java/lang/Cloneable"), (0, .class_ 283), (0, u "java/io/Serializable"), (0, u "MAX_ARRAY_SIZE"), (1, u "serialVersionUID"), (0, u "J")] 150

def k17c0 : Code := { maxStack := 2, maxLocals := 1, code := jdk_21_method_3_code, exceptionTable := #[], attributes := #[] }
def k17m0 : Method := { name := "<init>", desc := "()V", sig := { parameters := [], returnType := none }, accessFlags := 1, code := some k17c0 }
/-- java/util/ArrayDeque -/
def k17 : Class := { plain "java/util/ArrayDeque" (some 12) with
  accessFlags := 33
  interfaces := #[15, 16, 3]
  cf := some (fileOf pool17 4 #[.nestMembers #[139, 136, 131]] #[{ accessFlags := 1, nameIndex := 39, descriptorIndex := 46, attributes := #[] }] 33 43 #[278, 280, 282] #[{ accessFlags := 128, nameIndex := 7, descriptorIndex := 8, attributes := #[] }, { accessFlags := 128, nameIndex := 26, descriptorIndex := 23, attributes := #[] }, { accessFlags := 128, nameIndex := 22, descriptorIndex := 23, attributes := #[] }, { accessFlags := 26, nameIndex := 284, descriptorIndex := 23, attributes := #[] }, { accessFlags := 26, nameIndex := 286, descriptorIndex := 287, attributes := #[] }])
  fields := #[{ name := "elements", type := (.array (.object "java/lang/Object")), accessFlags := 128, slot := 0, constantValue := 0 }, { name := "head", type := .int, accessFlags := 128, slot := 1, constantValue := 0 }, { name := "tail", type := .int, accessFlags := 128, slot := 2, constantValue := 0 }, { name := "MAX_ARRAY_SIZE", type := .int, accessFlags := 26, slot := 0, constantValue := 0 }, { name := "serialVersionUID", type := .long, accessFlags := 26, slot := 1, constantValue := 0 }]
  methods := #[k17m0]
  instanceTypes := #[(.array (.object "java/lang/Object")), .int, .int]
  staticTypes := #[.int, .long]
  resolved := Array.replicate 438 none
  statics := none }

def pool18 : Array CpInfo := pool [(1, .class_ 2), (0, u "java/lang/Math"), (1, .class_ 6), (1, u "java/lang/Object"), (0, u "<init>"), (0, u "()V"), (89, .class_ 100), (1, u "java/lang/Math$RandomNumberGeneratorHolder"), (20, u "(JJ)J"), (50, u "negativeZeroFloatBits"), (0, u "J"), (2, u "negativeZeroDoubleBits"), (21, u "max"), (46, u "$assertionsDisabled"), (0, u "Z"), (91, u "twoToTheDoubleScaleDown"), (0, u "D"), (4, u "twoToTheDoubleScaleUp"), (9, u "E"), (3, u "PI"), (2, u "TAU"), (2, u "DEGREES_TO_RADIANS"), (0, u "RADIANS_TO_DEGREES")] 94

def k18m0 : Method := { name := "<init>", desc := "()V", sig := { parameters := [], returnType := none }, accessFlags := 2, code := none }
def k18c1 : Code := { maxStack := 4, maxLocals := 4, code := jdk_29_method_66_code, exceptionTable := #[], attributes := #[] }
def k18m1 : Method := { name := "max", desc := "(JJ)J", sig := { parameters := [.long, .long], returnType := some .long }, accessFlags := 9, code := some k18c1 }
/-- java/lang/Math -/
def k18 : Class := { plain "java/lang/Math" (some 0) with
  accessFlags := 49
  interfaces := #[]
  cf := some (fileOf pool18 1 #[.nestMembers #[98]] #[{ accessFlags := 2, nameIndex := 7, descriptorIndex := 8, attributes := #[] }, { accessFlags := 9, nameIndex := 198, descriptorIndex := 121, attributes := #[] }] 49 4 #[] #[{ accessFlags := 25, nameIndex := 354, descriptorIndex := 339, attributes := #[] }, { accessFlags := 25, nameIndex := 358, descriptorIndex := 339, attributes := #[] }, { accessFlags := 25, nameIndex := 361, descriptorIndex := 339, attributes := #[] }, { accessFlags := 26, nameIndex := 364, descriptorIndex := 339, attributes := #[] }, { accessFlags := 26, nameIndex := 365, descriptorIndex := 339, attributes := #[] }, { accessFlags := 26, nameIndex := 172, descriptorIndex := 173, attributes := #[] }, { accessFlags := 26, nameIndex := 176, descriptorIndex := 173, attributes := #[] }, { accessFlags := 8, nameIndex := 344, descriptorIndex := 339, attributes := #[] }, { accessFlags := 8, nameIndex := 338, descriptorIndex := 339, attributes := #[] }, { accessFlags := 4120, nameIndex := 245, descriptorIndex := 246, attributes := #[] }])
  fields := #[{ name := "E", type := .double, accessFlags := 25, slot := 0, constantValue := 0 }, { name := "PI", type := .double, accessFlags := 25, slot := 1, constantValue := 0 }, { name := "TAU", type := .double, accessFlags := 25, slot := 2, constantValue := 0 }, { name := "DEGREES_TO_RADIANS", type := .double, accessFlags := 26, slot := 3, constantValue := 0 }, { name := "RADIANS_TO_DEGREES", type := .double, accessFlags := 26, slot := 4, constantValue := 0 }, { name := "negativeZeroFloatBits", type := .long, accessFlags := 26, slot := 5, constantValue := 0 }, { name := "negativeZeroDoubleBits", type := .long, accessFlags := 26, slot := 6, constantValue := 0 }, { name := "twoToTheDoubleScaleUp", type := .double, accessFlags := 8, slot := 7, constantValue := 0 }, { name := "twoToTheDoubleScaleDown", type := .double, accessFlags := 8, slot := 8, constantValue := 0 }, { name := "$assertionsDisabled", type := .boolean, accessFlags := 4120, slot := 9, constantValue := 0 }]
  methods := #[k18m0, k18m1]
  instanceTypes := #[]
  staticTypes := #[.double, .double, .double, .double, .double, .long, .long, .double, .double, .boolean]
  resolved := Array.replicate 460 none
  statics := none }

/-- the primitive byte -/
def k19 : Class := { plain "byte" none with kind := .primitive 'B', accessFlags := 0x411 }
/-- [B -/
def k20 : Class := { plain "[B" (some 0) with kind := .array 19 .byte, interfaces := #[16, 3], accessFlags := 1041 }

/-- the primitive int -/
def k21 : Class := { plain "int" none with kind := .primitive 'I', accessFlags := 0x411 }
/-- [I -/
def k22 : Class := { plain "[I" (some 0) with kind := .array 21 .int, interfaces := #[16, 3], accessFlags := 1041 }

/-- [Ljava/lang/Object; -/
def k23 : Class := { plain "[Ljava/lang/Object;" (some 0) with kind := .array 0 (.object "java/lang/Object"), interfaces := #[16, 3], accessFlags := 1041 }

def heap : Heap := #[]
def classes : Array Class := #[k0, k1, k2, k3, k4, k5, k6, k7, k8, k9, k10, k11, k12, k13, k14, k15, k16, k17, k18, k19, k20, k21, k22, k23]
def interned : List (Array UInt16 × Addr) := []
def slotsUsed : Nat := 0
def theMethod : MethodId := ⟨1, 1⟩
def args0 : Array Value := #[.long 5, .long 7, .long 6, .int 2]
def aboutOver (below : List Frame) : State where
  vm := { classes := classes, interned := interned.toArray }
  heap := heap
  slotsUsed := slotsUsed
  threads := #[{ frames := .invoking theMethod args0 :: below }]
def below0 : List Frame := [.native { method := ⟨0, 0⟩, args := #[] }]
def about1 : State := aboutOver below0
def p0 : Program := .bare "" "" ""
def e0 : Env := launch0.env 0 0 0
theorem w_frames : about1.frames = Frame.invoking theMethod args0 :: below0 := rfl
set_option maxRecDepth 65536 in
theorem w_args : argsFit about1.vm theMethod args0 = true := by decide +kernel
set_option maxRecDepth 65536 in
theorem w_heap : heapFits about1 = true := by decide +kernel
set_option maxRecDepth 65536 in
theorem w_runnable : about1.curStatus? = some .runnable := by decide +kernel
set_option maxRecDepth 65536 in
theorem w_alone : about1.alone = true := by decide +kernel
set_option maxRecDepth 65536 in
theorem w_named : about1.methodNamed? x = some theMethod := by decide +kernel
set_option maxRecDepth 65536 in
theorem w_hears : about1.hears theMethod below0 = true := by decide +kernel
set_option maxRecDepth 65536 in
theorem w_ripe : about1.ripe theMethod args0 below0 = true := by decide +kernel
theorem w_running : about1.status = .running := rfl
set_option maxRecDepth 65536 in
theorem w_room : about1.hasRoom e0.platform room_1 = true :=
  launch0.hasRoom_least _ room_1 (by decide +kernel) (by decide +kernel) (by decide +kernel) (by decide +kernel) (by decide +kernel) (by decide +kernel)
theorem allAtoms_all (ts : List Jvm.Cond) (a : Array Jvm.Value) (st : Jvm.State) : (allAtoms ts).before a st = ts.all (fun c => c.before a st) := by
  induction ts with
  | nil => rfl
  | cons c t ih =>
    show (Jvm.Cond.and c (allAtoms t)).before a st = _
    rw [Jvm.Cond.before_and, ih, List.all_cons]
def words1 : List Jvm.Cond := Jvm.Cond.code x code maxLocals ret :: tables_1
/-- a 'code' word, met by the world's own term for the bytes: nothing is compared byte by byte -/
theorem code_word {y : MethodName} {bytes : ByteArray} {mx : Nat} {rt : Option FieldType} {a : Array Value} {s : State} {m : MethodId} {meth : Method} {c : Code} (h1 : s.methodNamed? y = some m) (h2 : s.vm.method? m = some meth) (h3 : meth.code = some c) (h4 : c.code = bytes)
    (h5 : (c.maxLocals == mx && c.exceptionTable.isEmpty && decide (c.maxStack ≤ mostOperands) && decide (meth.sig.returnType = rt) && !meth.locks && decide (parseMethodDescriptor y.desc = some meth.sig)) = true) : (Jvm.Cond.code y bytes mx rt).before a s = true := by
  simp only [Bool.and_eq_true, beq_iff_eq, Bool.not_eq_true', decide_eq_true_eq] at h5
  obtain ⟨⟨⟨⟨⟨g1, g2⟩, g3⟩, g4⟩, g5⟩, g6⟩ := h5
  simp [Cond.before, Cond.holds, Cond.value, h1, h2, h3, h4, g1, g2, g3, g4, g5, g6]
def isCode : Jvm.Cond → Bool
  | .code _ _ _ _ => true
  | _ => false
theorem all_split {L : List Jvm.Cond} {P : Jvm.Cond → Bool} (h1 : L.all (fun c => isCode c || P c) = true) (h2 : ∀ c ∈ L.filter isCode, P c = true) : L.all P = true := by
  refine List.all_eq_true.mpr fun c hc => ?_
  have h := List.all_eq_true.mp h1 c hc
  rcases Bool.eq_false_or_eq_true (isCode c) with hi | hi
  · exact h2 c (List.mem_filter.mpr ⟨hc, hi⟩)
  · simpa [hi] using h
set_option maxRecDepth 65536 in
theorem w_c0 : (Jvm.Cond.code x code maxLocals ret).before args0 about1 = true := code_word (m := ⟨1, 1⟩) (meth := k1m1) (c := k1c1) (by decide +kernel) rfl rfl rfl (by decide +kernel)
set_option maxRecDepth 65536 in
theorem w_c1 : (Jvm.Cond.code ({ cls := "com/example/hermit_crab/hermitcrab/engine/Table", name := "<init>", desc := "(Ljava/lang/String;Lcom/example/hermit_crab/hermitcrab/sql/Columns;I)V" } : Jvm.MethodName) prog_47_method_1_code (4 : Nat) (Option.none : Option Jvm.ClassFile.FieldType)).before args0 about1 = true := code_word (m := ⟨2, 0⟩) (meth := k2m0) (c := k2c0) (by decide +kernel) rfl rfl rfl (by decide +kernel)
set_option maxRecDepth 65536 in
theorem w_c2 : (Jvm.Cond.code ({ cls := "java/lang/Object", name := "<init>", desc := "()V" } : Jvm.MethodName) object_method_1_code (1 : Nat) (Option.none : Option Jvm.ClassFile.FieldType)).before args0 about1 = true := code_word (m := ⟨0, 0⟩) (meth := k0m0) (c := k0c0) (by decide +kernel) rfl rfl rfl (by decide +kernel)
set_option maxRecDepth 65536 in
theorem w_c3 : (Jvm.Cond.code ({ cls := "com/example/hermit_crab/hermitcrab/engine/KeyIndex", name := "<init>", desc := "()V" } : Jvm.MethodName) prog_9_method_1_code (1 : Nat) (Option.none : Option Jvm.ClassFile.FieldType)).before args0 about1 = true := code_word (m := ⟨9, 0⟩) (meth := k9m0) (c := k9c0) (by decide +kernel) rfl rfl rfl (by decide +kernel)
set_option maxRecDepth 65536 in
theorem w_c4 : (Jvm.Cond.code ({ cls := "java/util/ArrayDeque", name := "<init>", desc := "()V" } : Jvm.MethodName) jdk_21_method_3_code (1 : Nat) (Option.none : Option Jvm.ClassFile.FieldType)).before args0 about1 = true := code_word (m := ⟨17, 0⟩) (meth := k17m0) (c := k17c0) (by decide +kernel) rfl rfl rfl (by decide +kernel)
set_option maxRecDepth 65536 in
theorem w_c5 : (Jvm.Cond.code ({ cls := "java/util/AbstractCollection", name := "<init>", desc := "()V" } : Jvm.MethodName) jdk_22_method_1_code (1 : Nat) (Option.none : Option Jvm.ClassFile.FieldType)).before args0 about1 = true := code_word (m := ⟨12, 0⟩) (meth := k12m0) (c := k12c0) (by decide +kernel) rfl rfl rfl (by decide +kernel)
set_option maxRecDepth 65536 in
theorem w_c6 : (Jvm.Cond.code ({ cls := "com/example/hermit_crab/hermitcrab/engine/Table", name := "isUnchangedSince", desc := "(J)Z" } : Jvm.MethodName) prog_47_method_8_code (3 : Nat) (Option.some Jvm.ClassFile.FieldType.boolean)).before args0 about1 = true := code_word (m := ⟨2, 1⟩) (meth := k2m1) (c := k2c1) (by decide +kernel) rfl rfl rfl (by decide +kernel)
set_option maxRecDepth 65536 in
theorem w_c7 : (Jvm.Cond.code ({ cls := "com/example/hermit_crab/hermitcrab/engine/Table", name := "markChangedAt", desc := "(J)V" } : Jvm.MethodName) prog_47_method_9_code (3 : Nat) (Option.none : Option Jvm.ClassFile.FieldType)).before args0 about1 = true := code_word (m := ⟨2, 2⟩) (meth := k2m2) (c := k2c2) (by decide +kernel) rfl rfl rfl (by decide +kernel)
set_option maxRecDepth 65536 in
theorem w_c8 : (Jvm.Cond.code ({ cls := "java/lang/Math", name := "max", desc := "(JJ)J" } : Jvm.MethodName) jdk_29_method_66_code (4 : Nat) (Option.some Jvm.ClassFile.FieldType.long)).before args0 about1 = true := code_word (m := ⟨18, 1⟩) (meth := k18m1) (c := k18c1) (by decide +kernel) rfl rfl rfl (by decide +kernel)
def codes1 : List Jvm.Cond := [Jvm.Cond.code x code maxLocals ret, Jvm.Cond.code ({ cls := "com/example/hermit_crab/hermitcrab/engine/Table", name := "<init>", desc := "(Ljava/lang/String;Lcom/example/hermit_crab/hermitcrab/sql/Columns;I)V" } : Jvm.MethodName) prog_47_method_1_code (4 : Nat) (Option.none : Option Jvm.ClassFile.FieldType), Jvm.Cond.code ({ cls := "java/lang/Object", name := "<init>", desc := "()V" } : Jvm.MethodName) object_method_1_code (1 : Nat) (Option.none : Option Jvm.ClassFile.FieldType), Jvm.Cond.code ({ cls := "com/example/hermit_crab/hermitcrab/engine/KeyIndex", name := "<init>", desc := "()V" } : Jvm.MethodName) prog_9_method_1_code (1 : Nat) (Option.none : Option Jvm.ClassFile.FieldType), Jvm.Cond.code ({ cls := "java/util/ArrayDeque", name := "<init>", desc := "()V" } : Jvm.MethodName) jdk_21_method_3_code (1 : Nat) (Option.none : Option Jvm.ClassFile.FieldType), Jvm.Cond.code ({ cls := "java/util/AbstractCollection", name := "<init>", desc := "()V" } : Jvm.MethodName) jdk_22_method_1_code (1 : Nat) (Option.none : Option Jvm.ClassFile.FieldType), Jvm.Cond.code ({ cls := "com/example/hermit_crab/hermitcrab/engine/Table", name := "isUnchangedSince", desc := "(J)Z" } : Jvm.MethodName) prog_47_method_8_code (3 : Nat) (Option.some Jvm.ClassFile.FieldType.boolean), Jvm.Cond.code ({ cls := "com/example/hermit_crab/hermitcrab/engine/Table", name := "markChangedAt", desc := "(J)V" } : Jvm.MethodName) prog_47_method_9_code (3 : Nat) (Option.none : Option Jvm.ClassFile.FieldType), Jvm.Cond.code ({ cls := "java/lang/Math", name := "max", desc := "(JJ)J" } : Jvm.MethodName) jdk_29_method_66_code (4 : Nat) (Option.some Jvm.ClassFile.FieldType.long)]
set_option maxRecDepth 65536 in
theorem codes_eq : words1.filter isCode = codes1 := rfl
theorem w_codes : ∀ c ∈ words1.filter isCode, c.before args0 about1 = true := by
  rw [codes_eq]
  intro c hc
  simp only [codes1, List.mem_cons, List.not_mem_nil, or_false] at hc
  rcases hc with rfl | rfl | rfl | rfl | rfl | rfl | rfl | rfl | rfl
  · exact w_c0
  · exact w_c1
  · exact w_c2
  · exact w_c3
  · exact w_c4
  · exact w_c5
  · exact w_c6
  · exact w_c7
  · exact w_c8
set_option maxRecDepth 65536 in
theorem w_t1 : (words1.take 24).all (fun c => isCode c || c.before args0 about1) = true := by decide +kernel
set_option maxRecDepth 65536 in
theorem w_t2 : ((words1.drop 24).take 24).all (fun c => isCode c || c.before args0 about1) = true := by decide +kernel
set_option maxRecDepth 65536 in
theorem w_t3 : (((words1.drop 24).drop 24).take 24).all (fun c => isCode c || c.before args0 about1) = true := by decide +kernel
set_option maxRecDepth 65536 in
theorem w_t4 : (((words1.drop 24).drop 24).drop 24).all (fun c => isCode c || c.before args0 about1) = true := by decide +kernel
theorem w_tables : (allAtoms (Jvm.Cond.code x code maxLocals ret :: tables_1)).before args0 about1 = true := by
  rw [allAtoms_all]
  show words1.all (fun c => c.before args0 about1) = true
  refine all_split ?_ w_codes
  rw [← List.take_append_drop 24 words1, List.all_append, w_t1, ← List.take_append_drop 24 (words1.drop 24), List.all_append, w_t2, ← List.take_append_drop 24 ((words1.drop 24).drop 24), List.all_append, w_t3, w_t4]
  rfl
set_option maxRecDepth 65536 in
theorem w_case : (Jvm.Cond.and given_1 narrow_1).before args0 about1 = true := by decide +kernel
theorem w_applies : (headSpec (Jvm.Cond.code x code maxLocals ret :: tables_1) room_1).applies x e0.platform about1 = true :=
  (Spec.applies_iff w_frames).mpr ⟨w_running, w_runnable, w_alone, w_named, w_hears, w_ripe, w_room, w_tables⟩
theorem atStart : AtStart classFile x code maxLocals ret World_1 tables_1 room_1 Calls_1 rest_1 Pre_1 launch0 p0 e0 about1 theMethod args0 below0 :=
  ⟨lists_1, trivial, launch0.admits_env _ _ _, launch0.least_env, fairChoices_fair.cas, fairChoices_fair.clock, w_frames, w_args, w_heap, w_applies, trivial, trivial, w_case⟩
end start1
theorem witness_1 : WitnessClaimed_1 := ⟨start1.p0, start1.e0, start1.about1, start1.theMethod, start1.args0, start1.below0, start1.atStart⟩
end Jvm.Pilot.@@N@@
