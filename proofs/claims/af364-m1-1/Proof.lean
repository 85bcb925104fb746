import JvmDerived
import JvmDerived.Pilot.@@N@@Statement
import JvmDerived.Pilot.@@N@@Code
set_option linter.unusedVariables false
set_option linter.unusedSimpArgs false
namespace Jvm.RoadKit
open Sem ClassFile Op Lib Jvm.Stand Jvm.Free Jvm.LawKit
section New
variable {p : Program} {l : Launch} {e : Env} {R : Room} {s : State} {m : MethodId} {args : Array Value} {below : List Frame} {meth : Method} {c : Code} {T : State} {locs : List Loc} {cells slots : Nat}
theorem retI (X : Stand p l e R s m args below meth c T locs cells slots) (hx : p.tables.exec = Jvm.exec) {pc : Nat} {Ls : Array Slot} {z : Int32} {rest : List Value} (hret : meth.sig.returnType = some .int) (hd : decode c.code pc = .ok (.ireturn, 1)) {fs : List Frame}
    (hl : ∀ (f : JFrame) (acts : List Action), f.method = m → f.locked = none → f.entered = [] → (doReturn e (T.setTop f) acts (some (.int z))).1 = T.setFrames fs) : Steps p.tables e below (T.setTop (mkF m pc Ls (.int z :: rest))) (T.setFrames fs) := by
  have hm' : T.vm.method? m = some meth := X.method'
  have hn : narrow .int (.int z) = .int z := rfl
  show Steps p.tables e below (T.setTop { method := m, pc := pc, locals := Ls, stack := _ :: rest, locked := none }) _
  jvm_step X.here [X.here.top, hx, hd, hm', hret, hn]
  first | (intro acts; rw [hl _ acts rfl rfl rfl]) | rw [hl _ _ rfl rfl rfl]
  exact Steps.refl _
end New
end Jvm.RoadKit
namespace Jvm.Pilot.@@N@@
open Jvm Jvm.ClassFile Sem Op Lib Jvm.Free Jvm.Stand Jvm.LawKit Jvm.RoadKit Bundle Jvm.Pilot.@@N@@.Jvm.D
theorem own_le {a b : Nat} (h : a = b) : 2 * 0 + a ≤ b := by omega
theorem own_m (i : Nat) {d : Jvm.Cond} (h : tables_1[i]? = some d) : d ∈ tables_1 := List.mem_of_getElem? h
/-- from the state T at the frame g the method comes to its return, with Q of what it returns -/
def own_Goes (tb : Tables) (e : Env) (below : List Frame) (s : State) (Q : Option Value → Heap → List Loc → Prop) (rc rs : Nat) (T : State) (g : JFrame) : Prop :=
  ∃ s₂ o, Steps tb e below (T.setTop g) s₂ ∧ s₂.status = .running ∧ Ended s₂ below o ∧ ∃ v L, o = .returned v ∧ Q v s₂.heap L ∧ FrameEnd s o s₂ L rc rs
theorem own_by {tb : Tables} {e : Env} {below : List Frame} {s : State} {Q : Option Value → Heap → List Loc → Prop} {rc rs : Nat} {T T' : State} {g g' : JFrame} (h : ∀ t, Steps tb e below (T'.setTop g') t → Steps tb e below (T.setTop g) t) (k : own_Goes tb e below s Q rc rs T' g') : own_Goes tb e below s Q rc rs T g := by
  obtain ⟨s₂, o, h1, h2⟩ := k
  exact ⟨s₂, o, h _ h1, h2⟩
section OwnRet
variable {p : Program} {l : Launch} {e : Env} {R : Room} {s : State} {m : MethodId} {args : Array Value} {below : List Frame} {meth : Method} {c : Code} {T : State} {locs : List Loc} {cells slots : Nat} {Q : Option Value → Heap → List Loc → Prop} {rc rs : Nat} {pc : Nat} {Ls : Array Slot} {rest : List Value}
theorem own_retI (X : Stand p l e R s m args below meth c T locs cells slots) (hx : p.tables.exec = Jvm.exec) {z : Int32} (hlk : meth.locks = false) (hret : meth.sig.returnType = some .int) (hd : decode c.code pc = .ok (.ireturn, 1)) (hc : cells ≤ rc) (hs : slots ≤ rs)
    (hQ : Q (some (.int z)) T.heap locs) : own_Goes p.tables e below s Q rc rs T (mkF m pc Ls (.int z :: rest)) := by
  obtain ⟨fs, hr, hrun, hended, hW, hsame⟩ := X.leave (v := some (.int z)) (fun h => by rw [hret] at h; cases h)
  exact ⟨_, _, retI X hx hret hd hr, hrun, hended, _, _, rfl, hQ, ⟨_, rfl⟩, hW, hsame.mono hc hs⟩
theorem own_retN (X : Stand p l e R s m args below meth c T locs cells slots) (hx : p.tables.exec = Jvm.exec) {z : Int32} {t : FieldType} (hlk : meth.locks = false) (hret : meth.sig.returnType = some t) (ht : t = .boolean ∨ t = .byte ∨ t = .char ∨ t = .short) (hd : decode c.code pc = .ok (.ireturn, 1)) (hc : cells ≤ rc) (hs : slots ≤ rs)
    (hQ : Q (some (.int (nar t z))) T.heap locs) : own_Goes p.tables e below s Q rc rs T (mkF m pc Ls (.int z :: rest)) := by
  obtain ⟨fs, hr, hrun, hended, hW, hsame⟩ := X.leave (v := some (.int (nar t z))) (fun h => by rw [hret] at h; cases h)
  exact ⟨_, _, retN X hx hret ht hd hr, hrun, hended, _, _, rfl, hQ, ⟨_, rfl⟩, hW, hsame.mono hc hs⟩
theorem own_retV (X : Stand p l e R s m args below meth c T locs cells slots) (hx : p.tables.exec = Jvm.exec) (hlk : meth.locks = false) (hret : meth.sig.returnType = none) (hd : decode c.code pc = .ok (.return_, 1)) (hc : cells ≤ rc) (hs : slots ≤ rs)
    (hQ : Q none T.heap locs) : own_Goes p.tables e below s Q rc rs T (mkF m pc Ls []) := by
  obtain ⟨fs, hr, hrun, hended, hW, hsame⟩ := X.leave (v := none) (fun _ => rfl)
  exact ⟨_, _, X.returnOut hx hret hd hr, hrun, hended, _, _, rfl, hQ, ⟨_, rfl⟩, hW, hsame.mono hc hs⟩
theorem own_retJ (X : Stand p l e R s m args below meth c T locs cells slots) (hx : p.tables.exec = Jvm.exec) {z : Int64} (hlk : meth.locks = false) (hret : meth.sig.returnType = some .long) (hd : decode c.code pc = .ok (.lreturn, 1)) (hc : cells ≤ rc) (hs : slots ≤ rs)
    (hQ : Q (some (.long z)) T.heap locs) : own_Goes p.tables e below s Q rc rs T (mkF m pc Ls (.long z :: rest)) := by
  obtain ⟨fs, hr, hrun, hended, hW, hsame⟩ := X.leave (v := some (.long z)) (fun h => by rw [hret] at h; cases h)
  exact ⟨_, _, retOut X hx hret rfl (Or.inr (Or.inl ⟨rfl, rfl, _, rfl⟩)) hd hr, hrun, hended, _, _, rfl, hQ, ⟨_, rfl⟩, hW, hsame.mono hc hs⟩
theorem own_retA (X : Stand p l e R s m args below meth c T locs cells slots) (hx : p.tables.exec = Jvm.exec) {w : Value} {t : FieldType} (hlk : meth.locks = false) (hret : meth.sig.returnType = some t) (ht : t.isReference = true) (hw : w.isRef = true) (hn : narrow t w = w) (hd : decode c.code pc = .ok (.areturn, 1)) (hc : cells ≤ rc) (hs : slots ≤ rs)
    (hQ : Q (some w) T.heap locs) : own_Goes p.tables e below s Q rc rs T (mkF m pc Ls (w :: rest)) := by
  obtain ⟨fs, hr, hrun, hended, hW, hsame⟩ := X.leave (v := some w) (fun h => by rw [hret] at h; cases h)
  exact ⟨_, _, retOut X hx hret hn (Or.inr (Or.inr (Or.inr (Or.inr ⟨rfl, ht, hw⟩)))) hd hr, hrun, hended, _, _, rfl, hQ, ⟨_, rfl⟩, hW, hsame.mono hc hs⟩
end OwnRet
theorem own_nsE {Z : State} {h : Heap} {a : Addr} {C : String} (E : Exa Z h a C) : ∃ c : Cell, h[a]? = some c ∧ c.vm.isStatics = false := by
  obtain ⟨c, k, h1, -, -, h4, -⟩ := E
  exact ⟨c, h1, h4⟩
theorem own_nsV {Z : State} {h : Heap} {a : Addr} {k : ClassId} {ty : FieldType} {n : Int32} {vs : List Value} {d : Value} (F : Arv Z h a k ty n vs d) : ∃ c : Cell, h[a]? = some c ∧ c.vm.isStatics = false := by
  obtain ⟨c, A, -⟩ := F
  exact ⟨c, A.1, A.plain⟩
theorem own_staKeep {Z : State} {h h' : Heap} {C n d : String} {v : Value} {ws : List Addr} (S : Sta Z h C n d v) (K : Keep h h' ws) (q : ∀ x ∈ ws, ∃ c : Cell, h[x]? = some c ∧ c.vm.isStatics = false) : Sta Z h' C n d v := by
  obtain ⟨cf, i, k, f, st, cell, h1, h2, h3, h4, h5, h6, h7⟩ := S
  refine ⟨cf, i, k, f, st, cell, h1, h2, h3, h4, K.2.1 st cell h5 (fun hin => ?_), h6, h7⟩
  obtain ⟨c, hc, hs⟩ := q st hin
  rw [h5] at hc
  cases hc
  rw [h6] at hs
  cases hs
theorem own_arrKeep {Z : State} {h h' : Heap} {a : Addr} {c : Cell} {ty : FieldType} {ws : List Addr} (A : Arr Z h a c ty) (K : Keep h h' ws) (q : a ∉ ws) : Arr Z h' a c ty := ⟨K.2.1 a c A.1 q, A.2⟩
theorem own_eq_int {args : Array Value} {s : State} {t : Term} {k : Int32} (h : (Jvm.Cond.eq t (.int k)).value args s none s [] = some true) : t.eval args s none [] s = some (.int k) := by
  obtain ⟨x, y, h1, h2, k1, k2⟩ := cmp_v (Or.inl h)
  cases h2
  obtain ⟨z, rfl⟩ := k2
  have : z = k := by simpa [Jvm.Cond.value, h1, Term.eval] using h
  rw [h1, this]
theorem own_eq_ref {args : Array Value} {s : State} {t u : Term} {b : Addr} (h : (Jvm.Cond.eq t u).value args s none s [] = some true) (hu : u.eval args s none [] s = some (.ref b)) : t.eval args s none [] s = some (.ref b) := by
  obtain ⟨x, y, h1, h2, k1, k2⟩ := cmp_v (Or.inl h)
  cases hu.symm.trans h2
  have hr : x.isRef = true := k2.2
  rcases ref_cases hr with rfl | ⟨z, rfl⟩
  · simp [Jvm.Cond.value, h1, h2] at h
  · have : z = b := by simpa [Jvm.Cond.value, h1, h2] using h
    rw [h1, this]

theorem own_and3 (x : Int32) : x &&& (3 : Int32) = 0 ∨ x &&& (3 : Int32) = 1 ∨ x &&& (3 : Int32) = 2 ∨ x &&& (3 : Int32) = 3 := by
  have h := c_mask x 3 2 (by decide) (by decide)
  have h2 : (x &&& (3 : Int32)).toInt = 0 ∨ (x &&& (3 : Int32)).toInt = 1 ∨ (x &&& (3 : Int32)).toInt = 2 ∨ (x &&& (3 : Int32)).toInt = 3 := by omega
  rcases h2 with h | h | h | h
  · exact Or.inl (Int32.toInt_inj.mp h)
  · exact Or.inr (Or.inl (Int32.toInt_inj.mp h))
  · exact Or.inr (Or.inr (Or.inl (Int32.toInt_inj.mp h)))
  · exact Or.inr (Or.inr (Or.inr (Int32.toInt_inj.mp h)))
def own_pick (x : Int32) (a1 a2 a3 a4 : Addr) : Addr := if x &&& (3 : Int32) = 0 then a1 else if x &&& (3 : Int32) = 1 then a2 else if x &&& (3 : Int32) = 2 then a3 else a4
theorem own_pick_cases (x : Int32) (a1 a2 a3 a4 : Addr) : own_pick x a1 a2 a3 a4 = a1 ∨ own_pick x a1 a2 a3 a4 = a2 ∨ own_pick x a1 a2 a3 a4 = a3 ∨ own_pick x a1 a2 a3 a4 = a4 := by
  unfold own_pick
  split
  · exact Or.inl rfl
  · split
    · exact Or.inr (Or.inl rfl)
    · split
      · exact Or.inr (Or.inr (Or.inl rfl))
      · exact Or.inr (Or.inr (Or.inr rfl))
def own_lr (o a3 a4 : Addr) : Int32 := if o = a3 then 1 else if o = a4 then 1 else 0
def own_rp (k : Int32) (a1 a3 : Addr) : Value := if k = 0 then .ref a1 else if k = 1 then .ref a1 else if k = 2 then .ref a3 else .null
def own_cf (k : Int32) (q a1 a2 a3 a4 : Addr) : Int32 := if k = 0 then (if q = a2 then 1 else 0) else if k = 1 then (if q = a1 then 1 else if q = a2 then 1 else 0) else if k = 2 then (if q = a4 then 1 else 0) else (if q = a3 then 1 else 0)

theorem pn_com_example_hermit_crab_hermitcrab_engine_LockModeLocksRangePinLaw : plainName "com/example/hermit_crab/hermitcrab/engine/LockModeLocksRangePinLaw" = true := by first | (simp [plainName, overriddenIn]; done) | decide +kernel
theorem ef_1 (m : MethodId) (x1 : Int32) : entryFrame m #[(.int x1)] 2 = mkF m 0 #[.val (.int x1), .unset] [] := by first | (simp [entryFrame, mkF, argsToLocals, Value.category]; done) | rfl
theorem d1_0 : decode method_2_code 0 = .ok (.iload_n 0, 1) := by decide +kernel
theorem d1_1 : decode method_2_code 1 = .ok (.iconst 3, 1) := by decide +kernel
theorem d1_2 : decode method_2_code 2 = .ok (.iand, 1) := by decide +kernel
theorem d1_3 : decode method_2_code 3 = .ok (.istore_n 1, 1) := by decide +kernel
theorem d1_4 : decode method_2_code 4 = .ok (.iload_n 1, 1) := by decide +kernel
theorem d1_5 : decode method_2_code 5 = .ok (.ifCond .ne 7, 3) := by decide +kernel
theorem d1_8 : decode method_2_code 8 = .ok (.getstatic 7, 3) := by decide +kernel
theorem d1_11 : decode method_2_code 11 = .ok (.areturn, 1) := by decide +kernel
theorem d1_12 : decode method_2_code 12 = .ok (.iload_n 1, 1) := by decide +kernel
theorem d1_13 : decode method_2_code 13 = .ok (.iconst 1, 1) := by decide +kernel
theorem d1_14 : decode method_2_code 14 = .ok (.if_icmp .ne 7, 3) := by decide +kernel
theorem d1_17 : decode method_2_code 17 = .ok (.getstatic 13, 3) := by decide +kernel
theorem d1_20 : decode method_2_code 20 = .ok (.areturn, 1) := by decide +kernel
theorem d1_21 : decode method_2_code 21 = .ok (.iload_n 1, 1) := by decide +kernel
theorem d1_22 : decode method_2_code 22 = .ok (.iconst 2, 1) := by decide +kernel
theorem d1_23 : decode method_2_code 23 = .ok (.if_icmp .ne 7, 3) := by decide +kernel
theorem d1_26 : decode method_2_code 26 = .ok (.getstatic 16, 3) := by decide +kernel
theorem d1_29 : decode method_2_code 29 = .ok (.areturn, 1) := by decide +kernel
theorem d1_30 : decode method_2_code 30 = .ok (.getstatic 19, 3) := by decide +kernel
theorem d1_33 : decode method_2_code 33 = .ok (.areturn, 1) := by decide +kernel
def Q1 (Z : State) (x1 : Int32) (a1 : Addr) (a2 : Addr) (a3 : Addr) (a4 : Addr) (h0 : Heap) (n0 : Nat) (v : Option Value) (h : Heap) (L : List Loc) : Prop := v = some (.ref (own_pick x1 a1 a2 a3 a4)) ∧ Fr n0 L ∧ h = h0
set_option maxRecDepth 65536 in
set_option maxHeartbeats 40000000 in
theorem rm1 (l : Launch) (Z : State) (a0 : Array Value) (hw : ∀ d ∈ tables_1, d.before a0 Z = true) (ws : List Jvm.Cond) (x1 : Int32) (a1 : Addr) (a2 : Addr) (a3 : Addr) (a4 : Addr) (h0 : Heap) (n0 : Nat) (Zle : n0 ≤ h0.size) (S_SHARED : Sta Z h0 "com/example/hermit_crab/hermitcrab/engine/LockMode" "SHARED" "Lcom/example/hermit_crab/hermitcrab/engine/LockMode;" (.ref a1)) (S_EXCLUSIVE : Sta Z h0 "com/example/hermit_crab/hermitcrab/engine/LockMode" "EXCLUSIVE" "Lcom/example/hermit_crab/hermitcrab/engine/LockMode;" (.ref a2)) (S_RANGE_SHARED : Sta Z h0 "com/example/hermit_crab/hermitcrab/engine/LockMode" "RANGE_SHARED" "Lcom/example/hermit_crab/hermitcrab/engine/LockMode;" (.ref a3)) (S_RANGE_INSERT : Sta Z h0 "com/example/hermit_crab/hermitcrab/engine/LockMode" "RANGE_INSERT" "Lcom/example/hermit_crab/hermitcrab/engine/LockMode;" (.ref a4)) :
    MetFree l (⟨"com/example/hermit_crab/hermitcrab/engine/LockModeLocksRangePinLaw", "pick", "(I)Lcom/example/hermit_crab/hermitcrab/engine/LockMode;"⟩ : MethodName) (head1 (Jvm.Cond.code (⟨"com/example/hermit_crab/hermitcrab/engine/LockModeLocksRangePinLaw", "pick", "(I)Lcom/example/hermit_crab/hermitcrab/engine/LockMode;"⟩ : MethodName) method_2_code 2 (some (.object "com/example/hermit_crab/hermitcrab/engine/LockMode")) :: ws) ({ frames := 0, cells := 0, slots := 0, locals := 0 } : Room)) (fun a U => a = #[(.int x1)] ∧ Z.Warmed39 U.vm ∧ U.heap = h0) (fun _ _ _ _ _ => True) (fun _ U o U' => ∃ v L, o = .returned v ∧ Q1 Z x1 a1 a2 a3 a4 h0 n0 v U'.heap L ∧ FrameEnd U o U' L ({ frames := 0, cells := 0, slots := 0, locals := 0 } : Room).cells ({ frames := 0, cells := 0, slots := 0, locals := 0 } : Room).slots) := by
  refine MetFree.of_bodySF (plainFor_of_name pn_com_example_hermit_crab_hermitcrab_engine_LockModeLocksRangePinLaw) hisR ?_
  intro p e s m args below meth c s₁ Bd hml0 hP hK
  obtain ⟨rfl, hZ, hh⟩ := hP
  have hx := Bd.exec
  have hby := Bd.bytes
  have hml : c.maxLocals = 2 := hml0
  have hown : s.vm.findClass "com/example/hermit_crab/hermitcrab/engine/LockModeLocksRangePinLaw" = some m.cls := findClass_of_methodNamed Bd.named
  have hnm := (name_of_methodNamed Bd.named Bd.method).1
  have X0 : Stand p l e ({ frames := 0, cells := 0, slots := 0, locals := 0 } : Room) s m #[(.int x1)] below meth c s₁ [] 0 0 := Stand.of_body Bd
  have e0 : s₁.heap = h0 := by rw [← hh, Bd.state]; rfl
  have N_ := Fr.nil n0
  show own_Goes p.tables e below s (Q1 Z x1 a1 a2 a3 a4 h0 n0) ({ frames := 0, cells := 0, slots := 0, locals := 0 } : Room).cells ({ frames := 0, cells := 0, slots := 0, locals := 0 } : Room).slots s₁ (entryFrame m #[(.int x1)] 2)
  refine own_by (T' := s₁) (g' := (mkF m 0 #[.val (.int x1), .unset] [])) (fun t k => castTop (ef_1 m x1) k) ?_
  refine own_by (T' := s₁) (g' := (mkF m 1 #[.val (.int x1), .unset] [(.int x1)])) (fun t k => XS.iloadN X0.here hx rfl (hb hby d1_0) rfl k) ?_
  refine own_by (T' := s₁) (g' := (mkF m 2 #[.val (.int x1), .unset] [(.int 3), (.int x1)])) (fun t k => XS.iconst X0.here hx rfl (hb hby d1_1) k) ?_
  refine own_by (T' := s₁) (g' := (mkF m 3 #[.val (.int x1), .unset] [(.int (x1 &&& (3 : Int32)))])) (fun t k => XS.iand X0.here hx rfl (hb hby d1_2) rfl k) ?_
  refine own_by (T' := s₁) (g' := (mkF m 4 #[.val (.int x1), .val (.int (x1 &&& (3 : Int32)))] [])) (fun t k => XS.istoreN X0.here hx rfl (hb hby d1_3) rfl (l' := #[.val (.int x1), .val (.int (x1 &&& (3 : Int32)))]) rfl k) ?_
  refine own_by (T' := s₁) (g' := (mkF m 5 #[.val (.int x1), .val (.int (x1 &&& (3 : Int32)))] [(.int (x1 &&& (3 : Int32)))])) (fun t k => XS.iloadN X0.here hx rfl (hb hby d1_4) rfl k) ?_
  by_cases hc5_1 : (x1 &&& (3 : Int32)) = (0 : Int32)
  · refine own_by (T' := s₁) (g' := (mkF m 8 #[.val (.int x1), .val (.int (x1 &&& (3 : Int32)))] [])) (fun t k => XS.ifNo X0.here hx rfl (hb hby d1_5) rfl ((if0 _ _).trans (teq hc5_1).2) k) ?_
    obtain ⟨T2, X2, e2, st2⟩ := getS2 X0 hx hZ hown (host := "") (Or.inl (hw _ (own_m 4 rfl))) Via.refl e0 S_SHARED (g := (mkF m 8 #[.val (.int x1), .val (.int (x1 &&& (3 : Int32)))] [])) rfl (hb hby d1_8)
    refine own_by (T' := T2) (g' := (mkF m 11 #[.val (.int x1), .val (.int (x1 &&& (3 : Int32)))] [(.ref a1)])) (fun t k => st2 t k) ?_
    exact own_retA X2 hx (t := (.object "com/example/hermit_crab/hermitcrab/engine/LockMode")) Bd.notSynchronized Bd.returns rfl rfl rfl (hb hby d1_11) (by decide) (by decide) (by rw [e2]; exact ⟨by simp [own_pick, hc5_1], N_, rfl⟩)
  · refine own_by (T' := s₁) (g' := (mkF m 12 #[.val (.int x1), .val (.int (x1 &&& (3 : Int32)))] [])) (fun t k => XS.ifYes X0.here hx rfl (pc0 := 5) (pc' := 12) rfl (hb hby d1_5) rfl ((if0 _ _).trans (feq hc5_1).2) (by decide) (by decide) k) ?_
    refine own_by (T' := s₁) (g' := (mkF m 13 #[.val (.int x1), .val (.int (x1 &&& (3 : Int32)))] [(.int (x1 &&& (3 : Int32)))])) (fun t k => XS.iloadN X0.here hx rfl (hb hby d1_12) rfl k) ?_
    refine own_by (T' := s₁) (g' := (mkF m 14 #[.val (.int x1), .val (.int (x1 &&& (3 : Int32)))] [(.int 1), (.int (x1 &&& (3 : Int32)))])) (fun t k => XS.iconst X0.here hx rfl (hb hby d1_13) k) ?_
    by_cases hc14_3 : (x1 &&& (3 : Int32)) = (1 : Int32)
    · refine own_by (T' := s₁) (g' := (mkF m 17 #[.val (.int x1), .val (.int (x1 &&& (3 : Int32)))] [])) (fun t k => XS.icmpNo X0.here hx rfl (hb hby d1_14) rfl (teq hc14_3).2 k) ?_
      obtain ⟨T4, X4, e4, st4⟩ := getS2 X0 hx hZ hown (host := "") (Or.inl (hw _ (own_m 40 rfl))) Via.refl e0 S_EXCLUSIVE (g := (mkF m 17 #[.val (.int x1), .val (.int (x1 &&& (3 : Int32)))] [])) rfl (hb hby d1_17)
      refine own_by (T' := T4) (g' := (mkF m 20 #[.val (.int x1), .val (.int (x1 &&& (3 : Int32)))] [(.ref a2)])) (fun t k => st4 t k) ?_
      exact own_retA X4 hx (t := (.object "com/example/hermit_crab/hermitcrab/engine/LockMode")) Bd.notSynchronized Bd.returns rfl rfl rfl (hb hby d1_20) (by decide) (by decide) (by rw [e4]; exact ⟨by simp [own_pick, hc5_1, hc14_3], N_, rfl⟩)
    · refine own_by (T' := s₁) (g' := (mkF m 21 #[.val (.int x1), .val (.int (x1 &&& (3 : Int32)))] [])) (fun t k => XS.icmpYes X0.here hx rfl (pc0 := 14) (pc' := 21) rfl (hb hby d1_14) rfl (feq hc14_3).2 (by decide) (by decide) k) ?_
      refine own_by (T' := s₁) (g' := (mkF m 22 #[.val (.int x1), .val (.int (x1 &&& (3 : Int32)))] [(.int (x1 &&& (3 : Int32)))])) (fun t k => XS.iloadN X0.here hx rfl (hb hby d1_21) rfl k) ?_
      refine own_by (T' := s₁) (g' := (mkF m 23 #[.val (.int x1), .val (.int (x1 &&& (3 : Int32)))] [(.int 2), (.int (x1 &&& (3 : Int32)))])) (fun t k => XS.iconst X0.here hx rfl (hb hby d1_22) k) ?_
      by_cases hc23_5 : (x1 &&& (3 : Int32)) = (2 : Int32)
      · refine own_by (T' := s₁) (g' := (mkF m 26 #[.val (.int x1), .val (.int (x1 &&& (3 : Int32)))] [])) (fun t k => XS.icmpNo X0.here hx rfl (hb hby d1_23) rfl (teq hc23_5).2 k) ?_
        obtain ⟨T6, X6, e6, st6⟩ := getS2 X0 hx hZ hown (host := "") (Or.inl (hw _ (own_m 39 rfl))) Via.refl e0 S_RANGE_SHARED (g := (mkF m 26 #[.val (.int x1), .val (.int (x1 &&& (3 : Int32)))] [])) rfl (hb hby d1_26)
        refine own_by (T' := T6) (g' := (mkF m 29 #[.val (.int x1), .val (.int (x1 &&& (3 : Int32)))] [(.ref a3)])) (fun t k => st6 t k) ?_
        exact own_retA X6 hx (t := (.object "com/example/hermit_crab/hermitcrab/engine/LockMode")) Bd.notSynchronized Bd.returns rfl rfl rfl (hb hby d1_29) (by decide) (by decide) (by rw [e6]; exact ⟨by simp [own_pick, hc5_1, hc14_3, hc23_5], N_, rfl⟩)
      · refine own_by (T' := s₁) (g' := (mkF m 30 #[.val (.int x1), .val (.int (x1 &&& (3 : Int32)))] [])) (fun t k => XS.icmpYes X0.here hx rfl (pc0 := 23) (pc' := 30) rfl (hb hby d1_23) rfl (feq hc23_5).2 (by decide) (by decide) k) ?_
        obtain ⟨T7, X7, e7, st7⟩ := getS2 X0 hx hZ hown (host := "") (Or.inl (hw _ (own_m 7 rfl))) Via.refl e0 S_RANGE_INSERT (g := (mkF m 30 #[.val (.int x1), .val (.int (x1 &&& (3 : Int32)))] [])) rfl (hb hby d1_30)
        refine own_by (T' := T7) (g' := (mkF m 33 #[.val (.int x1), .val (.int (x1 &&& (3 : Int32)))] [(.ref a4)])) (fun t k => st7 t k) ?_
        exact own_retA X7 hx (t := (.object "com/example/hermit_crab/hermitcrab/engine/LockMode")) Bd.notSynchronized Bd.returns rfl rfl rfl (hb hby d1_33) (by decide) (by decide) (by rw [e7]; exact ⟨by simp [own_pick, hc5_1, hc14_3, hc23_5], N_, rfl⟩)

theorem pn_com_example_hermit_crab_hermitcrab_engine_LockMode : plainName "com/example/hermit_crab/hermitcrab/engine/LockMode" = true := by first | (simp [plainName, overriddenIn]; done) | decide +kernel
theorem ef_2 (m : MethodId) (ob : Addr) : entryFrame m #[(.ref ob)] 1 = mkF m 0 #[.val (.ref ob)] [] := by first | (simp [entryFrame, mkF, argsToLocals, Value.category]; done) | rfl
theorem d2_0 : decode prog_13_method_5_code 0 = .ok (.aload_n 0, 1) := by decide +kernel
theorem d2_1 : decode prog_13_method_5_code 1 = .ok (.getstatic 10, 3) := by decide +kernel
theorem d2_4 : decode prog_13_method_5_code 4 = .ok (.if_acmp .eq 10, 3) := by decide +kernel
theorem d2_14 : decode prog_13_method_5_code 14 = .ok (.iconst 1, 1) := by decide +kernel
theorem d2_15 : decode prog_13_method_5_code 15 = .ok (.goto 4, 3) := by decide +kernel
theorem d2_19 : decode prog_13_method_5_code 19 = .ok (.ireturn, 1) := by decide +kernel
theorem d2_7 : decode prog_13_method_5_code 7 = .ok (.aload_n 0, 1) := by decide +kernel
theorem d2_8 : decode prog_13_method_5_code 8 = .ok (.getstatic 13, 3) := by decide +kernel
theorem d2_11 : decode prog_13_method_5_code 11 = .ok (.if_acmp .ne 7, 3) := by decide +kernel
theorem d2_18 : decode prog_13_method_5_code 18 = .ok (.iconst 0, 1) := by decide +kernel
def Q2 (Z : State) (ob : Addr) (a3 : Addr) (a4 : Addr) (h0 : Heap) (n0 : Nat) (v : Option Value) (h : Heap) (L : List Loc) : Prop := v = some (.int (own_lr ob a3 a4)) ∧ Fr n0 L ∧ h = h0
set_option maxRecDepth 65536 in
set_option maxHeartbeats 40000000 in
theorem rm2 (l : Launch) (Z : State) (a0 : Array Value) (hw : ∀ d ∈ tables_1, d.before a0 Z = true) (ws : List Jvm.Cond) (ob : Addr) (a3 : Addr) (a4 : Addr) (h0 : Heap) (n0 : Nat) (Zle : n0 ≤ h0.size) (S_RANGE_SHARED : Sta Z h0 "com/example/hermit_crab/hermitcrab/engine/LockMode" "RANGE_SHARED" "Lcom/example/hermit_crab/hermitcrab/engine/LockMode;" (.ref a3)) (S_RANGE_INSERT : Sta Z h0 "com/example/hermit_crab/hermitcrab/engine/LockMode" "RANGE_INSERT" "Lcom/example/hermit_crab/hermitcrab/engine/LockMode;" (.ref a4)) :
    MetFree l (⟨"com/example/hermit_crab/hermitcrab/engine/LockMode", "locksRange", "()Z"⟩ : MethodName) (head1 (Jvm.Cond.code (⟨"com/example/hermit_crab/hermitcrab/engine/LockMode", "locksRange", "()Z"⟩ : MethodName) prog_13_method_5_code 1 (some .boolean) :: ws) ({ frames := 0, cells := 0, slots := 0, locals := 0 } : Room)) (fun a U => a = #[(.ref ob)] ∧ Z.Warmed39 U.vm ∧ U.heap = h0) (fun _ _ _ _ _ => True) (fun _ U o U' => ∃ v L, o = .returned v ∧ Q2 Z ob a3 a4 h0 n0 v U'.heap L ∧ FrameEnd U o U' L ({ frames := 0, cells := 0, slots := 0, locals := 0 } : Room).cells ({ frames := 0, cells := 0, slots := 0, locals := 0 } : Room).slots) := by
  refine MetFree.of_bodySF (plainFor_of_name pn_com_example_hermit_crab_hermitcrab_engine_LockMode) hisR ?_
  intro p e s m args below meth c s₁ Bd hml0 hP hK
  obtain ⟨rfl, hZ, hh⟩ := hP
  have hx := Bd.exec
  have hby := Bd.bytes
  have hml : c.maxLocals = 1 := hml0
  have hown : s.vm.findClass "com/example/hermit_crab/hermitcrab/engine/LockMode" = some m.cls := findClass_of_methodNamed Bd.named
  have hnm := (name_of_methodNamed Bd.named Bd.method).1
  have X0 : Stand p l e ({ frames := 0, cells := 0, slots := 0, locals := 0 } : Room) s m #[(.ref ob)] below meth c s₁ [] 0 0 := Stand.of_body Bd
  have e0 : s₁.heap = h0 := by rw [← hh, Bd.state]; rfl
  have N_ := Fr.nil n0
  show own_Goes p.tables e below s (Q2 Z ob a3 a4 h0 n0) ({ frames := 0, cells := 0, slots := 0, locals := 0 } : Room).cells ({ frames := 0, cells := 0, slots := 0, locals := 0 } : Room).slots s₁ (entryFrame m #[(.ref ob)] 1)
  refine own_by (T' := s₁) (g' := (mkF m 0 #[.val (.ref ob)] [])) (fun t k => castTop (ef_2 m ob) k) ?_
  refine own_by (T' := s₁) (g' := (mkF m 1 #[.val (.ref ob)] [(.ref ob)])) (fun t k => XS.aloadN X0.here hx rfl (hb hby d2_0) rfl rfl k) ?_
  obtain ⟨T1, X1, e1, st1⟩ := getS2 X0 hx hZ hown (host := "") (Or.inl (hw _ (own_m 14 rfl))) Via.refl e0 S_RANGE_SHARED (g := (mkF m 1 #[.val (.ref ob)] [(.ref ob)])) rfl (hb hby d2_1)
  refine own_by (T' := T1) (g' := (mkF m 4 #[.val (.ref ob)] [(.ref a3), (.ref ob)])) (fun t k => st1 t k) ?_
  by_cases hc4_2 : ob = a3
  · refine own_by (T' := T1) (g' := (mkF m 14 #[.val (.ref ob)] [])) (fun t k => Jvm.RoadKit.acmp (g := (mkF m 4 #[.val (.ref ob)] [(.ref a3), (.ref ob)])) X1 hx rfl rfl rfl (pc0 := 4) (pc' := 14) (same := true) rfl (hb hby d2_4) rfl (decide_eq_true (congrArg Value.ref hc4_2)) (by decide) (by decide) k) ?_
    refine own_by (T' := T1) (g' := (mkF m 15 #[.val (.ref ob)] [(.int 1)])) (fun t k => XS.iconst X1.here hx rfl (hb hby d2_14) k) ?_
    refine own_by (T' := T1) (g' := (mkF m 19 #[.val (.ref ob)] [(.int 1)])) (fun t k => XS.goto X1.here hx rfl (pc0 := 15) (pc' := 19) rfl (hb hby d2_15) (by decide) (by decide) k) ?_
    exact own_retN X1 hx (t := .boolean) Bd.notSynchronized Bd.returns (by simp) (hb hby d2_19) (by decide) (by decide) (by rw [e1]; exact ⟨by simp [own_lr, hc4_2]; rfl, N_, rfl⟩)
  · refine own_by (T' := T1) (g' := (mkF m 7 #[.val (.ref ob)] [])) (fun t k => Jvm.RoadKit.acmp (g := (mkF m 4 #[.val (.ref ob)] [(.ref a3), (.ref ob)])) X1 hx rfl rfl rfl (pc0 := 4) (pc' := 7) (same := false) rfl (hb hby d2_4) rfl (decide_eq_false fun q => hc4_2 (Value.ref.inj q)) (by decide) (by decide) k) ?_
    refine own_by (T' := T1) (g' := (mkF m 8 #[.val (.ref ob)] [(.ref ob)])) (fun t k => XS.aloadN X1.here hx rfl (hb hby d2_7) rfl rfl k) ?_
    obtain ⟨T3, X3, e3, st3⟩ := getS2 X1 hx hZ hown (host := "") (Or.inl (hw _ (own_m 16 rfl))) Via.refl e1 S_RANGE_INSERT (g := (mkF m 8 #[.val (.ref ob)] [(.ref ob)])) rfl (hb hby d2_8)
    refine own_by (T' := T3) (g' := (mkF m 11 #[.val (.ref ob)] [(.ref a4), (.ref ob)])) (fun t k => st3 t k) ?_
    by_cases hc11_4 : ob = a4
    · refine own_by (T' := T3) (g' := (mkF m 14 #[.val (.ref ob)] [])) (fun t k => Jvm.RoadKit.acmp (g := (mkF m 11 #[.val (.ref ob)] [(.ref a4), (.ref ob)])) X3 hx rfl rfl rfl (pc0 := 11) (pc' := 14) (same := true) rfl (hb hby d2_11) rfl (decide_eq_true (congrArg Value.ref hc11_4)) (by decide) (by decide) k) ?_
      refine own_by (T' := T3) (g' := (mkF m 15 #[.val (.ref ob)] [(.int 1)])) (fun t k => XS.iconst X3.here hx rfl (hb hby d2_14) k) ?_
      refine own_by (T' := T3) (g' := (mkF m 19 #[.val (.ref ob)] [(.int 1)])) (fun t k => XS.goto X3.here hx rfl (pc0 := 15) (pc' := 19) rfl (hb hby d2_15) (by decide) (by decide) k) ?_
      exact own_retN X3 hx (t := .boolean) Bd.notSynchronized Bd.returns (by simp) (hb hby d2_19) (by decide) (by decide) (by rw [e3]; exact ⟨by simp [own_lr, hc4_2, hc11_4]; rfl, N_, rfl⟩)
    · refine own_by (T' := T3) (g' := (mkF m 18 #[.val (.ref ob)] [])) (fun t k => Jvm.RoadKit.acmp (g := (mkF m 11 #[.val (.ref ob)] [(.ref a4), (.ref ob)])) X3 hx rfl rfl rfl (pc0 := 11) (pc' := 18) (same := false) rfl (hb hby d2_11) rfl (decide_eq_false fun q => hc11_4 (Value.ref.inj q)) (by decide) (by decide) k) ?_
      refine own_by (T' := T3) (g' := (mkF m 19 #[.val (.ref ob)] [(.int 0)])) (fun t k => XS.iconst X3.here hx rfl (hb hby d2_18) k) ?_
      exact own_retN X3 hx (t := .boolean) Bd.notSynchronized Bd.returns (by simp) (hb hby d2_19) (by decide) (by decide) (by rw [e3]; exact ⟨by simp [own_lr, hc4_2, hc11_4]; rfl, N_, rfl⟩)

theorem pn_java_lang_Enum : plainName "java/lang/Enum" = true := by first | (simp [plainName, overriddenIn]; done) | decide +kernel
theorem ef_4 (m : MethodId) (ob : Addr) : entryFrame m #[(.ref ob)] 1 = mkF m 0 #[.val (.ref ob)] [] := by first | (simp [entryFrame, mkF, argsToLocals, Value.category]; done) | rfl
theorem d4_0 : decode jdk_37_method_2_code 0 = .ok (.aload_n 0, 1) := by decide +kernel
theorem d4_1 : decode jdk_37_method_2_code 1 = .ok (.getfield 7, 3) := by decide +kernel
theorem d4_4 : decode jdk_37_method_2_code 4 = .ok (.ireturn, 1) := by decide +kernel
def Q4 (Z : State) (ob : Addr) (kk : Int32) (h0 : Heap) (n0 : Nat) (v : Option Value) (h : Heap) (L : List Loc) : Prop := v = some (.int kk) ∧ Fr n0 L ∧ h = h0
set_option maxRecDepth 65536 in
set_option maxHeartbeats 40000000 in
theorem rm4 (l : Launch) (Z : State) (a0 : Array Value) (hw : ∀ d ∈ tables_1, d.before a0 Z = true) (ws : List Jvm.Cond) (ob : Addr) (kk : Int32) (h0 : Heap) (n0 : Nat) (Zle : n0 ≤ h0.size) (F_ordinal_ob : Fld Z h0 ob "java/lang/Enum" "ordinal" "I" (.int kk)) :
    MetFree l (⟨"java/lang/Enum", "ordinal", "()I"⟩ : MethodName) (head1 (Jvm.Cond.code (⟨"java/lang/Enum", "ordinal", "()I"⟩ : MethodName) jdk_37_method_2_code 1 (some .int) :: ws) ({ frames := 0, cells := 0, slots := 0, locals := 0 } : Room)) (fun a U => a = #[(.ref ob)] ∧ Z.Warmed39 U.vm ∧ U.heap = h0) (fun _ _ _ _ _ => True) (fun _ U o U' => ∃ v L, o = .returned v ∧ Q4 Z ob kk h0 n0 v U'.heap L ∧ FrameEnd U o U' L ({ frames := 0, cells := 0, slots := 0, locals := 0 } : Room).cells ({ frames := 0, cells := 0, slots := 0, locals := 0 } : Room).slots) := by
  refine MetFree.of_bodySF (plainFor_of_name pn_java_lang_Enum) hisR ?_
  intro p e s m args below meth c s₁ Bd hml0 hP hK
  obtain ⟨rfl, hZ, hh⟩ := hP
  have hx := Bd.exec
  have hby := Bd.bytes
  have hml : c.maxLocals = 1 := hml0
  have hown : s.vm.findClass "java/lang/Enum" = some m.cls := findClass_of_methodNamed Bd.named
  have hnm := (name_of_methodNamed Bd.named Bd.method).1
  have X0 : Stand p l e ({ frames := 0, cells := 0, slots := 0, locals := 0 } : Room) s m #[(.ref ob)] below meth c s₁ [] 0 0 := Stand.of_body Bd
  have e0 : s₁.heap = h0 := by rw [← hh, Bd.state]; rfl
  have N_ := Fr.nil n0
  show own_Goes p.tables e below s (Q4 Z ob kk h0 n0) ({ frames := 0, cells := 0, slots := 0, locals := 0 } : Room).cells ({ frames := 0, cells := 0, slots := 0, locals := 0 } : Room).slots s₁ (entryFrame m #[(.ref ob)] 1)
  refine own_by (T' := s₁) (g' := (mkF m 0 #[.val (.ref ob)] [])) (fun t k => castTop (ef_4 m ob) k) ?_
  refine own_by (T' := s₁) (g' := (mkF m 1 #[.val (.ref ob)] [(.ref ob)])) (fun t k => XS.aloadN X0.here hx rfl (hb hby d4_0) rfl rfl k) ?_
  obtain ⟨T1, X1, e1, st1⟩ := getF X0 hx hZ hown (host := "") (Or.inl (hw _ (own_m 29 rfl))) Via.refl e0 F_ordinal_ob (g := (mkF m 1 #[.val (.ref ob)] [(.ref ob)])) rfl rfl (hb hby d4_1)
  refine own_by (T' := T1) (g' := (mkF m 4 #[.val (.ref ob)] [(.int kk)])) (fun t k => st1 t k) ?_
  exact own_retI X1 hx Bd.notSynchronized Bd.returns (hb hby d4_4) (by decide) (by decide) (by rw [e1]; exact ⟨rfl, N_, rfl⟩)

theorem ef_3 (m : MethodId) (ob : Addr) : entryFrame m #[(.ref ob)] 1 = mkF m 0 #[.val (.ref ob)] [] := by first | (simp [entryFrame, mkF, argsToLocals, Value.category]; done) | rfl
theorem d3_0 : decode prog_13_method_6_code 0 = .ok (.aload_n 0, 1) := by decide +kernel
theorem d3_1 : decode prog_13_method_6_code 1 = .ok (.invokevirtual 35, 3) := by decide +kernel
theorem pd_3 : parseMethodDescriptor "()I" = some ⟨[], some .int⟩ := by decide +kernel
theorem d3_4 : decode prog_13_method_6_code 4 = .ok (.tableswitch 32 0 3 #[42, 42, 48, 54], 32) := by decide +kernel
theorem d3_46 : decode prog_13_method_6_code 46 = .ok (.getstatic 3, 3) := by decide +kernel
theorem d3_49 : decode prog_13_method_6_code 49 = .ok (.goto 10, 3) := by decide +kernel
theorem d3_59 : decode prog_13_method_6_code 59 = .ok (.areturn, 1) := by decide +kernel
theorem d3_52 : decode prog_13_method_6_code 52 = .ok (.getstatic 10, 3) := by decide +kernel
theorem d3_55 : decode prog_13_method_6_code 55 = .ok (.goto 4, 3) := by decide +kernel
theorem d3_58 : decode prog_13_method_6_code 58 = .ok (.aconst_null, 1) := by decide +kernel
def Q3 (Z : State) (ob : Addr) (kk : Int32) (a1 : Addr) (a3 : Addr) (h0 : Heap) (n0 : Nat) (v : Option Value) (h : Heap) (L : List Loc) : Prop := v = some (own_rp kk a1 a3) ∧ Fr n0 L ∧ h = h0
set_option maxRecDepth 65536 in
set_option maxHeartbeats 40000000 in
theorem rm3 (l : Launch) (Z : State) (a0 : Array Value) (hw : ∀ d ∈ tables_1, d.before a0 Z = true) (ws : List Jvm.Cond) (ob : Addr) (kk : Int32) (a1 : Addr) (a3 : Addr) (h0 : Heap) (n0 : Nat) (Zle : n0 ≤ h0.size) (E_ob : Exa Z h0 ob "com/example/hermit_crab/hermitcrab/engine/LockMode") (F_ordinal_ob : Fld Z h0 ob "java/lang/Enum" "ordinal" "I" (.int kk)) (S_SHARED : Sta Z h0 "com/example/hermit_crab/hermitcrab/engine/LockMode" "SHARED" "Lcom/example/hermit_crab/hermitcrab/engine/LockMode;" (.ref a1)) (S_RANGE_SHARED : Sta Z h0 "com/example/hermit_crab/hermitcrab/engine/LockMode" "RANGE_SHARED" "Lcom/example/hermit_crab/hermitcrab/engine/LockMode;" (.ref a3)) (hk : kk = 0 ∨ kk = 1 ∨ kk = 2 ∨ kk = 3) :
    MetFree l (⟨"com/example/hermit_crab/hermitcrab/engine/LockMode", "readPart", "()Lcom/example/hermit_crab/hermitcrab/engine/LockMode;"⟩ : MethodName) (head1 (Jvm.Cond.code (⟨"com/example/hermit_crab/hermitcrab/engine/LockMode", "readPart", "()Lcom/example/hermit_crab/hermitcrab/engine/LockMode;"⟩ : MethodName) prog_13_method_6_code 1 (some (.object "com/example/hermit_crab/hermitcrab/engine/LockMode")) :: ws) ({ frames := 1, cells := 0, slots := 0, locals := 12 } : Room)) (fun a U => a = #[(.ref ob)] ∧ Z.Warmed39 U.vm ∧ U.heap = h0) (fun _ _ _ _ _ => True) (fun _ U o U' => ∃ v L, o = .returned v ∧ Q3 Z ob kk a1 a3 h0 n0 v U'.heap L ∧ FrameEnd U o U' L ({ frames := 1, cells := 0, slots := 0, locals := 12 } : Room).cells ({ frames := 1, cells := 0, slots := 0, locals := 12 } : Room).slots) := by
  refine MetFree.of_bodySF (plainFor_of_name pn_com_example_hermit_crab_hermitcrab_engine_LockMode) hisR ?_
  intro p e s m args below meth c s₁ Bd hml0 hP hK
  obtain ⟨rfl, hZ, hh⟩ := hP
  have hx := Bd.exec
  have hby := Bd.bytes
  have hml : c.maxLocals = 1 := hml0
  have hown : s.vm.findClass "com/example/hermit_crab/hermitcrab/engine/LockMode" = some m.cls := findClass_of_methodNamed Bd.named
  have hnm := (name_of_methodNamed Bd.named Bd.method).1
  have X0 : Stand p l e ({ frames := 1, cells := 0, slots := 0, locals := 12 } : Room) s m #[(.ref ob)] below meth c s₁ [] 0 0 := Stand.of_body Bd
  have e0 : s₁.heap = h0 := by rw [← hh, Bd.state]; rfl
  have N_ := Fr.nil n0
  show own_Goes p.tables e below s (Q3 Z ob kk a1 a3 h0 n0) ({ frames := 1, cells := 0, slots := 0, locals := 12 } : Room).cells ({ frames := 1, cells := 0, slots := 0, locals := 12 } : Room).slots s₁ (entryFrame m #[(.ref ob)] 1)
  refine own_by (T' := s₁) (g' := (mkF m 0 #[.val (.ref ob)] [])) (fun t k => castTop (ef_3 m ob) k) ?_
  refine own_by (T' := s₁) (g' := (mkF m 1 #[.val (.ref ob)] [(.ref ob)])) (fun t k => XS.aloadN X0.here hx rfl (hb hby d3_0) rfl rfl k) ?_
  obtain ⟨cq1, kq1, q1a, q1b, q1c⟩ := isOf hZ e0 E_ob
  obtain ⟨_, _, ⟨T1, L1, k1, n1⟩, -, X1, ⟨Lc1, hQ1, l1, y1, z1⟩, st1⟩ := X0.virtualBackUp hx (x := (⟨"com/example/hermit_crab/hermitcrab/engine/LockMode", "ordinal", "()I"⟩ : MethodName)) (y := (⟨"java/lang/Enum", "ordinal", "()I"⟩ : MethodName)) (owner := "java/lang/Enum") hown (mvT hZ (hw _ (own_m 22 rfl))) (mvT hZ (hw _ (own_m 23 rfl))) (mvT hZ (hw _ (own_m 24 rfl))) (by decide) (mvT hZ (hw _ (own_m 26 rfl))) (mvT hZ (hw _ (own_m 25 rfl))) (backOf (W := 0) (rm4 l Z a0 hw [] ob kk h0 n0 Zle F_ordinal_ob) hZ (hw _ (own_m 28 rfl)) (hw _ (own_m 27 rfl)) (by decide) (by decide)) q1a q1c (g := (mkF m 1 #[.val (.ref ob)] [(.ref ob)])) rfl (by rw [hml]; rfl) (Steps.refl _) (argsL := []) (rest := []) (lenOf pd_3 rfl) rfl (own_le rfl) (hb hby d3_1) (fun _ _ => ⟨rfl, e0, (by decide : 0 + 0 ≤ _), (by decide : 0 + 0 ≤ _)⟩)
  dsimp only [Pt.U, Pt.locs, Pt.cells, Pt.slots] at X1 l1 y1 z1 st1 hQ1
  subst l1 y1 z1
  obtain ⟨rfl, Nq1, e1⟩ := hQ1
  have N_ := Fr.app N_ Nq1
  refine own_by (T' := T1) (g' := (mkF m 4 #[.val (.ref ob)] [(.int kk)])) (fun t k => st1.trans k) ?_
  rcases hk with rfl | rfl | rfl | rfl
  · refine own_by (T' := T1) (g' := (mkF m 46 #[.val (.ref ob)] [])) (fun t k => XS.tswIn X1.here hx rfl (pc0 := 4) (pc' := 46) rfl (hb hby d3_4) rfl (by decide) (o := 42) (by first | rfl | decide) (by decide) (by decide) k) ?_
    obtain ⟨T2, X2, e2, st2⟩ := getS2 X1 hx hZ hown (host := "") (Or.inl (hw _ (own_m 31 rfl))) Via.refl e1 S_SHARED (g := (mkF m 46 #[.val (.ref ob)] [])) rfl (hb hby d3_46)
    refine own_by (T' := T2) (g' := (mkF m 49 #[.val (.ref ob)] [(.ref a1)])) (fun t k => st2 t k) ?_
    refine own_by (T' := T2) (g' := (mkF m 59 #[.val (.ref ob)] [(.ref a1)])) (fun t k => XS.goto X2.here hx rfl (pc0 := 49) (pc' := 59) rfl (hb hby d3_49) (by decide) (by decide) k) ?_
    exact own_retA X2 hx (t := (.object "com/example/hermit_crab/hermitcrab/engine/LockMode")) Bd.notSynchronized Bd.returns rfl rfl rfl (hb hby d3_59) (by decide) (by decide) (by rw [e2]; exact ⟨rfl, N_, rfl⟩)
  · refine own_by (T' := T1) (g' := (mkF m 46 #[.val (.ref ob)] [])) (fun t k => XS.tswIn X1.here hx rfl (pc0 := 4) (pc' := 46) rfl (hb hby d3_4) rfl (by decide) (o := 42) (by first | rfl | decide) (by decide) (by decide) k) ?_
    obtain ⟨T3, X3, e3, st3⟩ := getS2 X1 hx hZ hown (host := "") (Or.inl (hw _ (own_m 31 rfl))) Via.refl e1 S_SHARED (g := (mkF m 46 #[.val (.ref ob)] [])) rfl (hb hby d3_46)
    refine own_by (T' := T3) (g' := (mkF m 49 #[.val (.ref ob)] [(.ref a1)])) (fun t k => st3 t k) ?_
    refine own_by (T' := T3) (g' := (mkF m 59 #[.val (.ref ob)] [(.ref a1)])) (fun t k => XS.goto X3.here hx rfl (pc0 := 49) (pc' := 59) rfl (hb hby d3_49) (by decide) (by decide) k) ?_
    exact own_retA X3 hx (t := (.object "com/example/hermit_crab/hermitcrab/engine/LockMode")) Bd.notSynchronized Bd.returns rfl rfl rfl (hb hby d3_59) (by decide) (by decide) (by rw [e3]; exact ⟨rfl, N_, rfl⟩)
  · refine own_by (T' := T1) (g' := (mkF m 52 #[.val (.ref ob)] [])) (fun t k => XS.tswIn X1.here hx rfl (pc0 := 4) (pc' := 52) rfl (hb hby d3_4) rfl (by decide) (o := 48) (by first | rfl | decide) (by decide) (by decide) k) ?_
    obtain ⟨T4, X4, e4, st4⟩ := getS2 X1 hx hZ hown (host := "") (Or.inl (hw _ (own_m 14 rfl))) Via.refl e1 S_RANGE_SHARED (g := (mkF m 52 #[.val (.ref ob)] [])) rfl (hb hby d3_52)
    refine own_by (T' := T4) (g' := (mkF m 55 #[.val (.ref ob)] [(.ref a3)])) (fun t k => st4 t k) ?_
    refine own_by (T' := T4) (g' := (mkF m 59 #[.val (.ref ob)] [(.ref a3)])) (fun t k => XS.goto X4.here hx rfl (pc0 := 55) (pc' := 59) rfl (hb hby d3_55) (by decide) (by decide) k) ?_
    exact own_retA X4 hx (t := (.object "com/example/hermit_crab/hermitcrab/engine/LockMode")) Bd.notSynchronized Bd.returns rfl rfl rfl (hb hby d3_59) (by decide) (by decide) (by rw [e4]; exact ⟨rfl, N_, rfl⟩)
  · refine own_by (T' := T1) (g' := (mkF m 58 #[.val (.ref ob)] [])) (fun t k => XS.tswIn X1.here hx rfl (pc0 := 4) (pc' := 58) rfl (hb hby d3_4) rfl (by decide) (o := 54) (by first | rfl | decide) (by decide) (by decide) k) ?_
    refine own_by (T' := T1) (g' := (mkF m 59 #[.val (.ref ob)] [.null])) (fun t k => XS.aconstNull X1.here hx rfl (hb hby d3_58) k) ?_
    exact own_retA X1 hx (t := (.object "com/example/hermit_crab/hermitcrab/engine/LockMode")) Bd.notSynchronized Bd.returns rfl rfl rfl (hb hby d3_59) (by decide) (by decide) (by rw [e1]; exact ⟨rfl, N_, rfl⟩)

theorem ef_5 (m : MethodId) (ob : Addr) (qb : Addr) : entryFrame m #[(.ref ob), (.ref qb)] 2 = mkF m 0 #[.val (.ref ob), .val (.ref qb)] [] := by first | (simp [entryFrame, mkF, argsToLocals, Value.category]; done) | rfl
theorem d5_0 : decode prog_13_method_4_code 0 = .ok (.aload_n 0, 1) := by decide +kernel
theorem d5_1 : decode prog_13_method_4_code 1 = .ok (.invokevirtual 35, 3) := by decide +kernel
theorem d5_4 : decode prog_13_method_4_code 4 = .ok (.tableswitch 32 0 3 #[42, 57, 79, 94], 32) := by decide +kernel
theorem d5_46 : decode prog_13_method_4_code 46 = .ok (.aload_n 1, 1) := by decide +kernel
theorem d5_47 : decode prog_13_method_4_code 47 = .ok (.getstatic 7, 3) := by decide +kernel
theorem d5_50 : decode prog_13_method_4_code 50 = .ok (.if_acmp .ne 7, 3) := by decide +kernel
theorem d5_53 : decode prog_13_method_4_code 53 = .ok (.iconst 1, 1) := by decide +kernel
theorem d5_54 : decode prog_13_method_4_code 54 = .ok (.goto 56, 3) := by decide +kernel
theorem d5_110 : decode prog_13_method_4_code 110 = .ok (.ireturn, 1) := by decide +kernel
theorem d5_57 : decode prog_13_method_4_code 57 = .ok (.iconst 0, 1) := by decide +kernel
theorem d5_58 : decode prog_13_method_4_code 58 = .ok (.goto 52, 3) := by decide +kernel
theorem d5_61 : decode prog_13_method_4_code 61 = .ok (.aload_n 1, 1) := by decide +kernel
theorem d5_62 : decode prog_13_method_4_code 62 = .ok (.getstatic 3, 3) := by decide +kernel
theorem d5_65 : decode prog_13_method_4_code 65 = .ok (.if_acmp .eq 10, 3) := by decide +kernel
theorem d5_75 : decode prog_13_method_4_code 75 = .ok (.iconst 1, 1) := by decide +kernel
theorem d5_76 : decode prog_13_method_4_code 76 = .ok (.goto 34, 3) := by decide +kernel
theorem d5_68 : decode prog_13_method_4_code 68 = .ok (.aload_n 1, 1) := by decide +kernel
theorem d5_69 : decode prog_13_method_4_code 69 = .ok (.getstatic 7, 3) := by decide +kernel
theorem d5_72 : decode prog_13_method_4_code 72 = .ok (.if_acmp .ne 7, 3) := by decide +kernel
theorem d5_79 : decode prog_13_method_4_code 79 = .ok (.iconst 0, 1) := by decide +kernel
theorem d5_80 : decode prog_13_method_4_code 80 = .ok (.goto 30, 3) := by decide +kernel
theorem d5_83 : decode prog_13_method_4_code 83 = .ok (.aload_n 1, 1) := by decide +kernel
theorem d5_84 : decode prog_13_method_4_code 84 = .ok (.getstatic 13, 3) := by decide +kernel
theorem d5_87 : decode prog_13_method_4_code 87 = .ok (.if_acmp .ne 7, 3) := by decide +kernel
theorem d5_90 : decode prog_13_method_4_code 90 = .ok (.iconst 1, 1) := by decide +kernel
theorem d5_91 : decode prog_13_method_4_code 91 = .ok (.goto 19, 3) := by decide +kernel
theorem d5_94 : decode prog_13_method_4_code 94 = .ok (.iconst 0, 1) := by decide +kernel
theorem d5_95 : decode prog_13_method_4_code 95 = .ok (.goto 15, 3) := by decide +kernel
theorem d5_98 : decode prog_13_method_4_code 98 = .ok (.aload_n 1, 1) := by decide +kernel
theorem d5_99 : decode prog_13_method_4_code 99 = .ok (.getstatic 10, 3) := by decide +kernel
theorem d5_102 : decode prog_13_method_4_code 102 = .ok (.if_acmp .ne 7, 3) := by decide +kernel
theorem d5_105 : decode prog_13_method_4_code 105 = .ok (.iconst 1, 1) := by decide +kernel
theorem d5_106 : decode prog_13_method_4_code 106 = .ok (.goto 4, 3) := by decide +kernel
theorem d5_109 : decode prog_13_method_4_code 109 = .ok (.iconst 0, 1) := by decide +kernel
def Q5 (Z : State) (ob : Addr) (qb : Addr) (kk : Int32) (a1 : Addr) (a2 : Addr) (a3 : Addr) (a4 : Addr) (h0 : Heap) (n0 : Nat) (v : Option Value) (h : Heap) (L : List Loc) : Prop := v = some (.int (own_cf kk qb a1 a2 a3 a4)) ∧ Fr n0 L ∧ h = h0
set_option maxRecDepth 65536 in
set_option maxHeartbeats 40000000 in
theorem rm5 (l : Launch) (Z : State) (a0 : Array Value) (hw : ∀ d ∈ tables_1, d.before a0 Z = true) (ws : List Jvm.Cond) (ob : Addr) (qb : Addr) (kk : Int32) (a1 : Addr) (a2 : Addr) (a3 : Addr) (a4 : Addr) (h0 : Heap) (n0 : Nat) (Zle : n0 ≤ h0.size) (E_ob : Exa Z h0 ob "com/example/hermit_crab/hermitcrab/engine/LockMode") (F_ordinal_ob : Fld Z h0 ob "java/lang/Enum" "ordinal" "I" (.int kk)) (S_SHARED : Sta Z h0 "com/example/hermit_crab/hermitcrab/engine/LockMode" "SHARED" "Lcom/example/hermit_crab/hermitcrab/engine/LockMode;" (.ref a1)) (S_EXCLUSIVE : Sta Z h0 "com/example/hermit_crab/hermitcrab/engine/LockMode" "EXCLUSIVE" "Lcom/example/hermit_crab/hermitcrab/engine/LockMode;" (.ref a2)) (S_RANGE_SHARED : Sta Z h0 "com/example/hermit_crab/hermitcrab/engine/LockMode" "RANGE_SHARED" "Lcom/example/hermit_crab/hermitcrab/engine/LockMode;" (.ref a3)) (S_RANGE_INSERT : Sta Z h0 "com/example/hermit_crab/hermitcrab/engine/LockMode" "RANGE_INSERT" "Lcom/example/hermit_crab/hermitcrab/engine/LockMode;" (.ref a4)) (hk : kk = 0 ∨ kk = 1 ∨ kk = 2 ∨ kk = 3) :
    MetFree l (⟨"com/example/hermit_crab/hermitcrab/engine/LockMode", "conflictsWith", "(Lcom/example/hermit_crab/hermitcrab/engine/LockMode;)Z"⟩ : MethodName) (head1 (Jvm.Cond.code (⟨"com/example/hermit_crab/hermitcrab/engine/LockMode", "conflictsWith", "(Lcom/example/hermit_crab/hermitcrab/engine/LockMode;)Z"⟩ : MethodName) prog_13_method_4_code 2 (some .boolean) :: ws) ({ frames := 1, cells := 0, slots := 0, locals := 12 } : Room)) (fun a U => a = #[(.ref ob), (.ref qb)] ∧ Z.Warmed39 U.vm ∧ U.heap = h0) (fun _ _ _ _ _ => True) (fun _ U o U' => ∃ v L, o = .returned v ∧ Q5 Z ob qb kk a1 a2 a3 a4 h0 n0 v U'.heap L ∧ FrameEnd U o U' L ({ frames := 1, cells := 0, slots := 0, locals := 12 } : Room).cells ({ frames := 1, cells := 0, slots := 0, locals := 12 } : Room).slots) := by
  refine MetFree.of_bodySF (plainFor_of_name pn_com_example_hermit_crab_hermitcrab_engine_LockMode) hisR ?_
  intro p e s m args below meth c s₁ Bd hml0 hP hK
  obtain ⟨rfl, hZ, hh⟩ := hP
  have hx := Bd.exec
  have hby := Bd.bytes
  have hml : c.maxLocals = 2 := hml0
  have hown : s.vm.findClass "com/example/hermit_crab/hermitcrab/engine/LockMode" = some m.cls := findClass_of_methodNamed Bd.named
  have hnm := (name_of_methodNamed Bd.named Bd.method).1
  have X0 : Stand p l e ({ frames := 1, cells := 0, slots := 0, locals := 12 } : Room) s m #[(.ref ob), (.ref qb)] below meth c s₁ [] 0 0 := Stand.of_body Bd
  have e0 : s₁.heap = h0 := by rw [← hh, Bd.state]; rfl
  have N_ := Fr.nil n0
  show own_Goes p.tables e below s (Q5 Z ob qb kk a1 a2 a3 a4 h0 n0) ({ frames := 1, cells := 0, slots := 0, locals := 12 } : Room).cells ({ frames := 1, cells := 0, slots := 0, locals := 12 } : Room).slots s₁ (entryFrame m #[(.ref ob), (.ref qb)] 2)
  refine own_by (T' := s₁) (g' := (mkF m 0 #[.val (.ref ob), .val (.ref qb)] [])) (fun t k => castTop (ef_5 m ob qb) k) ?_
  refine own_by (T' := s₁) (g' := (mkF m 1 #[.val (.ref ob), .val (.ref qb)] [(.ref ob)])) (fun t k => XS.aloadN X0.here hx rfl (hb hby d5_0) rfl rfl k) ?_
  obtain ⟨cq1, kq1, q1a, q1b, q1c⟩ := isOf hZ e0 E_ob
  obtain ⟨_, _, ⟨T1, L1, k1, n1⟩, -, X1, ⟨Lc1, hQ1, l1, y1, z1⟩, st1⟩ := X0.virtualBackUp hx (x := (⟨"com/example/hermit_crab/hermitcrab/engine/LockMode", "ordinal", "()I"⟩ : MethodName)) (y := (⟨"java/lang/Enum", "ordinal", "()I"⟩ : MethodName)) (owner := "java/lang/Enum") hown (mvT hZ (hw _ (own_m 22 rfl))) (mvT hZ (hw _ (own_m 23 rfl))) (mvT hZ (hw _ (own_m 24 rfl))) (by decide) (mvT hZ (hw _ (own_m 26 rfl))) (mvT hZ (hw _ (own_m 25 rfl))) (backOf (W := 0) (rm4 l Z a0 hw [] ob kk h0 n0 Zle F_ordinal_ob) hZ (hw _ (own_m 28 rfl)) (hw _ (own_m 27 rfl)) (by decide) (by decide)) q1a q1c (g := (mkF m 1 #[.val (.ref ob), .val (.ref qb)] [(.ref ob)])) rfl (by rw [hml]; rfl) (Steps.refl _) (argsL := []) (rest := []) (lenOf pd_3 rfl) rfl (own_le rfl) (hb hby d5_1) (fun _ _ => ⟨rfl, e0, (by decide : 0 + 0 ≤ _), (by decide : 0 + 0 ≤ _)⟩)
  dsimp only [Pt.U, Pt.locs, Pt.cells, Pt.slots] at X1 l1 y1 z1 st1 hQ1
  subst l1 y1 z1
  obtain ⟨rfl, Nq1, e1⟩ := hQ1
  have N_ := Fr.app N_ Nq1
  refine own_by (T' := T1) (g' := (mkF m 4 #[.val (.ref ob), .val (.ref qb)] [(.int kk)])) (fun t k => st1.trans k) ?_
  rcases hk with rfl | rfl | rfl | rfl
  · refine own_by (T' := T1) (g' := (mkF m 46 #[.val (.ref ob), .val (.ref qb)] [])) (fun t k => XS.tswIn X1.here hx rfl (pc0 := 4) (pc' := 46) rfl (hb hby d5_4) rfl (by decide) (o := 42) (by first | rfl | decide) (by decide) (by decide) k) ?_
    refine own_by (T' := T1) (g' := (mkF m 47 #[.val (.ref ob), .val (.ref qb)] [(.ref qb)])) (fun t k => XS.aloadN X1.here hx rfl (hb hby d5_46) rfl rfl k) ?_
    obtain ⟨T2, X2, e2, st2⟩ := getS2 X1 hx hZ hown (host := "") (Or.inl (hw _ (own_m 37 rfl))) Via.refl e1 S_EXCLUSIVE (g := (mkF m 47 #[.val (.ref ob), .val (.ref qb)] [(.ref qb)])) rfl (hb hby d5_47)
    refine own_by (T' := T2) (g' := (mkF m 50 #[.val (.ref ob), .val (.ref qb)] [(.ref a2), (.ref qb)])) (fun t k => st2 t k) ?_
    by_cases hc50_3 : qb = a2
    · refine own_by (T' := T2) (g' := (mkF m 53 #[.val (.ref ob), .val (.ref qb)] [])) (fun t k => Jvm.RoadKit.acmp (g := (mkF m 50 #[.val (.ref ob), .val (.ref qb)] [(.ref a2), (.ref qb)])) X2 hx rfl rfl rfl (pc0 := 50) (pc' := 53) (same := true) rfl (hb hby d5_50) rfl (decide_eq_true (congrArg Value.ref hc50_3)) (by decide) (by decide) k) ?_
      refine own_by (T' := T2) (g' := (mkF m 54 #[.val (.ref ob), .val (.ref qb)] [(.int 1)])) (fun t k => XS.iconst X2.here hx rfl (hb hby d5_53) k) ?_
      refine own_by (T' := T2) (g' := (mkF m 110 #[.val (.ref ob), .val (.ref qb)] [(.int 1)])) (fun t k => XS.goto X2.here hx rfl (pc0 := 54) (pc' := 110) rfl (hb hby d5_54) (by decide) (by decide) k) ?_
      exact own_retN X2 hx (t := .boolean) Bd.notSynchronized Bd.returns (by simp) (hb hby d5_110) (by decide) (by decide) (by rw [e2]; exact ⟨by simp [own_cf, hc50_3]; rfl, N_, rfl⟩)
    · refine own_by (T' := T2) (g' := (mkF m 57 #[.val (.ref ob), .val (.ref qb)] [])) (fun t k => Jvm.RoadKit.acmp (g := (mkF m 50 #[.val (.ref ob), .val (.ref qb)] [(.ref a2), (.ref qb)])) X2 hx rfl rfl rfl (pc0 := 50) (pc' := 57) (same := false) rfl (hb hby d5_50) rfl (decide_eq_false fun q => hc50_3 (Value.ref.inj q)) (by decide) (by decide) k) ?_
      refine own_by (T' := T2) (g' := (mkF m 58 #[.val (.ref ob), .val (.ref qb)] [(.int 0)])) (fun t k => XS.iconst X2.here hx rfl (hb hby d5_57) k) ?_
      refine own_by (T' := T2) (g' := (mkF m 110 #[.val (.ref ob), .val (.ref qb)] [(.int 0)])) (fun t k => XS.goto X2.here hx rfl (pc0 := 58) (pc' := 110) rfl (hb hby d5_58) (by decide) (by decide) k) ?_
      exact own_retN X2 hx (t := .boolean) Bd.notSynchronized Bd.returns (by simp) (hb hby d5_110) (by decide) (by decide) (by rw [e2]; exact ⟨by simp [own_cf, hc50_3]; rfl, N_, rfl⟩)
  · refine own_by (T' := T1) (g' := (mkF m 61 #[.val (.ref ob), .val (.ref qb)] [])) (fun t k => XS.tswIn X1.here hx rfl (pc0 := 4) (pc' := 61) rfl (hb hby d5_4) rfl (by decide) (o := 57) (by first | rfl | decide) (by decide) (by decide) k) ?_
    refine own_by (T' := T1) (g' := (mkF m 62 #[.val (.ref ob), .val (.ref qb)] [(.ref qb)])) (fun t k => XS.aloadN X1.here hx rfl (hb hby d5_61) rfl rfl k) ?_
    obtain ⟨T4, X4, e4, st4⟩ := getS2 X1 hx hZ hown (host := "") (Or.inl (hw _ (own_m 31 rfl))) Via.refl e1 S_SHARED (g := (mkF m 62 #[.val (.ref ob), .val (.ref qb)] [(.ref qb)])) rfl (hb hby d5_62)
    refine own_by (T' := T4) (g' := (mkF m 65 #[.val (.ref ob), .val (.ref qb)] [(.ref a1), (.ref qb)])) (fun t k => st4 t k) ?_
    by_cases hc65_5 : qb = a1
    · refine own_by (T' := T4) (g' := (mkF m 75 #[.val (.ref ob), .val (.ref qb)] [])) (fun t k => Jvm.RoadKit.acmp (g := (mkF m 65 #[.val (.ref ob), .val (.ref qb)] [(.ref a1), (.ref qb)])) X4 hx rfl rfl rfl (pc0 := 65) (pc' := 75) (same := true) rfl (hb hby d5_65) rfl (decide_eq_true (congrArg Value.ref hc65_5)) (by decide) (by decide) k) ?_
      refine own_by (T' := T4) (g' := (mkF m 76 #[.val (.ref ob), .val (.ref qb)] [(.int 1)])) (fun t k => XS.iconst X4.here hx rfl (hb hby d5_75) k) ?_
      refine own_by (T' := T4) (g' := (mkF m 110 #[.val (.ref ob), .val (.ref qb)] [(.int 1)])) (fun t k => XS.goto X4.here hx rfl (pc0 := 76) (pc' := 110) rfl (hb hby d5_76) (by decide) (by decide) k) ?_
      exact own_retN X4 hx (t := .boolean) Bd.notSynchronized Bd.returns (by simp) (hb hby d5_110) (by decide) (by decide) (by rw [e4]; exact ⟨by simp [own_cf, hc65_5]; rfl, N_, rfl⟩)
    · refine own_by (T' := T4) (g' := (mkF m 68 #[.val (.ref ob), .val (.ref qb)] [])) (fun t k => Jvm.RoadKit.acmp (g := (mkF m 65 #[.val (.ref ob), .val (.ref qb)] [(.ref a1), (.ref qb)])) X4 hx rfl rfl rfl (pc0 := 65) (pc' := 68) (same := false) rfl (hb hby d5_65) rfl (decide_eq_false fun q => hc65_5 (Value.ref.inj q)) (by decide) (by decide) k) ?_
      refine own_by (T' := T4) (g' := (mkF m 69 #[.val (.ref ob), .val (.ref qb)] [(.ref qb)])) (fun t k => XS.aloadN X4.here hx rfl (hb hby d5_68) rfl rfl k) ?_
      obtain ⟨T6, X6, e6, st6⟩ := getS2 X4 hx hZ hown (host := "") (Or.inl (hw _ (own_m 37 rfl))) Via.refl e4 S_EXCLUSIVE (g := (mkF m 69 #[.val (.ref ob), .val (.ref qb)] [(.ref qb)])) rfl (hb hby d5_69)
      refine own_by (T' := T6) (g' := (mkF m 72 #[.val (.ref ob), .val (.ref qb)] [(.ref a2), (.ref qb)])) (fun t k => st6 t k) ?_
      by_cases hc72_7 : qb = a2
      · refine own_by (T' := T6) (g' := (mkF m 75 #[.val (.ref ob), .val (.ref qb)] [])) (fun t k => Jvm.RoadKit.acmp (g := (mkF m 72 #[.val (.ref ob), .val (.ref qb)] [(.ref a2), (.ref qb)])) X6 hx rfl rfl rfl (pc0 := 72) (pc' := 75) (same := true) rfl (hb hby d5_72) rfl (decide_eq_true (congrArg Value.ref hc72_7)) (by decide) (by decide) k) ?_
        refine own_by (T' := T6) (g' := (mkF m 76 #[.val (.ref ob), .val (.ref qb)] [(.int 1)])) (fun t k => XS.iconst X6.here hx rfl (hb hby d5_75) k) ?_
        refine own_by (T' := T6) (g' := (mkF m 110 #[.val (.ref ob), .val (.ref qb)] [(.int 1)])) (fun t k => XS.goto X6.here hx rfl (pc0 := 76) (pc' := 110) rfl (hb hby d5_76) (by decide) (by decide) k) ?_
        exact own_retN X6 hx (t := .boolean) Bd.notSynchronized Bd.returns (by simp) (hb hby d5_110) (by decide) (by decide) (by rw [e6]; exact ⟨by simp [own_cf, hc65_5, hc72_7]; rfl, N_, rfl⟩)
      · refine own_by (T' := T6) (g' := (mkF m 79 #[.val (.ref ob), .val (.ref qb)] [])) (fun t k => Jvm.RoadKit.acmp (g := (mkF m 72 #[.val (.ref ob), .val (.ref qb)] [(.ref a2), (.ref qb)])) X6 hx rfl rfl rfl (pc0 := 72) (pc' := 79) (same := false) rfl (hb hby d5_72) rfl (decide_eq_false fun q => hc72_7 (Value.ref.inj q)) (by decide) (by decide) k) ?_
        refine own_by (T' := T6) (g' := (mkF m 80 #[.val (.ref ob), .val (.ref qb)] [(.int 0)])) (fun t k => XS.iconst X6.here hx rfl (hb hby d5_79) k) ?_
        refine own_by (T' := T6) (g' := (mkF m 110 #[.val (.ref ob), .val (.ref qb)] [(.int 0)])) (fun t k => XS.goto X6.here hx rfl (pc0 := 80) (pc' := 110) rfl (hb hby d5_80) (by decide) (by decide) k) ?_
        exact own_retN X6 hx (t := .boolean) Bd.notSynchronized Bd.returns (by simp) (hb hby d5_110) (by decide) (by decide) (by rw [e6]; exact ⟨by simp [own_cf, hc65_5, hc72_7]; rfl, N_, rfl⟩)
  · refine own_by (T' := T1) (g' := (mkF m 83 #[.val (.ref ob), .val (.ref qb)] [])) (fun t k => XS.tswIn X1.here hx rfl (pc0 := 4) (pc' := 83) rfl (hb hby d5_4) rfl (by decide) (o := 79) (by first | rfl | decide) (by decide) (by decide) k) ?_
    refine own_by (T' := T1) (g' := (mkF m 84 #[.val (.ref ob), .val (.ref qb)] [(.ref qb)])) (fun t k => XS.aloadN X1.here hx rfl (hb hby d5_83) rfl rfl k) ?_
    obtain ⟨T8, X8, e8, st8⟩ := getS2 X1 hx hZ hown (host := "") (Or.inl (hw _ (own_m 16 rfl))) Via.refl e1 S_RANGE_INSERT (g := (mkF m 84 #[.val (.ref ob), .val (.ref qb)] [(.ref qb)])) rfl (hb hby d5_84)
    refine own_by (T' := T8) (g' := (mkF m 87 #[.val (.ref ob), .val (.ref qb)] [(.ref a4), (.ref qb)])) (fun t k => st8 t k) ?_
    by_cases hc87_9 : qb = a4
    · refine own_by (T' := T8) (g' := (mkF m 90 #[.val (.ref ob), .val (.ref qb)] [])) (fun t k => Jvm.RoadKit.acmp (g := (mkF m 87 #[.val (.ref ob), .val (.ref qb)] [(.ref a4), (.ref qb)])) X8 hx rfl rfl rfl (pc0 := 87) (pc' := 90) (same := true) rfl (hb hby d5_87) rfl (decide_eq_true (congrArg Value.ref hc87_9)) (by decide) (by decide) k) ?_
      refine own_by (T' := T8) (g' := (mkF m 91 #[.val (.ref ob), .val (.ref qb)] [(.int 1)])) (fun t k => XS.iconst X8.here hx rfl (hb hby d5_90) k) ?_
      refine own_by (T' := T8) (g' := (mkF m 110 #[.val (.ref ob), .val (.ref qb)] [(.int 1)])) (fun t k => XS.goto X8.here hx rfl (pc0 := 91) (pc' := 110) rfl (hb hby d5_91) (by decide) (by decide) k) ?_
      exact own_retN X8 hx (t := .boolean) Bd.notSynchronized Bd.returns (by simp) (hb hby d5_110) (by decide) (by decide) (by rw [e8]; exact ⟨by simp [own_cf, hc87_9]; rfl, N_, rfl⟩)
    · refine own_by (T' := T8) (g' := (mkF m 94 #[.val (.ref ob), .val (.ref qb)] [])) (fun t k => Jvm.RoadKit.acmp (g := (mkF m 87 #[.val (.ref ob), .val (.ref qb)] [(.ref a4), (.ref qb)])) X8 hx rfl rfl rfl (pc0 := 87) (pc' := 94) (same := false) rfl (hb hby d5_87) rfl (decide_eq_false fun q => hc87_9 (Value.ref.inj q)) (by decide) (by decide) k) ?_
      refine own_by (T' := T8) (g' := (mkF m 95 #[.val (.ref ob), .val (.ref qb)] [(.int 0)])) (fun t k => XS.iconst X8.here hx rfl (hb hby d5_94) k) ?_
      refine own_by (T' := T8) (g' := (mkF m 110 #[.val (.ref ob), .val (.ref qb)] [(.int 0)])) (fun t k => XS.goto X8.here hx rfl (pc0 := 95) (pc' := 110) rfl (hb hby d5_95) (by decide) (by decide) k) ?_
      exact own_retN X8 hx (t := .boolean) Bd.notSynchronized Bd.returns (by simp) (hb hby d5_110) (by decide) (by decide) (by rw [e8]; exact ⟨by simp [own_cf, hc87_9]; rfl, N_, rfl⟩)
  · refine own_by (T' := T1) (g' := (mkF m 98 #[.val (.ref ob), .val (.ref qb)] [])) (fun t k => XS.tswIn X1.here hx rfl (pc0 := 4) (pc' := 98) rfl (hb hby d5_4) rfl (by decide) (o := 94) (by first | rfl | decide) (by decide) (by decide) k) ?_
    refine own_by (T' := T1) (g' := (mkF m 99 #[.val (.ref ob), .val (.ref qb)] [(.ref qb)])) (fun t k => XS.aloadN X1.here hx rfl (hb hby d5_98) rfl rfl k) ?_
    obtain ⟨T10, X10, e10, st10⟩ := getS2 X1 hx hZ hown (host := "") (Or.inl (hw _ (own_m 14 rfl))) Via.refl e1 S_RANGE_SHARED (g := (mkF m 99 #[.val (.ref ob), .val (.ref qb)] [(.ref qb)])) rfl (hb hby d5_99)
    refine own_by (T' := T10) (g' := (mkF m 102 #[.val (.ref ob), .val (.ref qb)] [(.ref a3), (.ref qb)])) (fun t k => st10 t k) ?_
    by_cases hc102_11 : qb = a3
    · refine own_by (T' := T10) (g' := (mkF m 105 #[.val (.ref ob), .val (.ref qb)] [])) (fun t k => Jvm.RoadKit.acmp (g := (mkF m 102 #[.val (.ref ob), .val (.ref qb)] [(.ref a3), (.ref qb)])) X10 hx rfl rfl rfl (pc0 := 102) (pc' := 105) (same := true) rfl (hb hby d5_102) rfl (decide_eq_true (congrArg Value.ref hc102_11)) (by decide) (by decide) k) ?_
      refine own_by (T' := T10) (g' := (mkF m 106 #[.val (.ref ob), .val (.ref qb)] [(.int 1)])) (fun t k => XS.iconst X10.here hx rfl (hb hby d5_105) k) ?_
      refine own_by (T' := T10) (g' := (mkF m 110 #[.val (.ref ob), .val (.ref qb)] [(.int 1)])) (fun t k => XS.goto X10.here hx rfl (pc0 := 106) (pc' := 110) rfl (hb hby d5_106) (by decide) (by decide) k) ?_
      exact own_retN X10 hx (t := .boolean) Bd.notSynchronized Bd.returns (by simp) (hb hby d5_110) (by decide) (by decide) (by rw [e10]; exact ⟨by simp [own_cf, hc102_11]; rfl, N_, rfl⟩)
    · refine own_by (T' := T10) (g' := (mkF m 109 #[.val (.ref ob), .val (.ref qb)] [])) (fun t k => Jvm.RoadKit.acmp (g := (mkF m 102 #[.val (.ref ob), .val (.ref qb)] [(.ref a3), (.ref qb)])) X10 hx rfl rfl rfl (pc0 := 102) (pc' := 109) (same := false) rfl (hb hby d5_102) rfl (decide_eq_false fun q => hc102_11 (Value.ref.inj q)) (by decide) (by decide) k) ?_
      refine own_by (T' := T10) (g' := (mkF m 110 #[.val (.ref ob), .val (.ref qb)] [(.int 0)])) (fun t k => XS.iconst X10.here hx rfl (hb hby d5_109) k) ?_
      exact own_retN X10 hx (t := .boolean) Bd.notSynchronized Bd.returns (by simp) (hb hby d5_110) (by decide) (by decide) (by rw [e10]; exact ⟨by simp [own_cf, hc102_11]; rfl, N_, rfl⟩)

theorem ef_0 (m : MethodId) (x1 : Int32) (x2 : Int32) : entryFrame m #[(.int x1), (.int x2)] maxLocals = mkF m 0 #[.val (.int x1), .val (.int x2), .unset, .unset, .unset, .unset] [] := by first | (simp [entryFrame, mkF, argsToLocals, Value.category, maxLocals]; done) | rfl
theorem pd_0 : parseMethodDescriptor "(I)Lcom/example/hermit_crab/hermitcrab/engine/LockMode;" = some ⟨[.int], some (.object "com/example/hermit_crab/hermitcrab/engine/LockMode")⟩ := by decide +kernel
theorem pd_1 : parseMethodDescriptor "()Z" = some ⟨[], some .boolean⟩ := by decide +kernel
theorem pd_2 : parseMethodDescriptor "()Lcom/example/hermit_crab/hermitcrab/engine/LockMode;" = some ⟨[], some (.object "com/example/hermit_crab/hermitcrab/engine/LockMode")⟩ := by decide +kernel
theorem pd_4 : parseMethodDescriptor "(Lcom/example/hermit_crab/hermitcrab/engine/LockMode;)Z" = some ⟨[(.object "com/example/hermit_crab/hermitcrab/engine/LockMode")], some .boolean⟩ := by decide +kernel
def Q0 (Z : State) (x1 : Int32) (x2 : Int32) (a1 : Addr) (a2 : Addr) (a3 : Addr) (a4 : Addr) (h0 : Heap) (n0 : Nat) (v : Option Value) (h : Heap) (L : List Loc) : Prop := v = some (.int 1) ∧ Fr n0 L
set_option maxRecDepth 65536 in
set_option maxHeartbeats 40000000 in
theorem rm0 (l : Launch) (Z : State) (a0 : Array Value) (hw : ∀ d ∈ tables_1, d.before a0 Z = true) (ws : List Jvm.Cond) (x1 : Int32) (x2 : Int32) (a1 : Addr) (a2 : Addr) (a3 : Addr) (a4 : Addr) (h0 : Heap) (n0 : Nat) (Zle : n0 ≤ h0.size) (E_a1 : Exa Z h0 a1 "com/example/hermit_crab/hermitcrab/engine/LockMode") (S_SHARED : Sta Z h0 "com/example/hermit_crab/hermitcrab/engine/LockMode" "SHARED" "Lcom/example/hermit_crab/hermitcrab/engine/LockMode;" (.ref a1)) (E_a4 : Exa Z h0 a4 "com/example/hermit_crab/hermitcrab/engine/LockMode") (S_RANGE_INSERT : Sta Z h0 "com/example/hermit_crab/hermitcrab/engine/LockMode" "RANGE_INSERT" "Lcom/example/hermit_crab/hermitcrab/engine/LockMode;" (.ref a4)) (E_a3 : Exa Z h0 a3 "com/example/hermit_crab/hermitcrab/engine/LockMode") (S_RANGE_SHARED : Sta Z h0 "com/example/hermit_crab/hermitcrab/engine/LockMode" "RANGE_SHARED" "Lcom/example/hermit_crab/hermitcrab/engine/LockMode;" (.ref a3)) (E_a2 : Exa Z h0 a2 "com/example/hermit_crab/hermitcrab/engine/LockMode") (S_EXCLUSIVE : Sta Z h0 "com/example/hermit_crab/hermitcrab/engine/LockMode" "EXCLUSIVE" "Lcom/example/hermit_crab/hermitcrab/engine/LockMode;" (.ref a2)) (F_ordinal_a1 : Fld Z h0 a1 "java/lang/Enum" "ordinal" "I" (.int 0)) (F_ordinal_a3 : Fld Z h0 a3 "java/lang/Enum" "ordinal" "I" (.int 2)) (F_ordinal_a4 : Fld Z h0 a4 "java/lang/Enum" "ordinal" "I" (.int 3)) (F_ordinal_a2 : Fld Z h0 a2 "java/lang/Enum" "ordinal" "I" (.int 1)) (ne_a1_a2 : a1 ≠ a2) (ne_a1_a3 : a1 ≠ a3) (ne_a1_a4 : a1 ≠ a4) (ne_a2_a3 : a2 ≠ a3) (ne_a2_a4 : a2 ≠ a4) (ne_a3_a4 : a3 ≠ a4) :
    MetFree l x (head1 (Jvm.Cond.code x code maxLocals ret :: ws) room_1) (fun a U => a = #[(.int x1), (.int x2)] ∧ Z.Warmed39 U.vm ∧ U.heap = h0) (fun _ _ _ _ _ => True) (fun _ U o U' => ∃ v L, o = .returned v ∧ Q0 Z x1 x2 a1 a2 a3 a4 h0 n0 v U'.heap L ∧ FrameEnd U o U' L room_1.cells room_1.slots) := by
  refine MetFree.of_bodySF (plainFor_of_name pn_com_example_hermit_crab_hermitcrab_engine_LockModeLocksRangePinLaw) hisR ?_
  intro p e s m args below meth c s₁ Bd hml0 hP hK
  obtain ⟨rfl, hZ, hh⟩ := hP
  have hx := Bd.exec
  have hby := Bd.bytes
  have hml : c.maxLocals = 6 := hml0
  have hown : s.vm.findClass "com/example/hermit_crab/hermitcrab/engine/LockModeLocksRangePinLaw" = some m.cls := findClass_of_methodNamed Bd.named
  have hnm := (name_of_methodNamed Bd.named Bd.method).1
  have X0 : Stand p l e room_1 s m #[(.int x1), (.int x2)] below meth c s₁ [] 0 0 := Stand.of_body Bd
  have e0 : s₁.heap = h0 := by rw [← hh, Bd.state]; rfl
  have N_ := Fr.nil n0
  show own_Goes p.tables e below s (Q0 Z x1 x2 a1 a2 a3 a4 h0 n0) room_1.cells room_1.slots s₁ (entryFrame m #[(.int x1), (.int x2)] maxLocals)
  refine own_by (T' := s₁) (g' := (mkF m 0 #[.val (.int x1), .val (.int x2), .unset, .unset, .unset, .unset] [])) (fun t k => castTop (ef_0 m x1 x2) k) ?_
  refine own_by (T' := s₁) (g' := (mkF m 1 #[.val (.int x1), .val (.int x2), .unset, .unset, .unset, .unset] [(.int x1)])) (fun t k => XS.iloadN X0.here hx rfl (hb hby at_0) rfl k) ?_
  obtain ⟨_, _, ⟨T1, L1, k1, n1⟩, -, X1, ⟨Lc1, hQ1, l1, y1, z1⟩, st1⟩ := Jvm.LawKit.callS X0 hx (y := (⟨"com/example/hermit_crab/hermitcrab/engine/LockModeLocksRangePinLaw", "pick", "(I)Lcom/example/hermit_crab/hermitcrab/engine/LockMode;"⟩ : MethodName)) hown (mvT hZ (hw _ (own_m 0 rfl))) (mvT hZ (hw _ (own_m 1 rfl))) (mvT hZ (hw _ (own_m 2 rfl))) (mvT hZ (hw _ (own_m 3 rfl))) (by decide) (backOf (W := 0) (rm1 l Z a0 hw [] x1 a1 a2 a3 a4 h0 n0 Zle S_SHARED S_EXCLUSIVE S_RANGE_SHARED S_RANGE_INSERT) hZ (hw _ (own_m 3 rfl)) (hw _ (own_m 2 rfl)) (by decide) (by decide)) (g := (mkF m 1 #[.val (.int x1), .val (.int x2), .unset, .unset, .unset, .unset] [(.int x1)])) rfl (by rw [hml]; rfl) (argsL := [(.int x1)]) (rest := []) (lenOf pd_0 rfl) rfl (own_le rfl) (hb hby at_1) (fun _ _ => ⟨rfl, e0, (by decide : 0 + 0 ≤ _), (by decide : 0 + 0 ≤ _)⟩)
  dsimp only [Pt.U, Pt.locs, Pt.cells, Pt.slots] at X1 l1 y1 z1 st1 hQ1
  subst l1 y1 z1
  obtain ⟨rfl, Nq1, e1⟩ := hQ1
  have N_ := Fr.app N_ Nq1
  refine own_by (T' := T1) (g' := (mkF m 4 #[.val (.int x1), .val (.int x2), .unset, .unset, .unset, .unset] [(.ref (own_pick x1 a1 a2 a3 a4))])) (fun t k => st1 _ k) ?_
  rcases own_pick_cases x1 a1 a2 a3 a4 with hp | hp | hp | hp
  · rw [hp]
    refine own_by (T' := T1) (g' := (mkF m 5 #[.val (.int x1), .val (.int x2), .val (.ref a1), .unset, .unset, .unset] [])) (fun t k => XS.astoreN X1.here hx rfl (hb hby at_4) rfl rfl (l' := #[.val (.int x1), .val (.int x2), .val (.ref a1), .unset, .unset, .unset]) rfl k) ?_
    refine own_by (T' := T1) (g' := (mkF m 6 #[.val (.int x1), .val (.int x2), .val (.ref a1), .unset, .unset, .unset] [(.int x2)])) (fun t k => XS.iloadN X1.here hx rfl (hb hby at_5) rfl k) ?_
    obtain ⟨_, _, ⟨T2, L2, k2, n2⟩, -, X2, ⟨Lc2, hQ2, l2, y2, z2⟩, st2⟩ := Jvm.LawKit.callS X1 hx (y := (⟨"com/example/hermit_crab/hermitcrab/engine/LockModeLocksRangePinLaw", "pick", "(I)Lcom/example/hermit_crab/hermitcrab/engine/LockMode;"⟩ : MethodName)) hown (mvT hZ (hw _ (own_m 0 rfl))) (mvT hZ (hw _ (own_m 1 rfl))) (mvT hZ (hw _ (own_m 2 rfl))) (mvT hZ (hw _ (own_m 3 rfl))) (by decide) (backOf (W := 0) (rm1 l Z a0 hw [] x2 a1 a2 a3 a4 h0 n0 Zle S_SHARED S_EXCLUSIVE S_RANGE_SHARED S_RANGE_INSERT) hZ (hw _ (own_m 3 rfl)) (hw _ (own_m 2 rfl)) (by decide) (by decide)) (g := (mkF m 6 #[.val (.int x1), .val (.int x2), .val (.ref a1), .unset, .unset, .unset] [(.int x2)])) rfl (by rw [hml]; rfl) (argsL := [(.int x2)]) (rest := []) (lenOf pd_0 rfl) rfl (own_le rfl) (hb hby at_6) (fun _ _ => ⟨rfl, e1, (by decide : 0 + 0 ≤ _), (by decide : 0 + 0 ≤ _)⟩)
    dsimp only [Pt.U, Pt.locs, Pt.cells, Pt.slots] at X2 l2 y2 z2 st2 hQ2
    subst l2 y2 z2
    obtain ⟨rfl, Nq2, e2⟩ := hQ2
    have N_ := Fr.app N_ Nq2
    refine own_by (T' := T2) (g' := (mkF m 9 #[.val (.int x1), .val (.int x2), .val (.ref a1), .unset, .unset, .unset] [(.ref (own_pick x2 a1 a2 a3 a4))])) (fun t k => st2 _ k) ?_
    rcases own_pick_cases x2 a1 a2 a3 a4 with hp | hp | hp | hp
    · rw [hp]
      refine own_by (T' := T2) (g' := (mkF m 10 #[.val (.int x1), .val (.int x2), .val (.ref a1), .val (.ref a1), .unset, .unset] [])) (fun t k => XS.astoreN X2.here hx rfl (hb hby at_9) rfl rfl (l' := #[.val (.int x1), .val (.int x2), .val (.ref a1), .val (.ref a1), .unset, .unset]) rfl k) ?_
      refine own_by (T' := T2) (g' := (mkF m 11 #[.val (.int x1), .val (.int x2), .val (.ref a1), .val (.ref a1), .unset, .unset] [(.ref a1)])) (fun t k => XS.aloadN X2.here hx rfl (hb hby at_10) rfl rfl k) ?_
      obtain ⟨cq3, kq3, q3a, q3b, q3c⟩ := isOf hZ e2 E_a1
      obtain ⟨_, _, ⟨T3, L3, k3, n3⟩, -, X3, ⟨Lc3, hQ3, l3, y3, z3⟩, st3⟩ := X2.virtualBack hx (y := (⟨"com/example/hermit_crab/hermitcrab/engine/LockMode", "locksRange", "()Z"⟩ : MethodName)) (z := (⟨"com/example/hermit_crab/hermitcrab/engine/LockMode", "locksRange", "()Z"⟩ : MethodName)) hown (mvT hZ (hw _ (own_m 9 rfl))) (mvT hZ (hw _ (own_m 10 rfl))) (notFace_of_selects (args := #[]) (mvT hZ (hw _ (own_m 12 rfl)))) (mvT hZ (hw _ (own_m 12 rfl))) (mvT hZ (hw _ (own_m 11 rfl))) (by decide) (backOf (W := 0) (rm2 l Z a0 hw [] a1 a3 a4 h0 n0 Zle S_RANGE_SHARED S_RANGE_INSERT) hZ (hw _ (own_m 13 rfl)) (hw _ (own_m 5 rfl)) (by decide) (by decide)) q3a q3c (g := (mkF m 11 #[.val (.int x1), .val (.int x2), .val (.ref a1), .val (.ref a1), .unset, .unset] [(.ref a1)])) rfl (by rw [hml]; rfl) (Steps.refl _) (argsL := []) (rest := []) (lenOf pd_1 rfl) rfl (own_le rfl) (hb hby at_11) (fun _ _ => ⟨rfl, e2, (by decide : 0 + 0 ≤ _), (by decide : 0 + 0 ≤ _)⟩)
      dsimp only [Pt.U, Pt.locs, Pt.cells, Pt.slots] at X3 l3 y3 z3 st3 hQ3
      subst l3 y3 z3
      obtain ⟨rfl, Nq3, e3⟩ := hQ3
      have N_ := Fr.app N_ Nq3
      refine own_by (T' := T3) (g' := (mkF m 14 #[.val (.int x1), .val (.int x2), .val (.ref a1), .val (.ref a1), .unset, .unset] [(.int (own_lr a1 a3 a4))])) (fun t k => st3.trans k) ?_
      rw [show (own_lr a1 a3 a4) = (0 : Int32) from by simp [own_lr, ne_a1_a2, ne_a1_a3, ne_a1_a4, ne_a2_a3, ne_a2_a4, ne_a3_a4, ne_a1_a2.symm, ne_a1_a3.symm, ne_a1_a4.symm, ne_a2_a3.symm, ne_a2_a4.symm, ne_a3_a4.symm]]
      refine own_by (T' := T3) (g' := (mkF m 16 #[.val (.int x1), .val (.int x2), .val (.ref a1), .val (.ref a1), .val (.int 0), .unset] [])) (fun t k => XS.istore X3.here hx rfl (hb hby at_14) rfl (l' := #[.val (.int x1), .val (.int x2), .val (.ref a1), .val (.ref a1), .val (.int 0), .unset]) rfl k) ?_
      refine own_by (T' := T3) (g' := (mkF m 17 #[.val (.int x1), .val (.int x2), .val (.ref a1), .val (.ref a1), .val (.int 0), .unset] [(.ref a1)])) (fun t k => XS.aloadN X3.here hx rfl (hb hby at_16) rfl rfl k) ?_
      obtain ⟨cq4, kq4, q4a, q4b, q4c⟩ := isOf hZ e3 E_a1
      obtain ⟨_, _, ⟨T4, L4, k4, n4⟩, -, X4, ⟨Lc4, hQ4, l4, y4, z4⟩, st4⟩ := X3.virtualBack hx (y := (⟨"com/example/hermit_crab/hermitcrab/engine/LockMode", "readPart", "()Lcom/example/hermit_crab/hermitcrab/engine/LockMode;"⟩ : MethodName)) (z := (⟨"com/example/hermit_crab/hermitcrab/engine/LockMode", "readPart", "()Lcom/example/hermit_crab/hermitcrab/engine/LockMode;"⟩ : MethodName)) hown (mvT hZ (hw _ (own_m 17 rfl))) (mvT hZ (hw _ (own_m 18 rfl))) (notFace_of_selects (args := #[]) (mvT hZ (hw _ (own_m 20 rfl)))) (mvT hZ (hw _ (own_m 20 rfl))) (mvT hZ (hw _ (own_m 19 rfl))) (by decide) (backOf (W := 0) (rm3 l Z a0 hw [] a1 (0 : Int32) a1 a3 h0 n0 Zle E_a1 F_ordinal_a1 S_SHARED S_RANGE_SHARED (by decide)) hZ (hw _ (own_m 21 rfl)) (hw _ (own_m 5 rfl)) (by decide) (by decide)) q4a q4c (g := (mkF m 17 #[.val (.int x1), .val (.int x2), .val (.ref a1), .val (.ref a1), .val (.int 0), .unset] [(.ref a1)])) rfl (by rw [hml]; rfl) (Steps.refl _) (argsL := []) (rest := []) (lenOf pd_2 rfl) rfl (own_le rfl) (hb hby at_17) (fun _ _ => ⟨rfl, e3, (by decide : 0 + 0 ≤ _), (by decide : 0 + 0 ≤ _)⟩)
      dsimp only [Pt.U, Pt.locs, Pt.cells, Pt.slots] at X4 l4 y4 z4 st4 hQ4
      subst l4 y4 z4
      obtain ⟨rfl, Nq4, e4⟩ := hQ4
      have N_ := Fr.app N_ Nq4
      refine own_by (T' := T4) (g' := (mkF m 20 #[.val (.int x1), .val (.int x2), .val (.ref a1), .val (.ref a1), .val (.int 0), .unset] [(own_rp (0 : Int32) a1 a3)])) (fun t k => st4.trans k) ?_
      rw [show (own_rp (0 : Int32) a1 a3) = (.ref a1) from by simp [own_rp]]
      obtain ⟨T5, X5, e5, st5⟩ := getS2 X4 hx hZ hown (host := "") (Or.inl (hw _ (own_m 4 rfl))) Via.refl e4 S_SHARED (g := (mkF m 20 #[.val (.int x1), .val (.int x2), .val (.ref a1), .val (.ref a1), .val (.int 0), .unset] [(.ref a1)])) rfl (hb hby at_20)
      refine own_by (T' := T5) (g' := (mkF m 23 #[.val (.int x1), .val (.int x2), .val (.ref a1), .val (.ref a1), .val (.int 0), .unset] [(.ref a1), (.ref a1)])) (fun t k => st5 t k) ?_
      refine own_by (T' := T5) (g' := (mkF m 30 #[.val (.int x1), .val (.int x2), .val (.ref a1), .val (.ref a1), .val (.int 0), .unset] [])) (fun t k => Jvm.RoadKit.acmp (g := (mkF m 23 #[.val (.int x1), .val (.int x2), .val (.ref a1), .val (.ref a1), .val (.int 0), .unset] [(.ref a1), (.ref a1)])) X5 hx rfl rfl rfl (pc0 := 23) (pc' := 30) (same := true) rfl (hb hby at_23) rfl (decide_eq_true rfl) (by decide) (by decide) k) ?_
      refine own_by (T' := T5) (g' := (mkF m 31 #[.val (.int x1), .val (.int x2), .val (.ref a1), .val (.ref a1), .val (.int 0), .unset] [(.int 0)])) (fun t k => XS.iconst X5.here hx rfl (hb hby at_30) k) ?_
      refine own_by (T' := T5) (g' := (mkF m 33 #[.val (.int x1), .val (.int x2), .val (.ref a1), .val (.ref a1), .val (.int 0), .val (.int 0)] [])) (fun t k => XS.istore X5.here hx rfl (hb hby at_31) rfl (l' := #[.val (.int x1), .val (.int x2), .val (.ref a1), .val (.ref a1), .val (.int 0), .val (.int 0)]) rfl k) ?_
      refine own_by (T' := T5) (g' := (mkF m 35 #[.val (.int x1), .val (.int x2), .val (.ref a1), .val (.ref a1), .val (.int 0), .val (.int 0)] [(.int 0)])) (fun t k => XS.iload X5.here hx rfl (hb hby at_33) rfl k) ?_
      refine own_by (T' := T5) (g' := (mkF m 37 #[.val (.int x1), .val (.int x2), .val (.ref a1), .val (.ref a1), .val (.int 0), .val (.int 0)] [(.int 0), (.int 0)])) (fun t k => XS.iload X5.here hx rfl (hb hby at_35) rfl k) ?_
      refine own_by (T' := T5) (g' := (mkF m 42 #[.val (.int x1), .val (.int x2), .val (.ref a1), .val (.ref a1), .val (.int 0), .val (.int 0)] [])) (fun t k => XS.icmpYes X5.here hx rfl (pc0 := 37) (pc' := 42) rfl (hb hby at_37) rfl (teq (by decide)).1 (by decide) (by decide) k) ?_
      refine own_by (T' := T5) (g' := (mkF m 43 #[.val (.int x1), .val (.int x2), .val (.ref a1), .val (.ref a1), .val (.int 0), .val (.int 0)] [(.ref a1)])) (fun t k => XS.aloadN X5.here hx rfl (hb hby at_42) rfl rfl k) ?_
      refine own_by (T' := T5) (g' := (mkF m 44 #[.val (.int x1), .val (.int x2), .val (.ref a1), .val (.ref a1), .val (.int 0), .val (.int 0)] [(.ref a1), (.ref a1)])) (fun t k => XS.aloadN X5.here hx rfl (hb hby at_43) rfl rfl k) ?_
      obtain ⟨cq6, kq6, q6a, q6b, q6c⟩ := isOf hZ e5 E_a1
      obtain ⟨_, _, ⟨T6, L6, k6, n6⟩, -, X6, ⟨Lc6, hQ6, l6, y6, z6⟩, st6⟩ := X5.virtualBack hx (y := (⟨"com/example/hermit_crab/hermitcrab/engine/LockMode", "conflictsWith", "(Lcom/example/hermit_crab/hermitcrab/engine/LockMode;)Z"⟩ : MethodName)) (z := (⟨"com/example/hermit_crab/hermitcrab/engine/LockMode", "conflictsWith", "(Lcom/example/hermit_crab/hermitcrab/engine/LockMode;)Z"⟩ : MethodName)) hown (mvT hZ (hw _ (own_m 32 rfl))) (mvT hZ (hw _ (own_m 33 rfl))) (notFace_of_selects (args := #[]) (mvT hZ (hw _ (own_m 35 rfl)))) (mvT hZ (hw _ (own_m 35 rfl))) (mvT hZ (hw _ (own_m 34 rfl))) (by decide) (backOf (W := 0) (rm5 l Z a0 hw [] a1 a1 (0 : Int32) a1 a2 a3 a4 h0 n0 Zle E_a1 F_ordinal_a1 S_SHARED S_EXCLUSIVE S_RANGE_SHARED S_RANGE_INSERT (by decide)) hZ (hw _ (own_m 36 rfl)) (hw _ (own_m 5 rfl)) (by decide) (by decide)) q6a q6c (g := (mkF m 44 #[.val (.int x1), .val (.int x2), .val (.ref a1), .val (.ref a1), .val (.int 0), .val (.int 0)] [(.ref a1), (.ref a1)])) rfl (by rw [hml]; rfl) (Steps.refl _) (argsL := [(.ref a1)]) (rest := []) (lenOf pd_4 rfl) rfl (own_le rfl) (hb hby at_44) (fun _ _ => ⟨rfl, e5, (by decide : 0 + 0 ≤ _), (by decide : 0 + 0 ≤ _)⟩)
      dsimp only [Pt.U, Pt.locs, Pt.cells, Pt.slots] at X6 l6 y6 z6 st6 hQ6
      subst l6 y6 z6
      obtain ⟨rfl, Nq6, e6⟩ := hQ6
      have N_ := Fr.app N_ Nq6
      refine own_by (T' := T6) (g' := (mkF m 47 #[.val (.int x1), .val (.int x2), .val (.ref a1), .val (.ref a1), .val (.int 0), .val (.int 0)] [(.int (own_cf (0 : Int32) a1 a1 a2 a3 a4))])) (fun t k => st6.trans k) ?_
      rw [show (own_cf (0 : Int32) a1 a1 a2 a3 a4) = (0 : Int32) from by simp [own_cf, ne_a1_a2, ne_a1_a3, ne_a1_a4, ne_a2_a3, ne_a2_a4, ne_a3_a4, ne_a1_a2.symm, ne_a1_a3.symm, ne_a1_a4.symm, ne_a2_a3.symm, ne_a2_a4.symm, ne_a3_a4.symm]]
      refine own_by (T' := T6) (g' := (mkF m 61 #[.val (.int x1), .val (.int x2), .val (.ref a1), .val (.ref a1), .val (.int 0), .val (.int 0)] [])) (fun t k => XS.ifYes X6.here hx rfl (pc0 := 47) (pc' := 61) rfl (hb hby at_47) rfl ((if0 _ _).trans (teq (by decide)).1) (by decide) (by decide) k) ?_
      refine own_by (T' := T6) (g' := (mkF m 62 #[.val (.int x1), .val (.int x2), .val (.ref a1), .val (.ref a1), .val (.int 0), .val (.int 0)] [(.int 1)])) (fun t k => XS.iconst X6.here hx rfl (hb hby at_61) k) ?_
      exact own_retN X6 hx (t := .boolean) Bd.notSynchronized Bd.returns (by simp) (hb hby at_62) (by decide) (by decide) (by rw [e6]; exact ⟨rfl, N_⟩)
    · rw [hp]
      refine own_by (T' := T2) (g' := (mkF m 10 #[.val (.int x1), .val (.int x2), .val (.ref a1), .val (.ref a2), .unset, .unset] [])) (fun t k => XS.astoreN X2.here hx rfl (hb hby at_9) rfl rfl (l' := #[.val (.int x1), .val (.int x2), .val (.ref a1), .val (.ref a2), .unset, .unset]) rfl k) ?_
      refine own_by (T' := T2) (g' := (mkF m 11 #[.val (.int x1), .val (.int x2), .val (.ref a1), .val (.ref a2), .unset, .unset] [(.ref a1)])) (fun t k => XS.aloadN X2.here hx rfl (hb hby at_10) rfl rfl k) ?_
      obtain ⟨cq7, kq7, q7a, q7b, q7c⟩ := isOf hZ e2 E_a1
      obtain ⟨_, _, ⟨T7, L7, k7, n7⟩, -, X7, ⟨Lc7, hQ7, l7, y7, z7⟩, st7⟩ := X2.virtualBack hx (y := (⟨"com/example/hermit_crab/hermitcrab/engine/LockMode", "locksRange", "()Z"⟩ : MethodName)) (z := (⟨"com/example/hermit_crab/hermitcrab/engine/LockMode", "locksRange", "()Z"⟩ : MethodName)) hown (mvT hZ (hw _ (own_m 9 rfl))) (mvT hZ (hw _ (own_m 10 rfl))) (notFace_of_selects (args := #[]) (mvT hZ (hw _ (own_m 12 rfl)))) (mvT hZ (hw _ (own_m 12 rfl))) (mvT hZ (hw _ (own_m 11 rfl))) (by decide) (backOf (W := 0) (rm2 l Z a0 hw [] a1 a3 a4 h0 n0 Zle S_RANGE_SHARED S_RANGE_INSERT) hZ (hw _ (own_m 13 rfl)) (hw _ (own_m 5 rfl)) (by decide) (by decide)) q7a q7c (g := (mkF m 11 #[.val (.int x1), .val (.int x2), .val (.ref a1), .val (.ref a2), .unset, .unset] [(.ref a1)])) rfl (by rw [hml]; rfl) (Steps.refl _) (argsL := []) (rest := []) (lenOf pd_1 rfl) rfl (own_le rfl) (hb hby at_11) (fun _ _ => ⟨rfl, e2, (by decide : 0 + 0 ≤ _), (by decide : 0 + 0 ≤ _)⟩)
      dsimp only [Pt.U, Pt.locs, Pt.cells, Pt.slots] at X7 l7 y7 z7 st7 hQ7
      subst l7 y7 z7
      obtain ⟨rfl, Nq7, e7⟩ := hQ7
      have N_ := Fr.app N_ Nq7
      refine own_by (T' := T7) (g' := (mkF m 14 #[.val (.int x1), .val (.int x2), .val (.ref a1), .val (.ref a2), .unset, .unset] [(.int (own_lr a1 a3 a4))])) (fun t k => st7.trans k) ?_
      rw [show (own_lr a1 a3 a4) = (0 : Int32) from by simp [own_lr, ne_a1_a2, ne_a1_a3, ne_a1_a4, ne_a2_a3, ne_a2_a4, ne_a3_a4, ne_a1_a2.symm, ne_a1_a3.symm, ne_a1_a4.symm, ne_a2_a3.symm, ne_a2_a4.symm, ne_a3_a4.symm]]
      refine own_by (T' := T7) (g' := (mkF m 16 #[.val (.int x1), .val (.int x2), .val (.ref a1), .val (.ref a2), .val (.int 0), .unset] [])) (fun t k => XS.istore X7.here hx rfl (hb hby at_14) rfl (l' := #[.val (.int x1), .val (.int x2), .val (.ref a1), .val (.ref a2), .val (.int 0), .unset]) rfl k) ?_
      refine own_by (T' := T7) (g' := (mkF m 17 #[.val (.int x1), .val (.int x2), .val (.ref a1), .val (.ref a2), .val (.int 0), .unset] [(.ref a1)])) (fun t k => XS.aloadN X7.here hx rfl (hb hby at_16) rfl rfl k) ?_
      obtain ⟨cq8, kq8, q8a, q8b, q8c⟩ := isOf hZ e7 E_a1
      obtain ⟨_, _, ⟨T8, L8, k8, n8⟩, -, X8, ⟨Lc8, hQ8, l8, y8, z8⟩, st8⟩ := X7.virtualBack hx (y := (⟨"com/example/hermit_crab/hermitcrab/engine/LockMode", "readPart", "()Lcom/example/hermit_crab/hermitcrab/engine/LockMode;"⟩ : MethodName)) (z := (⟨"com/example/hermit_crab/hermitcrab/engine/LockMode", "readPart", "()Lcom/example/hermit_crab/hermitcrab/engine/LockMode;"⟩ : MethodName)) hown (mvT hZ (hw _ (own_m 17 rfl))) (mvT hZ (hw _ (own_m 18 rfl))) (notFace_of_selects (args := #[]) (mvT hZ (hw _ (own_m 20 rfl)))) (mvT hZ (hw _ (own_m 20 rfl))) (mvT hZ (hw _ (own_m 19 rfl))) (by decide) (backOf (W := 0) (rm3 l Z a0 hw [] a1 (0 : Int32) a1 a3 h0 n0 Zle E_a1 F_ordinal_a1 S_SHARED S_RANGE_SHARED (by decide)) hZ (hw _ (own_m 21 rfl)) (hw _ (own_m 5 rfl)) (by decide) (by decide)) q8a q8c (g := (mkF m 17 #[.val (.int x1), .val (.int x2), .val (.ref a1), .val (.ref a2), .val (.int 0), .unset] [(.ref a1)])) rfl (by rw [hml]; rfl) (Steps.refl _) (argsL := []) (rest := []) (lenOf pd_2 rfl) rfl (own_le rfl) (hb hby at_17) (fun _ _ => ⟨rfl, e7, (by decide : 0 + 0 ≤ _), (by decide : 0 + 0 ≤ _)⟩)
      dsimp only [Pt.U, Pt.locs, Pt.cells, Pt.slots] at X8 l8 y8 z8 st8 hQ8
      subst l8 y8 z8
      obtain ⟨rfl, Nq8, e8⟩ := hQ8
      have N_ := Fr.app N_ Nq8
      refine own_by (T' := T8) (g' := (mkF m 20 #[.val (.int x1), .val (.int x2), .val (.ref a1), .val (.ref a2), .val (.int 0), .unset] [(own_rp (0 : Int32) a1 a3)])) (fun t k => st8.trans k) ?_
      rw [show (own_rp (0 : Int32) a1 a3) = (.ref a1) from by simp [own_rp]]
      obtain ⟨T9, X9, e9, st9⟩ := getS2 X8 hx hZ hown (host := "") (Or.inl (hw _ (own_m 4 rfl))) Via.refl e8 S_SHARED (g := (mkF m 20 #[.val (.int x1), .val (.int x2), .val (.ref a1), .val (.ref a2), .val (.int 0), .unset] [(.ref a1)])) rfl (hb hby at_20)
      refine own_by (T' := T9) (g' := (mkF m 23 #[.val (.int x1), .val (.int x2), .val (.ref a1), .val (.ref a2), .val (.int 0), .unset] [(.ref a1), (.ref a1)])) (fun t k => st9 t k) ?_
      refine own_by (T' := T9) (g' := (mkF m 30 #[.val (.int x1), .val (.int x2), .val (.ref a1), .val (.ref a2), .val (.int 0), .unset] [])) (fun t k => Jvm.RoadKit.acmp (g := (mkF m 23 #[.val (.int x1), .val (.int x2), .val (.ref a1), .val (.ref a2), .val (.int 0), .unset] [(.ref a1), (.ref a1)])) X9 hx rfl rfl rfl (pc0 := 23) (pc' := 30) (same := true) rfl (hb hby at_23) rfl (decide_eq_true rfl) (by decide) (by decide) k) ?_
      refine own_by (T' := T9) (g' := (mkF m 31 #[.val (.int x1), .val (.int x2), .val (.ref a1), .val (.ref a2), .val (.int 0), .unset] [(.int 0)])) (fun t k => XS.iconst X9.here hx rfl (hb hby at_30) k) ?_
      refine own_by (T' := T9) (g' := (mkF m 33 #[.val (.int x1), .val (.int x2), .val (.ref a1), .val (.ref a2), .val (.int 0), .val (.int 0)] [])) (fun t k => XS.istore X9.here hx rfl (hb hby at_31) rfl (l' := #[.val (.int x1), .val (.int x2), .val (.ref a1), .val (.ref a2), .val (.int 0), .val (.int 0)]) rfl k) ?_
      refine own_by (T' := T9) (g' := (mkF m 35 #[.val (.int x1), .val (.int x2), .val (.ref a1), .val (.ref a2), .val (.int 0), .val (.int 0)] [(.int 0)])) (fun t k => XS.iload X9.here hx rfl (hb hby at_33) rfl k) ?_
      refine own_by (T' := T9) (g' := (mkF m 37 #[.val (.int x1), .val (.int x2), .val (.ref a1), .val (.ref a2), .val (.int 0), .val (.int 0)] [(.int 0), (.int 0)])) (fun t k => XS.iload X9.here hx rfl (hb hby at_35) rfl k) ?_
      refine own_by (T' := T9) (g' := (mkF m 42 #[.val (.int x1), .val (.int x2), .val (.ref a1), .val (.ref a2), .val (.int 0), .val (.int 0)] [])) (fun t k => XS.icmpYes X9.here hx rfl (pc0 := 37) (pc' := 42) rfl (hb hby at_37) rfl (teq (by decide)).1 (by decide) (by decide) k) ?_
      refine own_by (T' := T9) (g' := (mkF m 43 #[.val (.int x1), .val (.int x2), .val (.ref a1), .val (.ref a2), .val (.int 0), .val (.int 0)] [(.ref a1)])) (fun t k => XS.aloadN X9.here hx rfl (hb hby at_42) rfl rfl k) ?_
      refine own_by (T' := T9) (g' := (mkF m 44 #[.val (.int x1), .val (.int x2), .val (.ref a1), .val (.ref a2), .val (.int 0), .val (.int 0)] [(.ref a2), (.ref a1)])) (fun t k => XS.aloadN X9.here hx rfl (hb hby at_43) rfl rfl k) ?_
      obtain ⟨cq10, kq10, q10a, q10b, q10c⟩ := isOf hZ e9 E_a1
      obtain ⟨_, _, ⟨T10, L10, k10, n10⟩, -, X10, ⟨Lc10, hQ10, l10, y10, z10⟩, st10⟩ := X9.virtualBack hx (y := (⟨"com/example/hermit_crab/hermitcrab/engine/LockMode", "conflictsWith", "(Lcom/example/hermit_crab/hermitcrab/engine/LockMode;)Z"⟩ : MethodName)) (z := (⟨"com/example/hermit_crab/hermitcrab/engine/LockMode", "conflictsWith", "(Lcom/example/hermit_crab/hermitcrab/engine/LockMode;)Z"⟩ : MethodName)) hown (mvT hZ (hw _ (own_m 32 rfl))) (mvT hZ (hw _ (own_m 33 rfl))) (notFace_of_selects (args := #[]) (mvT hZ (hw _ (own_m 35 rfl)))) (mvT hZ (hw _ (own_m 35 rfl))) (mvT hZ (hw _ (own_m 34 rfl))) (by decide) (backOf (W := 0) (rm5 l Z a0 hw [] a1 a2 (0 : Int32) a1 a2 a3 a4 h0 n0 Zle E_a1 F_ordinal_a1 S_SHARED S_EXCLUSIVE S_RANGE_SHARED S_RANGE_INSERT (by decide)) hZ (hw _ (own_m 36 rfl)) (hw _ (own_m 5 rfl)) (by decide) (by decide)) q10a q10c (g := (mkF m 44 #[.val (.int x1), .val (.int x2), .val (.ref a1), .val (.ref a2), .val (.int 0), .val (.int 0)] [(.ref a2), (.ref a1)])) rfl (by rw [hml]; rfl) (Steps.refl _) (argsL := [(.ref a2)]) (rest := []) (lenOf pd_4 rfl) rfl (own_le rfl) (hb hby at_44) (fun _ _ => ⟨rfl, e9, (by decide : 0 + 0 ≤ _), (by decide : 0 + 0 ≤ _)⟩)
      dsimp only [Pt.U, Pt.locs, Pt.cells, Pt.slots] at X10 l10 y10 z10 st10 hQ10
      subst l10 y10 z10
      obtain ⟨rfl, Nq10, e10⟩ := hQ10
      have N_ := Fr.app N_ Nq10
      refine own_by (T' := T10) (g' := (mkF m 47 #[.val (.int x1), .val (.int x2), .val (.ref a1), .val (.ref a2), .val (.int 0), .val (.int 0)] [(.int (own_cf (0 : Int32) a2 a1 a2 a3 a4))])) (fun t k => st10.trans k) ?_
      rw [show (own_cf (0 : Int32) a2 a1 a2 a3 a4) = (1 : Int32) from by simp [own_cf, ne_a1_a2, ne_a1_a3, ne_a1_a4, ne_a2_a3, ne_a2_a4, ne_a3_a4, ne_a1_a2.symm, ne_a1_a3.symm, ne_a1_a4.symm, ne_a2_a3.symm, ne_a2_a4.symm, ne_a3_a4.symm]]
      refine own_by (T' := T10) (g' := (mkF m 50 #[.val (.int x1), .val (.int x2), .val (.ref a1), .val (.ref a2), .val (.int 0), .val (.int 0)] [])) (fun t k => XS.ifNo X10.here hx rfl (hb hby at_47) rfl ((if0 _ _).trans (feq (by decide)).1) k) ?_
      refine own_by (T' := T10) (g' := (mkF m 52 #[.val (.int x1), .val (.int x2), .val (.ref a1), .val (.ref a2), .val (.int 0), .val (.int 0)] [(.int 0)])) (fun t k => XS.iload X10.here hx rfl (hb hby at_50) rfl k) ?_
      refine own_by (T' := T10) (g' := (mkF m 53 #[.val (.int x1), .val (.int x2), .val (.ref a1), .val (.ref a2), .val (.int 0), .val (.int 0)] [(.ref a2), (.int 0)])) (fun t k => XS.aloadN X10.here hx rfl (hb hby at_52) rfl rfl k) ?_
      obtain ⟨cq11, kq11, q11a, q11b, q11c⟩ := isOf hZ e10 E_a2
      obtain ⟨_, _, ⟨T11, L11, k11, n11⟩, -, X11, ⟨Lc11, hQ11, l11, y11, z11⟩, st11⟩ := X10.virtualBack hx (y := (⟨"com/example/hermit_crab/hermitcrab/engine/LockMode", "locksRange", "()Z"⟩ : MethodName)) (z := (⟨"com/example/hermit_crab/hermitcrab/engine/LockMode", "locksRange", "()Z"⟩ : MethodName)) hown (mvT hZ (hw _ (own_m 9 rfl))) (mvT hZ (hw _ (own_m 10 rfl))) (notFace_of_selects (args := #[]) (mvT hZ (hw _ (own_m 12 rfl)))) (mvT hZ (hw _ (own_m 12 rfl))) (mvT hZ (hw _ (own_m 11 rfl))) (by decide) (backOf (W := 1) (rm2 l Z a0 hw [] a2 a3 a4 h0 n0 Zle S_RANGE_SHARED S_RANGE_INSERT) hZ (hw _ (own_m 13 rfl)) (hw _ (own_m 5 rfl)) (by decide) (by decide)) q11a q11c (g := (mkF m 53 #[.val (.int x1), .val (.int x2), .val (.ref a1), .val (.ref a2), .val (.int 0), .val (.int 0)] [(.ref a2), (.int 0)])) rfl (by rw [hml]; rfl) (Steps.refl _) (argsL := []) (rest := [(.int 0)]) (lenOf pd_1 rfl) rfl (own_le rfl) (hb hby at_53) (fun _ _ => ⟨rfl, e10, (by decide : 0 + 0 ≤ _), (by decide : 0 + 0 ≤ _)⟩)
      dsimp only [Pt.U, Pt.locs, Pt.cells, Pt.slots] at X11 l11 y11 z11 st11 hQ11
      subst l11 y11 z11
      obtain ⟨rfl, Nq11, e11⟩ := hQ11
      have N_ := Fr.app N_ Nq11
      refine own_by (T' := T11) (g' := (mkF m 56 #[.val (.int x1), .val (.int x2), .val (.ref a1), .val (.ref a2), .val (.int 0), .val (.int 0)] [(.int (own_lr a2 a3 a4)), (.int 0)])) (fun t k => st11.trans k) ?_
      rw [show (own_lr a2 a3 a4) = (0 : Int32) from by simp [own_lr, ne_a1_a2, ne_a1_a3, ne_a1_a4, ne_a2_a3, ne_a2_a4, ne_a3_a4, ne_a1_a2.symm, ne_a1_a3.symm, ne_a1_a4.symm, ne_a2_a3.symm, ne_a2_a4.symm, ne_a3_a4.symm]]
      refine own_by (T' := T11) (g' := (mkF m 61 #[.val (.int x1), .val (.int x2), .val (.ref a1), .val (.ref a2), .val (.int 0), .val (.int 0)] [])) (fun t k => XS.icmpYes X11.here hx rfl (pc0 := 56) (pc' := 61) rfl (hb hby at_56) rfl (teq (by decide)).1 (by decide) (by decide) k) ?_
      refine own_by (T' := T11) (g' := (mkF m 62 #[.val (.int x1), .val (.int x2), .val (.ref a1), .val (.ref a2), .val (.int 0), .val (.int 0)] [(.int 1)])) (fun t k => XS.iconst X11.here hx rfl (hb hby at_61) k) ?_
      exact own_retN X11 hx (t := .boolean) Bd.notSynchronized Bd.returns (by simp) (hb hby at_62) (by decide) (by decide) (by rw [e11]; exact ⟨rfl, N_⟩)
    · rw [hp]
      refine own_by (T' := T2) (g' := (mkF m 10 #[.val (.int x1), .val (.int x2), .val (.ref a1), .val (.ref a3), .unset, .unset] [])) (fun t k => XS.astoreN X2.here hx rfl (hb hby at_9) rfl rfl (l' := #[.val (.int x1), .val (.int x2), .val (.ref a1), .val (.ref a3), .unset, .unset]) rfl k) ?_
      refine own_by (T' := T2) (g' := (mkF m 11 #[.val (.int x1), .val (.int x2), .val (.ref a1), .val (.ref a3), .unset, .unset] [(.ref a1)])) (fun t k => XS.aloadN X2.here hx rfl (hb hby at_10) rfl rfl k) ?_
      obtain ⟨cq12, kq12, q12a, q12b, q12c⟩ := isOf hZ e2 E_a1
      obtain ⟨_, _, ⟨T12, L12, k12, n12⟩, -, X12, ⟨Lc12, hQ12, l12, y12, z12⟩, st12⟩ := X2.virtualBack hx (y := (⟨"com/example/hermit_crab/hermitcrab/engine/LockMode", "locksRange", "()Z"⟩ : MethodName)) (z := (⟨"com/example/hermit_crab/hermitcrab/engine/LockMode", "locksRange", "()Z"⟩ : MethodName)) hown (mvT hZ (hw _ (own_m 9 rfl))) (mvT hZ (hw _ (own_m 10 rfl))) (notFace_of_selects (args := #[]) (mvT hZ (hw _ (own_m 12 rfl)))) (mvT hZ (hw _ (own_m 12 rfl))) (mvT hZ (hw _ (own_m 11 rfl))) (by decide) (backOf (W := 0) (rm2 l Z a0 hw [] a1 a3 a4 h0 n0 Zle S_RANGE_SHARED S_RANGE_INSERT) hZ (hw _ (own_m 13 rfl)) (hw _ (own_m 5 rfl)) (by decide) (by decide)) q12a q12c (g := (mkF m 11 #[.val (.int x1), .val (.int x2), .val (.ref a1), .val (.ref a3), .unset, .unset] [(.ref a1)])) rfl (by rw [hml]; rfl) (Steps.refl _) (argsL := []) (rest := []) (lenOf pd_1 rfl) rfl (own_le rfl) (hb hby at_11) (fun _ _ => ⟨rfl, e2, (by decide : 0 + 0 ≤ _), (by decide : 0 + 0 ≤ _)⟩)
      dsimp only [Pt.U, Pt.locs, Pt.cells, Pt.slots] at X12 l12 y12 z12 st12 hQ12
      subst l12 y12 z12
      obtain ⟨rfl, Nq12, e12⟩ := hQ12
      have N_ := Fr.app N_ Nq12
      refine own_by (T' := T12) (g' := (mkF m 14 #[.val (.int x1), .val (.int x2), .val (.ref a1), .val (.ref a3), .unset, .unset] [(.int (own_lr a1 a3 a4))])) (fun t k => st12.trans k) ?_
      rw [show (own_lr a1 a3 a4) = (0 : Int32) from by simp [own_lr, ne_a1_a2, ne_a1_a3, ne_a1_a4, ne_a2_a3, ne_a2_a4, ne_a3_a4, ne_a1_a2.symm, ne_a1_a3.symm, ne_a1_a4.symm, ne_a2_a3.symm, ne_a2_a4.symm, ne_a3_a4.symm]]
      refine own_by (T' := T12) (g' := (mkF m 16 #[.val (.int x1), .val (.int x2), .val (.ref a1), .val (.ref a3), .val (.int 0), .unset] [])) (fun t k => XS.istore X12.here hx rfl (hb hby at_14) rfl (l' := #[.val (.int x1), .val (.int x2), .val (.ref a1), .val (.ref a3), .val (.int 0), .unset]) rfl k) ?_
      refine own_by (T' := T12) (g' := (mkF m 17 #[.val (.int x1), .val (.int x2), .val (.ref a1), .val (.ref a3), .val (.int 0), .unset] [(.ref a1)])) (fun t k => XS.aloadN X12.here hx rfl (hb hby at_16) rfl rfl k) ?_
      obtain ⟨cq13, kq13, q13a, q13b, q13c⟩ := isOf hZ e12 E_a1
      obtain ⟨_, _, ⟨T13, L13, k13, n13⟩, -, X13, ⟨Lc13, hQ13, l13, y13, z13⟩, st13⟩ := X12.virtualBack hx (y := (⟨"com/example/hermit_crab/hermitcrab/engine/LockMode", "readPart", "()Lcom/example/hermit_crab/hermitcrab/engine/LockMode;"⟩ : MethodName)) (z := (⟨"com/example/hermit_crab/hermitcrab/engine/LockMode", "readPart", "()Lcom/example/hermit_crab/hermitcrab/engine/LockMode;"⟩ : MethodName)) hown (mvT hZ (hw _ (own_m 17 rfl))) (mvT hZ (hw _ (own_m 18 rfl))) (notFace_of_selects (args := #[]) (mvT hZ (hw _ (own_m 20 rfl)))) (mvT hZ (hw _ (own_m 20 rfl))) (mvT hZ (hw _ (own_m 19 rfl))) (by decide) (backOf (W := 0) (rm3 l Z a0 hw [] a1 (0 : Int32) a1 a3 h0 n0 Zle E_a1 F_ordinal_a1 S_SHARED S_RANGE_SHARED (by decide)) hZ (hw _ (own_m 21 rfl)) (hw _ (own_m 5 rfl)) (by decide) (by decide)) q13a q13c (g := (mkF m 17 #[.val (.int x1), .val (.int x2), .val (.ref a1), .val (.ref a3), .val (.int 0), .unset] [(.ref a1)])) rfl (by rw [hml]; rfl) (Steps.refl _) (argsL := []) (rest := []) (lenOf pd_2 rfl) rfl (own_le rfl) (hb hby at_17) (fun _ _ => ⟨rfl, e12, (by decide : 0 + 0 ≤ _), (by decide : 0 + 0 ≤ _)⟩)
      dsimp only [Pt.U, Pt.locs, Pt.cells, Pt.slots] at X13 l13 y13 z13 st13 hQ13
      subst l13 y13 z13
      obtain ⟨rfl, Nq13, e13⟩ := hQ13
      have N_ := Fr.app N_ Nq13
      refine own_by (T' := T13) (g' := (mkF m 20 #[.val (.int x1), .val (.int x2), .val (.ref a1), .val (.ref a3), .val (.int 0), .unset] [(own_rp (0 : Int32) a1 a3)])) (fun t k => st13.trans k) ?_
      rw [show (own_rp (0 : Int32) a1 a3) = (.ref a1) from by simp [own_rp]]
      obtain ⟨T14, X14, e14, st14⟩ := getS2 X13 hx hZ hown (host := "") (Or.inl (hw _ (own_m 4 rfl))) Via.refl e13 S_SHARED (g := (mkF m 20 #[.val (.int x1), .val (.int x2), .val (.ref a1), .val (.ref a3), .val (.int 0), .unset] [(.ref a1)])) rfl (hb hby at_20)
      refine own_by (T' := T14) (g' := (mkF m 23 #[.val (.int x1), .val (.int x2), .val (.ref a1), .val (.ref a3), .val (.int 0), .unset] [(.ref a1), (.ref a1)])) (fun t k => st14 t k) ?_
      refine own_by (T' := T14) (g' := (mkF m 30 #[.val (.int x1), .val (.int x2), .val (.ref a1), .val (.ref a3), .val (.int 0), .unset] [])) (fun t k => Jvm.RoadKit.acmp (g := (mkF m 23 #[.val (.int x1), .val (.int x2), .val (.ref a1), .val (.ref a3), .val (.int 0), .unset] [(.ref a1), (.ref a1)])) X14 hx rfl rfl rfl (pc0 := 23) (pc' := 30) (same := true) rfl (hb hby at_23) rfl (decide_eq_true rfl) (by decide) (by decide) k) ?_
      refine own_by (T' := T14) (g' := (mkF m 31 #[.val (.int x1), .val (.int x2), .val (.ref a1), .val (.ref a3), .val (.int 0), .unset] [(.int 0)])) (fun t k => XS.iconst X14.here hx rfl (hb hby at_30) k) ?_
      refine own_by (T' := T14) (g' := (mkF m 33 #[.val (.int x1), .val (.int x2), .val (.ref a1), .val (.ref a3), .val (.int 0), .val (.int 0)] [])) (fun t k => XS.istore X14.here hx rfl (hb hby at_31) rfl (l' := #[.val (.int x1), .val (.int x2), .val (.ref a1), .val (.ref a3), .val (.int 0), .val (.int 0)]) rfl k) ?_
      refine own_by (T' := T14) (g' := (mkF m 35 #[.val (.int x1), .val (.int x2), .val (.ref a1), .val (.ref a3), .val (.int 0), .val (.int 0)] [(.int 0)])) (fun t k => XS.iload X14.here hx rfl (hb hby at_33) rfl k) ?_
      refine own_by (T' := T14) (g' := (mkF m 37 #[.val (.int x1), .val (.int x2), .val (.ref a1), .val (.ref a3), .val (.int 0), .val (.int 0)] [(.int 0), (.int 0)])) (fun t k => XS.iload X14.here hx rfl (hb hby at_35) rfl k) ?_
      refine own_by (T' := T14) (g' := (mkF m 42 #[.val (.int x1), .val (.int x2), .val (.ref a1), .val (.ref a3), .val (.int 0), .val (.int 0)] [])) (fun t k => XS.icmpYes X14.here hx rfl (pc0 := 37) (pc' := 42) rfl (hb hby at_37) rfl (teq (by decide)).1 (by decide) (by decide) k) ?_
      refine own_by (T' := T14) (g' := (mkF m 43 #[.val (.int x1), .val (.int x2), .val (.ref a1), .val (.ref a3), .val (.int 0), .val (.int 0)] [(.ref a1)])) (fun t k => XS.aloadN X14.here hx rfl (hb hby at_42) rfl rfl k) ?_
      refine own_by (T' := T14) (g' := (mkF m 44 #[.val (.int x1), .val (.int x2), .val (.ref a1), .val (.ref a3), .val (.int 0), .val (.int 0)] [(.ref a3), (.ref a1)])) (fun t k => XS.aloadN X14.here hx rfl (hb hby at_43) rfl rfl k) ?_
      obtain ⟨cq15, kq15, q15a, q15b, q15c⟩ := isOf hZ e14 E_a1
      obtain ⟨_, _, ⟨T15, L15, k15, n15⟩, -, X15, ⟨Lc15, hQ15, l15, y15, z15⟩, st15⟩ := X14.virtualBack hx (y := (⟨"com/example/hermit_crab/hermitcrab/engine/LockMode", "conflictsWith", "(Lcom/example/hermit_crab/hermitcrab/engine/LockMode;)Z"⟩ : MethodName)) (z := (⟨"com/example/hermit_crab/hermitcrab/engine/LockMode", "conflictsWith", "(Lcom/example/hermit_crab/hermitcrab/engine/LockMode;)Z"⟩ : MethodName)) hown (mvT hZ (hw _ (own_m 32 rfl))) (mvT hZ (hw _ (own_m 33 rfl))) (notFace_of_selects (args := #[]) (mvT hZ (hw _ (own_m 35 rfl)))) (mvT hZ (hw _ (own_m 35 rfl))) (mvT hZ (hw _ (own_m 34 rfl))) (by decide) (backOf (W := 0) (rm5 l Z a0 hw [] a1 a3 (0 : Int32) a1 a2 a3 a4 h0 n0 Zle E_a1 F_ordinal_a1 S_SHARED S_EXCLUSIVE S_RANGE_SHARED S_RANGE_INSERT (by decide)) hZ (hw _ (own_m 36 rfl)) (hw _ (own_m 5 rfl)) (by decide) (by decide)) q15a q15c (g := (mkF m 44 #[.val (.int x1), .val (.int x2), .val (.ref a1), .val (.ref a3), .val (.int 0), .val (.int 0)] [(.ref a3), (.ref a1)])) rfl (by rw [hml]; rfl) (Steps.refl _) (argsL := [(.ref a3)]) (rest := []) (lenOf pd_4 rfl) rfl (own_le rfl) (hb hby at_44) (fun _ _ => ⟨rfl, e14, (by decide : 0 + 0 ≤ _), (by decide : 0 + 0 ≤ _)⟩)
      dsimp only [Pt.U, Pt.locs, Pt.cells, Pt.slots] at X15 l15 y15 z15 st15 hQ15
      subst l15 y15 z15
      obtain ⟨rfl, Nq15, e15⟩ := hQ15
      have N_ := Fr.app N_ Nq15
      refine own_by (T' := T15) (g' := (mkF m 47 #[.val (.int x1), .val (.int x2), .val (.ref a1), .val (.ref a3), .val (.int 0), .val (.int 0)] [(.int (own_cf (0 : Int32) a3 a1 a2 a3 a4))])) (fun t k => st15.trans k) ?_
      rw [show (own_cf (0 : Int32) a3 a1 a2 a3 a4) = (0 : Int32) from by simp [own_cf, ne_a1_a2, ne_a1_a3, ne_a1_a4, ne_a2_a3, ne_a2_a4, ne_a3_a4, ne_a1_a2.symm, ne_a1_a3.symm, ne_a1_a4.symm, ne_a2_a3.symm, ne_a2_a4.symm, ne_a3_a4.symm]]
      refine own_by (T' := T15) (g' := (mkF m 61 #[.val (.int x1), .val (.int x2), .val (.ref a1), .val (.ref a3), .val (.int 0), .val (.int 0)] [])) (fun t k => XS.ifYes X15.here hx rfl (pc0 := 47) (pc' := 61) rfl (hb hby at_47) rfl ((if0 _ _).trans (teq (by decide)).1) (by decide) (by decide) k) ?_
      refine own_by (T' := T15) (g' := (mkF m 62 #[.val (.int x1), .val (.int x2), .val (.ref a1), .val (.ref a3), .val (.int 0), .val (.int 0)] [(.int 1)])) (fun t k => XS.iconst X15.here hx rfl (hb hby at_61) k) ?_
      exact own_retN X15 hx (t := .boolean) Bd.notSynchronized Bd.returns (by simp) (hb hby at_62) (by decide) (by decide) (by rw [e15]; exact ⟨rfl, N_⟩)
    · rw [hp]
      refine own_by (T' := T2) (g' := (mkF m 10 #[.val (.int x1), .val (.int x2), .val (.ref a1), .val (.ref a4), .unset, .unset] [])) (fun t k => XS.astoreN X2.here hx rfl (hb hby at_9) rfl rfl (l' := #[.val (.int x1), .val (.int x2), .val (.ref a1), .val (.ref a4), .unset, .unset]) rfl k) ?_
      refine own_by (T' := T2) (g' := (mkF m 11 #[.val (.int x1), .val (.int x2), .val (.ref a1), .val (.ref a4), .unset, .unset] [(.ref a1)])) (fun t k => XS.aloadN X2.here hx rfl (hb hby at_10) rfl rfl k) ?_
      obtain ⟨cq16, kq16, q16a, q16b, q16c⟩ := isOf hZ e2 E_a1
      obtain ⟨_, _, ⟨T16, L16, k16, n16⟩, -, X16, ⟨Lc16, hQ16, l16, y16, z16⟩, st16⟩ := X2.virtualBack hx (y := (⟨"com/example/hermit_crab/hermitcrab/engine/LockMode", "locksRange", "()Z"⟩ : MethodName)) (z := (⟨"com/example/hermit_crab/hermitcrab/engine/LockMode", "locksRange", "()Z"⟩ : MethodName)) hown (mvT hZ (hw _ (own_m 9 rfl))) (mvT hZ (hw _ (own_m 10 rfl))) (notFace_of_selects (args := #[]) (mvT hZ (hw _ (own_m 12 rfl)))) (mvT hZ (hw _ (own_m 12 rfl))) (mvT hZ (hw _ (own_m 11 rfl))) (by decide) (backOf (W := 0) (rm2 l Z a0 hw [] a1 a3 a4 h0 n0 Zle S_RANGE_SHARED S_RANGE_INSERT) hZ (hw _ (own_m 13 rfl)) (hw _ (own_m 5 rfl)) (by decide) (by decide)) q16a q16c (g := (mkF m 11 #[.val (.int x1), .val (.int x2), .val (.ref a1), .val (.ref a4), .unset, .unset] [(.ref a1)])) rfl (by rw [hml]; rfl) (Steps.refl _) (argsL := []) (rest := []) (lenOf pd_1 rfl) rfl (own_le rfl) (hb hby at_11) (fun _ _ => ⟨rfl, e2, (by decide : 0 + 0 ≤ _), (by decide : 0 + 0 ≤ _)⟩)
      dsimp only [Pt.U, Pt.locs, Pt.cells, Pt.slots] at X16 l16 y16 z16 st16 hQ16
      subst l16 y16 z16
      obtain ⟨rfl, Nq16, e16⟩ := hQ16
      have N_ := Fr.app N_ Nq16
      refine own_by (T' := T16) (g' := (mkF m 14 #[.val (.int x1), .val (.int x2), .val (.ref a1), .val (.ref a4), .unset, .unset] [(.int (own_lr a1 a3 a4))])) (fun t k => st16.trans k) ?_
      rw [show (own_lr a1 a3 a4) = (0 : Int32) from by simp [own_lr, ne_a1_a2, ne_a1_a3, ne_a1_a4, ne_a2_a3, ne_a2_a4, ne_a3_a4, ne_a1_a2.symm, ne_a1_a3.symm, ne_a1_a4.symm, ne_a2_a3.symm, ne_a2_a4.symm, ne_a3_a4.symm]]
      refine own_by (T' := T16) (g' := (mkF m 16 #[.val (.int x1), .val (.int x2), .val (.ref a1), .val (.ref a4), .val (.int 0), .unset] [])) (fun t k => XS.istore X16.here hx rfl (hb hby at_14) rfl (l' := #[.val (.int x1), .val (.int x2), .val (.ref a1), .val (.ref a4), .val (.int 0), .unset]) rfl k) ?_
      refine own_by (T' := T16) (g' := (mkF m 17 #[.val (.int x1), .val (.int x2), .val (.ref a1), .val (.ref a4), .val (.int 0), .unset] [(.ref a1)])) (fun t k => XS.aloadN X16.here hx rfl (hb hby at_16) rfl rfl k) ?_
      obtain ⟨cq17, kq17, q17a, q17b, q17c⟩ := isOf hZ e16 E_a1
      obtain ⟨_, _, ⟨T17, L17, k17, n17⟩, -, X17, ⟨Lc17, hQ17, l17, y17, z17⟩, st17⟩ := X16.virtualBack hx (y := (⟨"com/example/hermit_crab/hermitcrab/engine/LockMode", "readPart", "()Lcom/example/hermit_crab/hermitcrab/engine/LockMode;"⟩ : MethodName)) (z := (⟨"com/example/hermit_crab/hermitcrab/engine/LockMode", "readPart", "()Lcom/example/hermit_crab/hermitcrab/engine/LockMode;"⟩ : MethodName)) hown (mvT hZ (hw _ (own_m 17 rfl))) (mvT hZ (hw _ (own_m 18 rfl))) (notFace_of_selects (args := #[]) (mvT hZ (hw _ (own_m 20 rfl)))) (mvT hZ (hw _ (own_m 20 rfl))) (mvT hZ (hw _ (own_m 19 rfl))) (by decide) (backOf (W := 0) (rm3 l Z a0 hw [] a1 (0 : Int32) a1 a3 h0 n0 Zle E_a1 F_ordinal_a1 S_SHARED S_RANGE_SHARED (by decide)) hZ (hw _ (own_m 21 rfl)) (hw _ (own_m 5 rfl)) (by decide) (by decide)) q17a q17c (g := (mkF m 17 #[.val (.int x1), .val (.int x2), .val (.ref a1), .val (.ref a4), .val (.int 0), .unset] [(.ref a1)])) rfl (by rw [hml]; rfl) (Steps.refl _) (argsL := []) (rest := []) (lenOf pd_2 rfl) rfl (own_le rfl) (hb hby at_17) (fun _ _ => ⟨rfl, e16, (by decide : 0 + 0 ≤ _), (by decide : 0 + 0 ≤ _)⟩)
      dsimp only [Pt.U, Pt.locs, Pt.cells, Pt.slots] at X17 l17 y17 z17 st17 hQ17
      subst l17 y17 z17
      obtain ⟨rfl, Nq17, e17⟩ := hQ17
      have N_ := Fr.app N_ Nq17
      refine own_by (T' := T17) (g' := (mkF m 20 #[.val (.int x1), .val (.int x2), .val (.ref a1), .val (.ref a4), .val (.int 0), .unset] [(own_rp (0 : Int32) a1 a3)])) (fun t k => st17.trans k) ?_
      rw [show (own_rp (0 : Int32) a1 a3) = (.ref a1) from by simp [own_rp]]
      obtain ⟨T18, X18, e18, st18⟩ := getS2 X17 hx hZ hown (host := "") (Or.inl (hw _ (own_m 4 rfl))) Via.refl e17 S_SHARED (g := (mkF m 20 #[.val (.int x1), .val (.int x2), .val (.ref a1), .val (.ref a4), .val (.int 0), .unset] [(.ref a1)])) rfl (hb hby at_20)
      refine own_by (T' := T18) (g' := (mkF m 23 #[.val (.int x1), .val (.int x2), .val (.ref a1), .val (.ref a4), .val (.int 0), .unset] [(.ref a1), (.ref a1)])) (fun t k => st18 t k) ?_
      refine own_by (T' := T18) (g' := (mkF m 30 #[.val (.int x1), .val (.int x2), .val (.ref a1), .val (.ref a4), .val (.int 0), .unset] [])) (fun t k => Jvm.RoadKit.acmp (g := (mkF m 23 #[.val (.int x1), .val (.int x2), .val (.ref a1), .val (.ref a4), .val (.int 0), .unset] [(.ref a1), (.ref a1)])) X18 hx rfl rfl rfl (pc0 := 23) (pc' := 30) (same := true) rfl (hb hby at_23) rfl (decide_eq_true rfl) (by decide) (by decide) k) ?_
      refine own_by (T' := T18) (g' := (mkF m 31 #[.val (.int x1), .val (.int x2), .val (.ref a1), .val (.ref a4), .val (.int 0), .unset] [(.int 0)])) (fun t k => XS.iconst X18.here hx rfl (hb hby at_30) k) ?_
      refine own_by (T' := T18) (g' := (mkF m 33 #[.val (.int x1), .val (.int x2), .val (.ref a1), .val (.ref a4), .val (.int 0), .val (.int 0)] [])) (fun t k => XS.istore X18.here hx rfl (hb hby at_31) rfl (l' := #[.val (.int x1), .val (.int x2), .val (.ref a1), .val (.ref a4), .val (.int 0), .val (.int 0)]) rfl k) ?_
      refine own_by (T' := T18) (g' := (mkF m 35 #[.val (.int x1), .val (.int x2), .val (.ref a1), .val (.ref a4), .val (.int 0), .val (.int 0)] [(.int 0)])) (fun t k => XS.iload X18.here hx rfl (hb hby at_33) rfl k) ?_
      refine own_by (T' := T18) (g' := (mkF m 37 #[.val (.int x1), .val (.int x2), .val (.ref a1), .val (.ref a4), .val (.int 0), .val (.int 0)] [(.int 0), (.int 0)])) (fun t k => XS.iload X18.here hx rfl (hb hby at_35) rfl k) ?_
      refine own_by (T' := T18) (g' := (mkF m 42 #[.val (.int x1), .val (.int x2), .val (.ref a1), .val (.ref a4), .val (.int 0), .val (.int 0)] [])) (fun t k => XS.icmpYes X18.here hx rfl (pc0 := 37) (pc' := 42) rfl (hb hby at_37) rfl (teq (by decide)).1 (by decide) (by decide) k) ?_
      refine own_by (T' := T18) (g' := (mkF m 43 #[.val (.int x1), .val (.int x2), .val (.ref a1), .val (.ref a4), .val (.int 0), .val (.int 0)] [(.ref a1)])) (fun t k => XS.aloadN X18.here hx rfl (hb hby at_42) rfl rfl k) ?_
      refine own_by (T' := T18) (g' := (mkF m 44 #[.val (.int x1), .val (.int x2), .val (.ref a1), .val (.ref a4), .val (.int 0), .val (.int 0)] [(.ref a4), (.ref a1)])) (fun t k => XS.aloadN X18.here hx rfl (hb hby at_43) rfl rfl k) ?_
      obtain ⟨cq19, kq19, q19a, q19b, q19c⟩ := isOf hZ e18 E_a1
      obtain ⟨_, _, ⟨T19, L19, k19, n19⟩, -, X19, ⟨Lc19, hQ19, l19, y19, z19⟩, st19⟩ := X18.virtualBack hx (y := (⟨"com/example/hermit_crab/hermitcrab/engine/LockMode", "conflictsWith", "(Lcom/example/hermit_crab/hermitcrab/engine/LockMode;)Z"⟩ : MethodName)) (z := (⟨"com/example/hermit_crab/hermitcrab/engine/LockMode", "conflictsWith", "(Lcom/example/hermit_crab/hermitcrab/engine/LockMode;)Z"⟩ : MethodName)) hown (mvT hZ (hw _ (own_m 32 rfl))) (mvT hZ (hw _ (own_m 33 rfl))) (notFace_of_selects (args := #[]) (mvT hZ (hw _ (own_m 35 rfl)))) (mvT hZ (hw _ (own_m 35 rfl))) (mvT hZ (hw _ (own_m 34 rfl))) (by decide) (backOf (W := 0) (rm5 l Z a0 hw [] a1 a4 (0 : Int32) a1 a2 a3 a4 h0 n0 Zle E_a1 F_ordinal_a1 S_SHARED S_EXCLUSIVE S_RANGE_SHARED S_RANGE_INSERT (by decide)) hZ (hw _ (own_m 36 rfl)) (hw _ (own_m 5 rfl)) (by decide) (by decide)) q19a q19c (g := (mkF m 44 #[.val (.int x1), .val (.int x2), .val (.ref a1), .val (.ref a4), .val (.int 0), .val (.int 0)] [(.ref a4), (.ref a1)])) rfl (by rw [hml]; rfl) (Steps.refl _) (argsL := [(.ref a4)]) (rest := []) (lenOf pd_4 rfl) rfl (own_le rfl) (hb hby at_44) (fun _ _ => ⟨rfl, e18, (by decide : 0 + 0 ≤ _), (by decide : 0 + 0 ≤ _)⟩)
      dsimp only [Pt.U, Pt.locs, Pt.cells, Pt.slots] at X19 l19 y19 z19 st19 hQ19
      subst l19 y19 z19
      obtain ⟨rfl, Nq19, e19⟩ := hQ19
      have N_ := Fr.app N_ Nq19
      refine own_by (T' := T19) (g' := (mkF m 47 #[.val (.int x1), .val (.int x2), .val (.ref a1), .val (.ref a4), .val (.int 0), .val (.int 0)] [(.int (own_cf (0 : Int32) a4 a1 a2 a3 a4))])) (fun t k => st19.trans k) ?_
      rw [show (own_cf (0 : Int32) a4 a1 a2 a3 a4) = (0 : Int32) from by simp [own_cf, ne_a1_a2, ne_a1_a3, ne_a1_a4, ne_a2_a3, ne_a2_a4, ne_a3_a4, ne_a1_a2.symm, ne_a1_a3.symm, ne_a1_a4.symm, ne_a2_a3.symm, ne_a2_a4.symm, ne_a3_a4.symm]]
      refine own_by (T' := T19) (g' := (mkF m 61 #[.val (.int x1), .val (.int x2), .val (.ref a1), .val (.ref a4), .val (.int 0), .val (.int 0)] [])) (fun t k => XS.ifYes X19.here hx rfl (pc0 := 47) (pc' := 61) rfl (hb hby at_47) rfl ((if0 _ _).trans (teq (by decide)).1) (by decide) (by decide) k) ?_
      refine own_by (T' := T19) (g' := (mkF m 62 #[.val (.int x1), .val (.int x2), .val (.ref a1), .val (.ref a4), .val (.int 0), .val (.int 0)] [(.int 1)])) (fun t k => XS.iconst X19.here hx rfl (hb hby at_61) k) ?_
      exact own_retN X19 hx (t := .boolean) Bd.notSynchronized Bd.returns (by simp) (hb hby at_62) (by decide) (by decide) (by rw [e19]; exact ⟨rfl, N_⟩)
  · rw [hp]
    refine own_by (T' := T1) (g' := (mkF m 5 #[.val (.int x1), .val (.int x2), .val (.ref a2), .unset, .unset, .unset] [])) (fun t k => XS.astoreN X1.here hx rfl (hb hby at_4) rfl rfl (l' := #[.val (.int x1), .val (.int x2), .val (.ref a2), .unset, .unset, .unset]) rfl k) ?_
    refine own_by (T' := T1) (g' := (mkF m 6 #[.val (.int x1), .val (.int x2), .val (.ref a2), .unset, .unset, .unset] [(.int x2)])) (fun t k => XS.iloadN X1.here hx rfl (hb hby at_5) rfl k) ?_
    obtain ⟨_, _, ⟨T20, L20, k20, n20⟩, -, X20, ⟨Lc20, hQ20, l20, y20, z20⟩, st20⟩ := Jvm.LawKit.callS X1 hx (y := (⟨"com/example/hermit_crab/hermitcrab/engine/LockModeLocksRangePinLaw", "pick", "(I)Lcom/example/hermit_crab/hermitcrab/engine/LockMode;"⟩ : MethodName)) hown (mvT hZ (hw _ (own_m 0 rfl))) (mvT hZ (hw _ (own_m 1 rfl))) (mvT hZ (hw _ (own_m 2 rfl))) (mvT hZ (hw _ (own_m 3 rfl))) (by decide) (backOf (W := 0) (rm1 l Z a0 hw [] x2 a1 a2 a3 a4 h0 n0 Zle S_SHARED S_EXCLUSIVE S_RANGE_SHARED S_RANGE_INSERT) hZ (hw _ (own_m 3 rfl)) (hw _ (own_m 2 rfl)) (by decide) (by decide)) (g := (mkF m 6 #[.val (.int x1), .val (.int x2), .val (.ref a2), .unset, .unset, .unset] [(.int x2)])) rfl (by rw [hml]; rfl) (argsL := [(.int x2)]) (rest := []) (lenOf pd_0 rfl) rfl (own_le rfl) (hb hby at_6) (fun _ _ => ⟨rfl, e1, (by decide : 0 + 0 ≤ _), (by decide : 0 + 0 ≤ _)⟩)
    dsimp only [Pt.U, Pt.locs, Pt.cells, Pt.slots] at X20 l20 y20 z20 st20 hQ20
    subst l20 y20 z20
    obtain ⟨rfl, Nq20, e20⟩ := hQ20
    have N_ := Fr.app N_ Nq20
    refine own_by (T' := T20) (g' := (mkF m 9 #[.val (.int x1), .val (.int x2), .val (.ref a2), .unset, .unset, .unset] [(.ref (own_pick x2 a1 a2 a3 a4))])) (fun t k => st20 _ k) ?_
    rcases own_pick_cases x2 a1 a2 a3 a4 with hp | hp | hp | hp
    · rw [hp]
      refine own_by (T' := T20) (g' := (mkF m 10 #[.val (.int x1), .val (.int x2), .val (.ref a2), .val (.ref a1), .unset, .unset] [])) (fun t k => XS.astoreN X20.here hx rfl (hb hby at_9) rfl rfl (l' := #[.val (.int x1), .val (.int x2), .val (.ref a2), .val (.ref a1), .unset, .unset]) rfl k) ?_
      refine own_by (T' := T20) (g' := (mkF m 11 #[.val (.int x1), .val (.int x2), .val (.ref a2), .val (.ref a1), .unset, .unset] [(.ref a2)])) (fun t k => XS.aloadN X20.here hx rfl (hb hby at_10) rfl rfl k) ?_
      obtain ⟨cq21, kq21, q21a, q21b, q21c⟩ := isOf hZ e20 E_a2
      obtain ⟨_, _, ⟨T21, L21, k21, n21⟩, -, X21, ⟨Lc21, hQ21, l21, y21, z21⟩, st21⟩ := X20.virtualBack hx (y := (⟨"com/example/hermit_crab/hermitcrab/engine/LockMode", "locksRange", "()Z"⟩ : MethodName)) (z := (⟨"com/example/hermit_crab/hermitcrab/engine/LockMode", "locksRange", "()Z"⟩ : MethodName)) hown (mvT hZ (hw _ (own_m 9 rfl))) (mvT hZ (hw _ (own_m 10 rfl))) (notFace_of_selects (args := #[]) (mvT hZ (hw _ (own_m 12 rfl)))) (mvT hZ (hw _ (own_m 12 rfl))) (mvT hZ (hw _ (own_m 11 rfl))) (by decide) (backOf (W := 0) (rm2 l Z a0 hw [] a2 a3 a4 h0 n0 Zle S_RANGE_SHARED S_RANGE_INSERT) hZ (hw _ (own_m 13 rfl)) (hw _ (own_m 5 rfl)) (by decide) (by decide)) q21a q21c (g := (mkF m 11 #[.val (.int x1), .val (.int x2), .val (.ref a2), .val (.ref a1), .unset, .unset] [(.ref a2)])) rfl (by rw [hml]; rfl) (Steps.refl _) (argsL := []) (rest := []) (lenOf pd_1 rfl) rfl (own_le rfl) (hb hby at_11) (fun _ _ => ⟨rfl, e20, (by decide : 0 + 0 ≤ _), (by decide : 0 + 0 ≤ _)⟩)
      dsimp only [Pt.U, Pt.locs, Pt.cells, Pt.slots] at X21 l21 y21 z21 st21 hQ21
      subst l21 y21 z21
      obtain ⟨rfl, Nq21, e21⟩ := hQ21
      have N_ := Fr.app N_ Nq21
      refine own_by (T' := T21) (g' := (mkF m 14 #[.val (.int x1), .val (.int x2), .val (.ref a2), .val (.ref a1), .unset, .unset] [(.int (own_lr a2 a3 a4))])) (fun t k => st21.trans k) ?_
      rw [show (own_lr a2 a3 a4) = (0 : Int32) from by simp [own_lr, ne_a1_a2, ne_a1_a3, ne_a1_a4, ne_a2_a3, ne_a2_a4, ne_a3_a4, ne_a1_a2.symm, ne_a1_a3.symm, ne_a1_a4.symm, ne_a2_a3.symm, ne_a2_a4.symm, ne_a3_a4.symm]]
      refine own_by (T' := T21) (g' := (mkF m 16 #[.val (.int x1), .val (.int x2), .val (.ref a2), .val (.ref a1), .val (.int 0), .unset] [])) (fun t k => XS.istore X21.here hx rfl (hb hby at_14) rfl (l' := #[.val (.int x1), .val (.int x2), .val (.ref a2), .val (.ref a1), .val (.int 0), .unset]) rfl k) ?_
      refine own_by (T' := T21) (g' := (mkF m 17 #[.val (.int x1), .val (.int x2), .val (.ref a2), .val (.ref a1), .val (.int 0), .unset] [(.ref a2)])) (fun t k => XS.aloadN X21.here hx rfl (hb hby at_16) rfl rfl k) ?_
      obtain ⟨cq22, kq22, q22a, q22b, q22c⟩ := isOf hZ e21 E_a2
      obtain ⟨_, _, ⟨T22, L22, k22, n22⟩, -, X22, ⟨Lc22, hQ22, l22, y22, z22⟩, st22⟩ := X21.virtualBack hx (y := (⟨"com/example/hermit_crab/hermitcrab/engine/LockMode", "readPart", "()Lcom/example/hermit_crab/hermitcrab/engine/LockMode;"⟩ : MethodName)) (z := (⟨"com/example/hermit_crab/hermitcrab/engine/LockMode", "readPart", "()Lcom/example/hermit_crab/hermitcrab/engine/LockMode;"⟩ : MethodName)) hown (mvT hZ (hw _ (own_m 17 rfl))) (mvT hZ (hw _ (own_m 18 rfl))) (notFace_of_selects (args := #[]) (mvT hZ (hw _ (own_m 20 rfl)))) (mvT hZ (hw _ (own_m 20 rfl))) (mvT hZ (hw _ (own_m 19 rfl))) (by decide) (backOf (W := 0) (rm3 l Z a0 hw [] a2 (1 : Int32) a1 a3 h0 n0 Zle E_a2 F_ordinal_a2 S_SHARED S_RANGE_SHARED (by decide)) hZ (hw _ (own_m 21 rfl)) (hw _ (own_m 5 rfl)) (by decide) (by decide)) q22a q22c (g := (mkF m 17 #[.val (.int x1), .val (.int x2), .val (.ref a2), .val (.ref a1), .val (.int 0), .unset] [(.ref a2)])) rfl (by rw [hml]; rfl) (Steps.refl _) (argsL := []) (rest := []) (lenOf pd_2 rfl) rfl (own_le rfl) (hb hby at_17) (fun _ _ => ⟨rfl, e21, (by decide : 0 + 0 ≤ _), (by decide : 0 + 0 ≤ _)⟩)
      dsimp only [Pt.U, Pt.locs, Pt.cells, Pt.slots] at X22 l22 y22 z22 st22 hQ22
      subst l22 y22 z22
      obtain ⟨rfl, Nq22, e22⟩ := hQ22
      have N_ := Fr.app N_ Nq22
      refine own_by (T' := T22) (g' := (mkF m 20 #[.val (.int x1), .val (.int x2), .val (.ref a2), .val (.ref a1), .val (.int 0), .unset] [(own_rp (1 : Int32) a1 a3)])) (fun t k => st22.trans k) ?_
      rw [show (own_rp (1 : Int32) a1 a3) = (.ref a1) from by simp [own_rp]]
      obtain ⟨T23, X23, e23, st23⟩ := getS2 X22 hx hZ hown (host := "") (Or.inl (hw _ (own_m 4 rfl))) Via.refl e22 S_SHARED (g := (mkF m 20 #[.val (.int x1), .val (.int x2), .val (.ref a2), .val (.ref a1), .val (.int 0), .unset] [(.ref a1)])) rfl (hb hby at_20)
      refine own_by (T' := T23) (g' := (mkF m 23 #[.val (.int x1), .val (.int x2), .val (.ref a2), .val (.ref a1), .val (.int 0), .unset] [(.ref a1), (.ref a1)])) (fun t k => st23 t k) ?_
      refine own_by (T' := T23) (g' := (mkF m 30 #[.val (.int x1), .val (.int x2), .val (.ref a2), .val (.ref a1), .val (.int 0), .unset] [])) (fun t k => Jvm.RoadKit.acmp (g := (mkF m 23 #[.val (.int x1), .val (.int x2), .val (.ref a2), .val (.ref a1), .val (.int 0), .unset] [(.ref a1), (.ref a1)])) X23 hx rfl rfl rfl (pc0 := 23) (pc' := 30) (same := true) rfl (hb hby at_23) rfl (decide_eq_true rfl) (by decide) (by decide) k) ?_
      refine own_by (T' := T23) (g' := (mkF m 31 #[.val (.int x1), .val (.int x2), .val (.ref a2), .val (.ref a1), .val (.int 0), .unset] [(.int 0)])) (fun t k => XS.iconst X23.here hx rfl (hb hby at_30) k) ?_
      refine own_by (T' := T23) (g' := (mkF m 33 #[.val (.int x1), .val (.int x2), .val (.ref a2), .val (.ref a1), .val (.int 0), .val (.int 0)] [])) (fun t k => XS.istore X23.here hx rfl (hb hby at_31) rfl (l' := #[.val (.int x1), .val (.int x2), .val (.ref a2), .val (.ref a1), .val (.int 0), .val (.int 0)]) rfl k) ?_
      refine own_by (T' := T23) (g' := (mkF m 35 #[.val (.int x1), .val (.int x2), .val (.ref a2), .val (.ref a1), .val (.int 0), .val (.int 0)] [(.int 0)])) (fun t k => XS.iload X23.here hx rfl (hb hby at_33) rfl k) ?_
      refine own_by (T' := T23) (g' := (mkF m 37 #[.val (.int x1), .val (.int x2), .val (.ref a2), .val (.ref a1), .val (.int 0), .val (.int 0)] [(.int 0), (.int 0)])) (fun t k => XS.iload X23.here hx rfl (hb hby at_35) rfl k) ?_
      refine own_by (T' := T23) (g' := (mkF m 42 #[.val (.int x1), .val (.int x2), .val (.ref a2), .val (.ref a1), .val (.int 0), .val (.int 0)] [])) (fun t k => XS.icmpYes X23.here hx rfl (pc0 := 37) (pc' := 42) rfl (hb hby at_37) rfl (teq (by decide)).1 (by decide) (by decide) k) ?_
      refine own_by (T' := T23) (g' := (mkF m 43 #[.val (.int x1), .val (.int x2), .val (.ref a2), .val (.ref a1), .val (.int 0), .val (.int 0)] [(.ref a2)])) (fun t k => XS.aloadN X23.here hx rfl (hb hby at_42) rfl rfl k) ?_
      refine own_by (T' := T23) (g' := (mkF m 44 #[.val (.int x1), .val (.int x2), .val (.ref a2), .val (.ref a1), .val (.int 0), .val (.int 0)] [(.ref a1), (.ref a2)])) (fun t k => XS.aloadN X23.here hx rfl (hb hby at_43) rfl rfl k) ?_
      obtain ⟨cq24, kq24, q24a, q24b, q24c⟩ := isOf hZ e23 E_a2
      obtain ⟨_, _, ⟨T24, L24, k24, n24⟩, -, X24, ⟨Lc24, hQ24, l24, y24, z24⟩, st24⟩ := X23.virtualBack hx (y := (⟨"com/example/hermit_crab/hermitcrab/engine/LockMode", "conflictsWith", "(Lcom/example/hermit_crab/hermitcrab/engine/LockMode;)Z"⟩ : MethodName)) (z := (⟨"com/example/hermit_crab/hermitcrab/engine/LockMode", "conflictsWith", "(Lcom/example/hermit_crab/hermitcrab/engine/LockMode;)Z"⟩ : MethodName)) hown (mvT hZ (hw _ (own_m 32 rfl))) (mvT hZ (hw _ (own_m 33 rfl))) (notFace_of_selects (args := #[]) (mvT hZ (hw _ (own_m 35 rfl)))) (mvT hZ (hw _ (own_m 35 rfl))) (mvT hZ (hw _ (own_m 34 rfl))) (by decide) (backOf (W := 0) (rm5 l Z a0 hw [] a2 a1 (1 : Int32) a1 a2 a3 a4 h0 n0 Zle E_a2 F_ordinal_a2 S_SHARED S_EXCLUSIVE S_RANGE_SHARED S_RANGE_INSERT (by decide)) hZ (hw _ (own_m 36 rfl)) (hw _ (own_m 5 rfl)) (by decide) (by decide)) q24a q24c (g := (mkF m 44 #[.val (.int x1), .val (.int x2), .val (.ref a2), .val (.ref a1), .val (.int 0), .val (.int 0)] [(.ref a1), (.ref a2)])) rfl (by rw [hml]; rfl) (Steps.refl _) (argsL := [(.ref a1)]) (rest := []) (lenOf pd_4 rfl) rfl (own_le rfl) (hb hby at_44) (fun _ _ => ⟨rfl, e23, (by decide : 0 + 0 ≤ _), (by decide : 0 + 0 ≤ _)⟩)
      dsimp only [Pt.U, Pt.locs, Pt.cells, Pt.slots] at X24 l24 y24 z24 st24 hQ24
      subst l24 y24 z24
      obtain ⟨rfl, Nq24, e24⟩ := hQ24
      have N_ := Fr.app N_ Nq24
      refine own_by (T' := T24) (g' := (mkF m 47 #[.val (.int x1), .val (.int x2), .val (.ref a2), .val (.ref a1), .val (.int 0), .val (.int 0)] [(.int (own_cf (1 : Int32) a1 a1 a2 a3 a4))])) (fun t k => st24.trans k) ?_
      rw [show (own_cf (1 : Int32) a1 a1 a2 a3 a4) = (1 : Int32) from by simp [own_cf, ne_a1_a2, ne_a1_a3, ne_a1_a4, ne_a2_a3, ne_a2_a4, ne_a3_a4, ne_a1_a2.symm, ne_a1_a3.symm, ne_a1_a4.symm, ne_a2_a3.symm, ne_a2_a4.symm, ne_a3_a4.symm]]
      refine own_by (T' := T24) (g' := (mkF m 50 #[.val (.int x1), .val (.int x2), .val (.ref a2), .val (.ref a1), .val (.int 0), .val (.int 0)] [])) (fun t k => XS.ifNo X24.here hx rfl (hb hby at_47) rfl ((if0 _ _).trans (feq (by decide)).1) k) ?_
      refine own_by (T' := T24) (g' := (mkF m 52 #[.val (.int x1), .val (.int x2), .val (.ref a2), .val (.ref a1), .val (.int 0), .val (.int 0)] [(.int 0)])) (fun t k => XS.iload X24.here hx rfl (hb hby at_50) rfl k) ?_
      refine own_by (T' := T24) (g' := (mkF m 53 #[.val (.int x1), .val (.int x2), .val (.ref a2), .val (.ref a1), .val (.int 0), .val (.int 0)] [(.ref a1), (.int 0)])) (fun t k => XS.aloadN X24.here hx rfl (hb hby at_52) rfl rfl k) ?_
      obtain ⟨cq25, kq25, q25a, q25b, q25c⟩ := isOf hZ e24 E_a1
      obtain ⟨_, _, ⟨T25, L25, k25, n25⟩, -, X25, ⟨Lc25, hQ25, l25, y25, z25⟩, st25⟩ := X24.virtualBack hx (y := (⟨"com/example/hermit_crab/hermitcrab/engine/LockMode", "locksRange", "()Z"⟩ : MethodName)) (z := (⟨"com/example/hermit_crab/hermitcrab/engine/LockMode", "locksRange", "()Z"⟩ : MethodName)) hown (mvT hZ (hw _ (own_m 9 rfl))) (mvT hZ (hw _ (own_m 10 rfl))) (notFace_of_selects (args := #[]) (mvT hZ (hw _ (own_m 12 rfl)))) (mvT hZ (hw _ (own_m 12 rfl))) (mvT hZ (hw _ (own_m 11 rfl))) (by decide) (backOf (W := 1) (rm2 l Z a0 hw [] a1 a3 a4 h0 n0 Zle S_RANGE_SHARED S_RANGE_INSERT) hZ (hw _ (own_m 13 rfl)) (hw _ (own_m 5 rfl)) (by decide) (by decide)) q25a q25c (g := (mkF m 53 #[.val (.int x1), .val (.int x2), .val (.ref a2), .val (.ref a1), .val (.int 0), .val (.int 0)] [(.ref a1), (.int 0)])) rfl (by rw [hml]; rfl) (Steps.refl _) (argsL := []) (rest := [(.int 0)]) (lenOf pd_1 rfl) rfl (own_le rfl) (hb hby at_53) (fun _ _ => ⟨rfl, e24, (by decide : 0 + 0 ≤ _), (by decide : 0 + 0 ≤ _)⟩)
      dsimp only [Pt.U, Pt.locs, Pt.cells, Pt.slots] at X25 l25 y25 z25 st25 hQ25
      subst l25 y25 z25
      obtain ⟨rfl, Nq25, e25⟩ := hQ25
      have N_ := Fr.app N_ Nq25
      refine own_by (T' := T25) (g' := (mkF m 56 #[.val (.int x1), .val (.int x2), .val (.ref a2), .val (.ref a1), .val (.int 0), .val (.int 0)] [(.int (own_lr a1 a3 a4)), (.int 0)])) (fun t k => st25.trans k) ?_
      rw [show (own_lr a1 a3 a4) = (0 : Int32) from by simp [own_lr, ne_a1_a2, ne_a1_a3, ne_a1_a4, ne_a2_a3, ne_a2_a4, ne_a3_a4, ne_a1_a2.symm, ne_a1_a3.symm, ne_a1_a4.symm, ne_a2_a3.symm, ne_a2_a4.symm, ne_a3_a4.symm]]
      refine own_by (T' := T25) (g' := (mkF m 61 #[.val (.int x1), .val (.int x2), .val (.ref a2), .val (.ref a1), .val (.int 0), .val (.int 0)] [])) (fun t k => XS.icmpYes X25.here hx rfl (pc0 := 56) (pc' := 61) rfl (hb hby at_56) rfl (teq (by decide)).1 (by decide) (by decide) k) ?_
      refine own_by (T' := T25) (g' := (mkF m 62 #[.val (.int x1), .val (.int x2), .val (.ref a2), .val (.ref a1), .val (.int 0), .val (.int 0)] [(.int 1)])) (fun t k => XS.iconst X25.here hx rfl (hb hby at_61) k) ?_
      exact own_retN X25 hx (t := .boolean) Bd.notSynchronized Bd.returns (by simp) (hb hby at_62) (by decide) (by decide) (by rw [e25]; exact ⟨rfl, N_⟩)
    · rw [hp]
      refine own_by (T' := T20) (g' := (mkF m 10 #[.val (.int x1), .val (.int x2), .val (.ref a2), .val (.ref a2), .unset, .unset] [])) (fun t k => XS.astoreN X20.here hx rfl (hb hby at_9) rfl rfl (l' := #[.val (.int x1), .val (.int x2), .val (.ref a2), .val (.ref a2), .unset, .unset]) rfl k) ?_
      refine own_by (T' := T20) (g' := (mkF m 11 #[.val (.int x1), .val (.int x2), .val (.ref a2), .val (.ref a2), .unset, .unset] [(.ref a2)])) (fun t k => XS.aloadN X20.here hx rfl (hb hby at_10) rfl rfl k) ?_
      obtain ⟨cq26, kq26, q26a, q26b, q26c⟩ := isOf hZ e20 E_a2
      obtain ⟨_, _, ⟨T26, L26, k26, n26⟩, -, X26, ⟨Lc26, hQ26, l26, y26, z26⟩, st26⟩ := X20.virtualBack hx (y := (⟨"com/example/hermit_crab/hermitcrab/engine/LockMode", "locksRange", "()Z"⟩ : MethodName)) (z := (⟨"com/example/hermit_crab/hermitcrab/engine/LockMode", "locksRange", "()Z"⟩ : MethodName)) hown (mvT hZ (hw _ (own_m 9 rfl))) (mvT hZ (hw _ (own_m 10 rfl))) (notFace_of_selects (args := #[]) (mvT hZ (hw _ (own_m 12 rfl)))) (mvT hZ (hw _ (own_m 12 rfl))) (mvT hZ (hw _ (own_m 11 rfl))) (by decide) (backOf (W := 0) (rm2 l Z a0 hw [] a2 a3 a4 h0 n0 Zle S_RANGE_SHARED S_RANGE_INSERT) hZ (hw _ (own_m 13 rfl)) (hw _ (own_m 5 rfl)) (by decide) (by decide)) q26a q26c (g := (mkF m 11 #[.val (.int x1), .val (.int x2), .val (.ref a2), .val (.ref a2), .unset, .unset] [(.ref a2)])) rfl (by rw [hml]; rfl) (Steps.refl _) (argsL := []) (rest := []) (lenOf pd_1 rfl) rfl (own_le rfl) (hb hby at_11) (fun _ _ => ⟨rfl, e20, (by decide : 0 + 0 ≤ _), (by decide : 0 + 0 ≤ _)⟩)
      dsimp only [Pt.U, Pt.locs, Pt.cells, Pt.slots] at X26 l26 y26 z26 st26 hQ26
      subst l26 y26 z26
      obtain ⟨rfl, Nq26, e26⟩ := hQ26
      have N_ := Fr.app N_ Nq26
      refine own_by (T' := T26) (g' := (mkF m 14 #[.val (.int x1), .val (.int x2), .val (.ref a2), .val (.ref a2), .unset, .unset] [(.int (own_lr a2 a3 a4))])) (fun t k => st26.trans k) ?_
      rw [show (own_lr a2 a3 a4) = (0 : Int32) from by simp [own_lr, ne_a1_a2, ne_a1_a3, ne_a1_a4, ne_a2_a3, ne_a2_a4, ne_a3_a4, ne_a1_a2.symm, ne_a1_a3.symm, ne_a1_a4.symm, ne_a2_a3.symm, ne_a2_a4.symm, ne_a3_a4.symm]]
      refine own_by (T' := T26) (g' := (mkF m 16 #[.val (.int x1), .val (.int x2), .val (.ref a2), .val (.ref a2), .val (.int 0), .unset] [])) (fun t k => XS.istore X26.here hx rfl (hb hby at_14) rfl (l' := #[.val (.int x1), .val (.int x2), .val (.ref a2), .val (.ref a2), .val (.int 0), .unset]) rfl k) ?_
      refine own_by (T' := T26) (g' := (mkF m 17 #[.val (.int x1), .val (.int x2), .val (.ref a2), .val (.ref a2), .val (.int 0), .unset] [(.ref a2)])) (fun t k => XS.aloadN X26.here hx rfl (hb hby at_16) rfl rfl k) ?_
      obtain ⟨cq27, kq27, q27a, q27b, q27c⟩ := isOf hZ e26 E_a2
      obtain ⟨_, _, ⟨T27, L27, k27, n27⟩, -, X27, ⟨Lc27, hQ27, l27, y27, z27⟩, st27⟩ := X26.virtualBack hx (y := (⟨"com/example/hermit_crab/hermitcrab/engine/LockMode", "readPart", "()Lcom/example/hermit_crab/hermitcrab/engine/LockMode;"⟩ : MethodName)) (z := (⟨"com/example/hermit_crab/hermitcrab/engine/LockMode", "readPart", "()Lcom/example/hermit_crab/hermitcrab/engine/LockMode;"⟩ : MethodName)) hown (mvT hZ (hw _ (own_m 17 rfl))) (mvT hZ (hw _ (own_m 18 rfl))) (notFace_of_selects (args := #[]) (mvT hZ (hw _ (own_m 20 rfl)))) (mvT hZ (hw _ (own_m 20 rfl))) (mvT hZ (hw _ (own_m 19 rfl))) (by decide) (backOf (W := 0) (rm3 l Z a0 hw [] a2 (1 : Int32) a1 a3 h0 n0 Zle E_a2 F_ordinal_a2 S_SHARED S_RANGE_SHARED (by decide)) hZ (hw _ (own_m 21 rfl)) (hw _ (own_m 5 rfl)) (by decide) (by decide)) q27a q27c (g := (mkF m 17 #[.val (.int x1), .val (.int x2), .val (.ref a2), .val (.ref a2), .val (.int 0), .unset] [(.ref a2)])) rfl (by rw [hml]; rfl) (Steps.refl _) (argsL := []) (rest := []) (lenOf pd_2 rfl) rfl (own_le rfl) (hb hby at_17) (fun _ _ => ⟨rfl, e26, (by decide : 0 + 0 ≤ _), (by decide : 0 + 0 ≤ _)⟩)
      dsimp only [Pt.U, Pt.locs, Pt.cells, Pt.slots] at X27 l27 y27 z27 st27 hQ27
      subst l27 y27 z27
      obtain ⟨rfl, Nq27, e27⟩ := hQ27
      have N_ := Fr.app N_ Nq27
      refine own_by (T' := T27) (g' := (mkF m 20 #[.val (.int x1), .val (.int x2), .val (.ref a2), .val (.ref a2), .val (.int 0), .unset] [(own_rp (1 : Int32) a1 a3)])) (fun t k => st27.trans k) ?_
      rw [show (own_rp (1 : Int32) a1 a3) = (.ref a1) from by simp [own_rp]]
      obtain ⟨T28, X28, e28, st28⟩ := getS2 X27 hx hZ hown (host := "") (Or.inl (hw _ (own_m 4 rfl))) Via.refl e27 S_SHARED (g := (mkF m 20 #[.val (.int x1), .val (.int x2), .val (.ref a2), .val (.ref a2), .val (.int 0), .unset] [(.ref a1)])) rfl (hb hby at_20)
      refine own_by (T' := T28) (g' := (mkF m 23 #[.val (.int x1), .val (.int x2), .val (.ref a2), .val (.ref a2), .val (.int 0), .unset] [(.ref a1), (.ref a1)])) (fun t k => st28 t k) ?_
      refine own_by (T' := T28) (g' := (mkF m 30 #[.val (.int x1), .val (.int x2), .val (.ref a2), .val (.ref a2), .val (.int 0), .unset] [])) (fun t k => Jvm.RoadKit.acmp (g := (mkF m 23 #[.val (.int x1), .val (.int x2), .val (.ref a2), .val (.ref a2), .val (.int 0), .unset] [(.ref a1), (.ref a1)])) X28 hx rfl rfl rfl (pc0 := 23) (pc' := 30) (same := true) rfl (hb hby at_23) rfl (decide_eq_true rfl) (by decide) (by decide) k) ?_
      refine own_by (T' := T28) (g' := (mkF m 31 #[.val (.int x1), .val (.int x2), .val (.ref a2), .val (.ref a2), .val (.int 0), .unset] [(.int 0)])) (fun t k => XS.iconst X28.here hx rfl (hb hby at_30) k) ?_
      refine own_by (T' := T28) (g' := (mkF m 33 #[.val (.int x1), .val (.int x2), .val (.ref a2), .val (.ref a2), .val (.int 0), .val (.int 0)] [])) (fun t k => XS.istore X28.here hx rfl (hb hby at_31) rfl (l' := #[.val (.int x1), .val (.int x2), .val (.ref a2), .val (.ref a2), .val (.int 0), .val (.int 0)]) rfl k) ?_
      refine own_by (T' := T28) (g' := (mkF m 35 #[.val (.int x1), .val (.int x2), .val (.ref a2), .val (.ref a2), .val (.int 0), .val (.int 0)] [(.int 0)])) (fun t k => XS.iload X28.here hx rfl (hb hby at_33) rfl k) ?_
      refine own_by (T' := T28) (g' := (mkF m 37 #[.val (.int x1), .val (.int x2), .val (.ref a2), .val (.ref a2), .val (.int 0), .val (.int 0)] [(.int 0), (.int 0)])) (fun t k => XS.iload X28.here hx rfl (hb hby at_35) rfl k) ?_
      refine own_by (T' := T28) (g' := (mkF m 42 #[.val (.int x1), .val (.int x2), .val (.ref a2), .val (.ref a2), .val (.int 0), .val (.int 0)] [])) (fun t k => XS.icmpYes X28.here hx rfl (pc0 := 37) (pc' := 42) rfl (hb hby at_37) rfl (teq (by decide)).1 (by decide) (by decide) k) ?_
      refine own_by (T' := T28) (g' := (mkF m 43 #[.val (.int x1), .val (.int x2), .val (.ref a2), .val (.ref a2), .val (.int 0), .val (.int 0)] [(.ref a2)])) (fun t k => XS.aloadN X28.here hx rfl (hb hby at_42) rfl rfl k) ?_
      refine own_by (T' := T28) (g' := (mkF m 44 #[.val (.int x1), .val (.int x2), .val (.ref a2), .val (.ref a2), .val (.int 0), .val (.int 0)] [(.ref a2), (.ref a2)])) (fun t k => XS.aloadN X28.here hx rfl (hb hby at_43) rfl rfl k) ?_
      obtain ⟨cq29, kq29, q29a, q29b, q29c⟩ := isOf hZ e28 E_a2
      obtain ⟨_, _, ⟨T29, L29, k29, n29⟩, -, X29, ⟨Lc29, hQ29, l29, y29, z29⟩, st29⟩ := X28.virtualBack hx (y := (⟨"com/example/hermit_crab/hermitcrab/engine/LockMode", "conflictsWith", "(Lcom/example/hermit_crab/hermitcrab/engine/LockMode;)Z"⟩ : MethodName)) (z := (⟨"com/example/hermit_crab/hermitcrab/engine/LockMode", "conflictsWith", "(Lcom/example/hermit_crab/hermitcrab/engine/LockMode;)Z"⟩ : MethodName)) hown (mvT hZ (hw _ (own_m 32 rfl))) (mvT hZ (hw _ (own_m 33 rfl))) (notFace_of_selects (args := #[]) (mvT hZ (hw _ (own_m 35 rfl)))) (mvT hZ (hw _ (own_m 35 rfl))) (mvT hZ (hw _ (own_m 34 rfl))) (by decide) (backOf (W := 0) (rm5 l Z a0 hw [] a2 a2 (1 : Int32) a1 a2 a3 a4 h0 n0 Zle E_a2 F_ordinal_a2 S_SHARED S_EXCLUSIVE S_RANGE_SHARED S_RANGE_INSERT (by decide)) hZ (hw _ (own_m 36 rfl)) (hw _ (own_m 5 rfl)) (by decide) (by decide)) q29a q29c (g := (mkF m 44 #[.val (.int x1), .val (.int x2), .val (.ref a2), .val (.ref a2), .val (.int 0), .val (.int 0)] [(.ref a2), (.ref a2)])) rfl (by rw [hml]; rfl) (Steps.refl _) (argsL := [(.ref a2)]) (rest := []) (lenOf pd_4 rfl) rfl (own_le rfl) (hb hby at_44) (fun _ _ => ⟨rfl, e28, (by decide : 0 + 0 ≤ _), (by decide : 0 + 0 ≤ _)⟩)
      dsimp only [Pt.U, Pt.locs, Pt.cells, Pt.slots] at X29 l29 y29 z29 st29 hQ29
      subst l29 y29 z29
      obtain ⟨rfl, Nq29, e29⟩ := hQ29
      have N_ := Fr.app N_ Nq29
      refine own_by (T' := T29) (g' := (mkF m 47 #[.val (.int x1), .val (.int x2), .val (.ref a2), .val (.ref a2), .val (.int 0), .val (.int 0)] [(.int (own_cf (1 : Int32) a2 a1 a2 a3 a4))])) (fun t k => st29.trans k) ?_
      rw [show (own_cf (1 : Int32) a2 a1 a2 a3 a4) = (1 : Int32) from by simp [own_cf, ne_a1_a2, ne_a1_a3, ne_a1_a4, ne_a2_a3, ne_a2_a4, ne_a3_a4, ne_a1_a2.symm, ne_a1_a3.symm, ne_a1_a4.symm, ne_a2_a3.symm, ne_a2_a4.symm, ne_a3_a4.symm]]
      refine own_by (T' := T29) (g' := (mkF m 50 #[.val (.int x1), .val (.int x2), .val (.ref a2), .val (.ref a2), .val (.int 0), .val (.int 0)] [])) (fun t k => XS.ifNo X29.here hx rfl (hb hby at_47) rfl ((if0 _ _).trans (feq (by decide)).1) k) ?_
      refine own_by (T' := T29) (g' := (mkF m 52 #[.val (.int x1), .val (.int x2), .val (.ref a2), .val (.ref a2), .val (.int 0), .val (.int 0)] [(.int 0)])) (fun t k => XS.iload X29.here hx rfl (hb hby at_50) rfl k) ?_
      refine own_by (T' := T29) (g' := (mkF m 53 #[.val (.int x1), .val (.int x2), .val (.ref a2), .val (.ref a2), .val (.int 0), .val (.int 0)] [(.ref a2), (.int 0)])) (fun t k => XS.aloadN X29.here hx rfl (hb hby at_52) rfl rfl k) ?_
      obtain ⟨cq30, kq30, q30a, q30b, q30c⟩ := isOf hZ e29 E_a2
      obtain ⟨_, _, ⟨T30, L30, k30, n30⟩, -, X30, ⟨Lc30, hQ30, l30, y30, z30⟩, st30⟩ := X29.virtualBack hx (y := (⟨"com/example/hermit_crab/hermitcrab/engine/LockMode", "locksRange", "()Z"⟩ : MethodName)) (z := (⟨"com/example/hermit_crab/hermitcrab/engine/LockMode", "locksRange", "()Z"⟩ : MethodName)) hown (mvT hZ (hw _ (own_m 9 rfl))) (mvT hZ (hw _ (own_m 10 rfl))) (notFace_of_selects (args := #[]) (mvT hZ (hw _ (own_m 12 rfl)))) (mvT hZ (hw _ (own_m 12 rfl))) (mvT hZ (hw _ (own_m 11 rfl))) (by decide) (backOf (W := 1) (rm2 l Z a0 hw [] a2 a3 a4 h0 n0 Zle S_RANGE_SHARED S_RANGE_INSERT) hZ (hw _ (own_m 13 rfl)) (hw _ (own_m 5 rfl)) (by decide) (by decide)) q30a q30c (g := (mkF m 53 #[.val (.int x1), .val (.int x2), .val (.ref a2), .val (.ref a2), .val (.int 0), .val (.int 0)] [(.ref a2), (.int 0)])) rfl (by rw [hml]; rfl) (Steps.refl _) (argsL := []) (rest := [(.int 0)]) (lenOf pd_1 rfl) rfl (own_le rfl) (hb hby at_53) (fun _ _ => ⟨rfl, e29, (by decide : 0 + 0 ≤ _), (by decide : 0 + 0 ≤ _)⟩)
      dsimp only [Pt.U, Pt.locs, Pt.cells, Pt.slots] at X30 l30 y30 z30 st30 hQ30
      subst l30 y30 z30
      obtain ⟨rfl, Nq30, e30⟩ := hQ30
      have N_ := Fr.app N_ Nq30
      refine own_by (T' := T30) (g' := (mkF m 56 #[.val (.int x1), .val (.int x2), .val (.ref a2), .val (.ref a2), .val (.int 0), .val (.int 0)] [(.int (own_lr a2 a3 a4)), (.int 0)])) (fun t k => st30.trans k) ?_
      rw [show (own_lr a2 a3 a4) = (0 : Int32) from by simp [own_lr, ne_a1_a2, ne_a1_a3, ne_a1_a4, ne_a2_a3, ne_a2_a4, ne_a3_a4, ne_a1_a2.symm, ne_a1_a3.symm, ne_a1_a4.symm, ne_a2_a3.symm, ne_a2_a4.symm, ne_a3_a4.symm]]
      refine own_by (T' := T30) (g' := (mkF m 61 #[.val (.int x1), .val (.int x2), .val (.ref a2), .val (.ref a2), .val (.int 0), .val (.int 0)] [])) (fun t k => XS.icmpYes X30.here hx rfl (pc0 := 56) (pc' := 61) rfl (hb hby at_56) rfl (teq (by decide)).1 (by decide) (by decide) k) ?_
      refine own_by (T' := T30) (g' := (mkF m 62 #[.val (.int x1), .val (.int x2), .val (.ref a2), .val (.ref a2), .val (.int 0), .val (.int 0)] [(.int 1)])) (fun t k => XS.iconst X30.here hx rfl (hb hby at_61) k) ?_
      exact own_retN X30 hx (t := .boolean) Bd.notSynchronized Bd.returns (by simp) (hb hby at_62) (by decide) (by decide) (by rw [e30]; exact ⟨rfl, N_⟩)
    · rw [hp]
      refine own_by (T' := T20) (g' := (mkF m 10 #[.val (.int x1), .val (.int x2), .val (.ref a2), .val (.ref a3), .unset, .unset] [])) (fun t k => XS.astoreN X20.here hx rfl (hb hby at_9) rfl rfl (l' := #[.val (.int x1), .val (.int x2), .val (.ref a2), .val (.ref a3), .unset, .unset]) rfl k) ?_
      refine own_by (T' := T20) (g' := (mkF m 11 #[.val (.int x1), .val (.int x2), .val (.ref a2), .val (.ref a3), .unset, .unset] [(.ref a2)])) (fun t k => XS.aloadN X20.here hx rfl (hb hby at_10) rfl rfl k) ?_
      obtain ⟨cq31, kq31, q31a, q31b, q31c⟩ := isOf hZ e20 E_a2
      obtain ⟨_, _, ⟨T31, L31, k31, n31⟩, -, X31, ⟨Lc31, hQ31, l31, y31, z31⟩, st31⟩ := X20.virtualBack hx (y := (⟨"com/example/hermit_crab/hermitcrab/engine/LockMode", "locksRange", "()Z"⟩ : MethodName)) (z := (⟨"com/example/hermit_crab/hermitcrab/engine/LockMode", "locksRange", "()Z"⟩ : MethodName)) hown (mvT hZ (hw _ (own_m 9 rfl))) (mvT hZ (hw _ (own_m 10 rfl))) (notFace_of_selects (args := #[]) (mvT hZ (hw _ (own_m 12 rfl)))) (mvT hZ (hw _ (own_m 12 rfl))) (mvT hZ (hw _ (own_m 11 rfl))) (by decide) (backOf (W := 0) (rm2 l Z a0 hw [] a2 a3 a4 h0 n0 Zle S_RANGE_SHARED S_RANGE_INSERT) hZ (hw _ (own_m 13 rfl)) (hw _ (own_m 5 rfl)) (by decide) (by decide)) q31a q31c (g := (mkF m 11 #[.val (.int x1), .val (.int x2), .val (.ref a2), .val (.ref a3), .unset, .unset] [(.ref a2)])) rfl (by rw [hml]; rfl) (Steps.refl _) (argsL := []) (rest := []) (lenOf pd_1 rfl) rfl (own_le rfl) (hb hby at_11) (fun _ _ => ⟨rfl, e20, (by decide : 0 + 0 ≤ _), (by decide : 0 + 0 ≤ _)⟩)
      dsimp only [Pt.U, Pt.locs, Pt.cells, Pt.slots] at X31 l31 y31 z31 st31 hQ31
      subst l31 y31 z31
      obtain ⟨rfl, Nq31, e31⟩ := hQ31
      have N_ := Fr.app N_ Nq31
      refine own_by (T' := T31) (g' := (mkF m 14 #[.val (.int x1), .val (.int x2), .val (.ref a2), .val (.ref a3), .unset, .unset] [(.int (own_lr a2 a3 a4))])) (fun t k => st31.trans k) ?_
      rw [show (own_lr a2 a3 a4) = (0 : Int32) from by simp [own_lr, ne_a1_a2, ne_a1_a3, ne_a1_a4, ne_a2_a3, ne_a2_a4, ne_a3_a4, ne_a1_a2.symm, ne_a1_a3.symm, ne_a1_a4.symm, ne_a2_a3.symm, ne_a2_a4.symm, ne_a3_a4.symm]]
      refine own_by (T' := T31) (g' := (mkF m 16 #[.val (.int x1), .val (.int x2), .val (.ref a2), .val (.ref a3), .val (.int 0), .unset] [])) (fun t k => XS.istore X31.here hx rfl (hb hby at_14) rfl (l' := #[.val (.int x1), .val (.int x2), .val (.ref a2), .val (.ref a3), .val (.int 0), .unset]) rfl k) ?_
      refine own_by (T' := T31) (g' := (mkF m 17 #[.val (.int x1), .val (.int x2), .val (.ref a2), .val (.ref a3), .val (.int 0), .unset] [(.ref a2)])) (fun t k => XS.aloadN X31.here hx rfl (hb hby at_16) rfl rfl k) ?_
      obtain ⟨cq32, kq32, q32a, q32b, q32c⟩ := isOf hZ e31 E_a2
      obtain ⟨_, _, ⟨T32, L32, k32, n32⟩, -, X32, ⟨Lc32, hQ32, l32, y32, z32⟩, st32⟩ := X31.virtualBack hx (y := (⟨"com/example/hermit_crab/hermitcrab/engine/LockMode", "readPart", "()Lcom/example/hermit_crab/hermitcrab/engine/LockMode;"⟩ : MethodName)) (z := (⟨"com/example/hermit_crab/hermitcrab/engine/LockMode", "readPart", "()Lcom/example/hermit_crab/hermitcrab/engine/LockMode;"⟩ : MethodName)) hown (mvT hZ (hw _ (own_m 17 rfl))) (mvT hZ (hw _ (own_m 18 rfl))) (notFace_of_selects (args := #[]) (mvT hZ (hw _ (own_m 20 rfl)))) (mvT hZ (hw _ (own_m 20 rfl))) (mvT hZ (hw _ (own_m 19 rfl))) (by decide) (backOf (W := 0) (rm3 l Z a0 hw [] a2 (1 : Int32) a1 a3 h0 n0 Zle E_a2 F_ordinal_a2 S_SHARED S_RANGE_SHARED (by decide)) hZ (hw _ (own_m 21 rfl)) (hw _ (own_m 5 rfl)) (by decide) (by decide)) q32a q32c (g := (mkF m 17 #[.val (.int x1), .val (.int x2), .val (.ref a2), .val (.ref a3), .val (.int 0), .unset] [(.ref a2)])) rfl (by rw [hml]; rfl) (Steps.refl _) (argsL := []) (rest := []) (lenOf pd_2 rfl) rfl (own_le rfl) (hb hby at_17) (fun _ _ => ⟨rfl, e31, (by decide : 0 + 0 ≤ _), (by decide : 0 + 0 ≤ _)⟩)
      dsimp only [Pt.U, Pt.locs, Pt.cells, Pt.slots] at X32 l32 y32 z32 st32 hQ32
      subst l32 y32 z32
      obtain ⟨rfl, Nq32, e32⟩ := hQ32
      have N_ := Fr.app N_ Nq32
      refine own_by (T' := T32) (g' := (mkF m 20 #[.val (.int x1), .val (.int x2), .val (.ref a2), .val (.ref a3), .val (.int 0), .unset] [(own_rp (1 : Int32) a1 a3)])) (fun t k => st32.trans k) ?_
      rw [show (own_rp (1 : Int32) a1 a3) = (.ref a1) from by simp [own_rp]]
      obtain ⟨T33, X33, e33, st33⟩ := getS2 X32 hx hZ hown (host := "") (Or.inl (hw _ (own_m 4 rfl))) Via.refl e32 S_SHARED (g := (mkF m 20 #[.val (.int x1), .val (.int x2), .val (.ref a2), .val (.ref a3), .val (.int 0), .unset] [(.ref a1)])) rfl (hb hby at_20)
      refine own_by (T' := T33) (g' := (mkF m 23 #[.val (.int x1), .val (.int x2), .val (.ref a2), .val (.ref a3), .val (.int 0), .unset] [(.ref a1), (.ref a1)])) (fun t k => st33 t k) ?_
      refine own_by (T' := T33) (g' := (mkF m 30 #[.val (.int x1), .val (.int x2), .val (.ref a2), .val (.ref a3), .val (.int 0), .unset] [])) (fun t k => Jvm.RoadKit.acmp (g := (mkF m 23 #[.val (.int x1), .val (.int x2), .val (.ref a2), .val (.ref a3), .val (.int 0), .unset] [(.ref a1), (.ref a1)])) X33 hx rfl rfl rfl (pc0 := 23) (pc' := 30) (same := true) rfl (hb hby at_23) rfl (decide_eq_true rfl) (by decide) (by decide) k) ?_
      refine own_by (T' := T33) (g' := (mkF m 31 #[.val (.int x1), .val (.int x2), .val (.ref a2), .val (.ref a3), .val (.int 0), .unset] [(.int 0)])) (fun t k => XS.iconst X33.here hx rfl (hb hby at_30) k) ?_
      refine own_by (T' := T33) (g' := (mkF m 33 #[.val (.int x1), .val (.int x2), .val (.ref a2), .val (.ref a3), .val (.int 0), .val (.int 0)] [])) (fun t k => XS.istore X33.here hx rfl (hb hby at_31) rfl (l' := #[.val (.int x1), .val (.int x2), .val (.ref a2), .val (.ref a3), .val (.int 0), .val (.int 0)]) rfl k) ?_
      refine own_by (T' := T33) (g' := (mkF m 35 #[.val (.int x1), .val (.int x2), .val (.ref a2), .val (.ref a3), .val (.int 0), .val (.int 0)] [(.int 0)])) (fun t k => XS.iload X33.here hx rfl (hb hby at_33) rfl k) ?_
      refine own_by (T' := T33) (g' := (mkF m 37 #[.val (.int x1), .val (.int x2), .val (.ref a2), .val (.ref a3), .val (.int 0), .val (.int 0)] [(.int 0), (.int 0)])) (fun t k => XS.iload X33.here hx rfl (hb hby at_35) rfl k) ?_
      refine own_by (T' := T33) (g' := (mkF m 42 #[.val (.int x1), .val (.int x2), .val (.ref a2), .val (.ref a3), .val (.int 0), .val (.int 0)] [])) (fun t k => XS.icmpYes X33.here hx rfl (pc0 := 37) (pc' := 42) rfl (hb hby at_37) rfl (teq (by decide)).1 (by decide) (by decide) k) ?_
      refine own_by (T' := T33) (g' := (mkF m 43 #[.val (.int x1), .val (.int x2), .val (.ref a2), .val (.ref a3), .val (.int 0), .val (.int 0)] [(.ref a2)])) (fun t k => XS.aloadN X33.here hx rfl (hb hby at_42) rfl rfl k) ?_
      refine own_by (T' := T33) (g' := (mkF m 44 #[.val (.int x1), .val (.int x2), .val (.ref a2), .val (.ref a3), .val (.int 0), .val (.int 0)] [(.ref a3), (.ref a2)])) (fun t k => XS.aloadN X33.here hx rfl (hb hby at_43) rfl rfl k) ?_
      obtain ⟨cq34, kq34, q34a, q34b, q34c⟩ := isOf hZ e33 E_a2
      obtain ⟨_, _, ⟨T34, L34, k34, n34⟩, -, X34, ⟨Lc34, hQ34, l34, y34, z34⟩, st34⟩ := X33.virtualBack hx (y := (⟨"com/example/hermit_crab/hermitcrab/engine/LockMode", "conflictsWith", "(Lcom/example/hermit_crab/hermitcrab/engine/LockMode;)Z"⟩ : MethodName)) (z := (⟨"com/example/hermit_crab/hermitcrab/engine/LockMode", "conflictsWith", "(Lcom/example/hermit_crab/hermitcrab/engine/LockMode;)Z"⟩ : MethodName)) hown (mvT hZ (hw _ (own_m 32 rfl))) (mvT hZ (hw _ (own_m 33 rfl))) (notFace_of_selects (args := #[]) (mvT hZ (hw _ (own_m 35 rfl)))) (mvT hZ (hw _ (own_m 35 rfl))) (mvT hZ (hw _ (own_m 34 rfl))) (by decide) (backOf (W := 0) (rm5 l Z a0 hw [] a2 a3 (1 : Int32) a1 a2 a3 a4 h0 n0 Zle E_a2 F_ordinal_a2 S_SHARED S_EXCLUSIVE S_RANGE_SHARED S_RANGE_INSERT (by decide)) hZ (hw _ (own_m 36 rfl)) (hw _ (own_m 5 rfl)) (by decide) (by decide)) q34a q34c (g := (mkF m 44 #[.val (.int x1), .val (.int x2), .val (.ref a2), .val (.ref a3), .val (.int 0), .val (.int 0)] [(.ref a3), (.ref a2)])) rfl (by rw [hml]; rfl) (Steps.refl _) (argsL := [(.ref a3)]) (rest := []) (lenOf pd_4 rfl) rfl (own_le rfl) (hb hby at_44) (fun _ _ => ⟨rfl, e33, (by decide : 0 + 0 ≤ _), (by decide : 0 + 0 ≤ _)⟩)
      dsimp only [Pt.U, Pt.locs, Pt.cells, Pt.slots] at X34 l34 y34 z34 st34 hQ34
      subst l34 y34 z34
      obtain ⟨rfl, Nq34, e34⟩ := hQ34
      have N_ := Fr.app N_ Nq34
      refine own_by (T' := T34) (g' := (mkF m 47 #[.val (.int x1), .val (.int x2), .val (.ref a2), .val (.ref a3), .val (.int 0), .val (.int 0)] [(.int (own_cf (1 : Int32) a3 a1 a2 a3 a4))])) (fun t k => st34.trans k) ?_
      rw [show (own_cf (1 : Int32) a3 a1 a2 a3 a4) = (0 : Int32) from by simp [own_cf, ne_a1_a2, ne_a1_a3, ne_a1_a4, ne_a2_a3, ne_a2_a4, ne_a3_a4, ne_a1_a2.symm, ne_a1_a3.symm, ne_a1_a4.symm, ne_a2_a3.symm, ne_a2_a4.symm, ne_a3_a4.symm]]
      refine own_by (T' := T34) (g' := (mkF m 61 #[.val (.int x1), .val (.int x2), .val (.ref a2), .val (.ref a3), .val (.int 0), .val (.int 0)] [])) (fun t k => XS.ifYes X34.here hx rfl (pc0 := 47) (pc' := 61) rfl (hb hby at_47) rfl ((if0 _ _).trans (teq (by decide)).1) (by decide) (by decide) k) ?_
      refine own_by (T' := T34) (g' := (mkF m 62 #[.val (.int x1), .val (.int x2), .val (.ref a2), .val (.ref a3), .val (.int 0), .val (.int 0)] [(.int 1)])) (fun t k => XS.iconst X34.here hx rfl (hb hby at_61) k) ?_
      exact own_retN X34 hx (t := .boolean) Bd.notSynchronized Bd.returns (by simp) (hb hby at_62) (by decide) (by decide) (by rw [e34]; exact ⟨rfl, N_⟩)
    · rw [hp]
      refine own_by (T' := T20) (g' := (mkF m 10 #[.val (.int x1), .val (.int x2), .val (.ref a2), .val (.ref a4), .unset, .unset] [])) (fun t k => XS.astoreN X20.here hx rfl (hb hby at_9) rfl rfl (l' := #[.val (.int x1), .val (.int x2), .val (.ref a2), .val (.ref a4), .unset, .unset]) rfl k) ?_
      refine own_by (T' := T20) (g' := (mkF m 11 #[.val (.int x1), .val (.int x2), .val (.ref a2), .val (.ref a4), .unset, .unset] [(.ref a2)])) (fun t k => XS.aloadN X20.here hx rfl (hb hby at_10) rfl rfl k) ?_
      obtain ⟨cq35, kq35, q35a, q35b, q35c⟩ := isOf hZ e20 E_a2
      obtain ⟨_, _, ⟨T35, L35, k35, n35⟩, -, X35, ⟨Lc35, hQ35, l35, y35, z35⟩, st35⟩ := X20.virtualBack hx (y := (⟨"com/example/hermit_crab/hermitcrab/engine/LockMode", "locksRange", "()Z"⟩ : MethodName)) (z := (⟨"com/example/hermit_crab/hermitcrab/engine/LockMode", "locksRange", "()Z"⟩ : MethodName)) hown (mvT hZ (hw _ (own_m 9 rfl))) (mvT hZ (hw _ (own_m 10 rfl))) (notFace_of_selects (args := #[]) (mvT hZ (hw _ (own_m 12 rfl)))) (mvT hZ (hw _ (own_m 12 rfl))) (mvT hZ (hw _ (own_m 11 rfl))) (by decide) (backOf (W := 0) (rm2 l Z a0 hw [] a2 a3 a4 h0 n0 Zle S_RANGE_SHARED S_RANGE_INSERT) hZ (hw _ (own_m 13 rfl)) (hw _ (own_m 5 rfl)) (by decide) (by decide)) q35a q35c (g := (mkF m 11 #[.val (.int x1), .val (.int x2), .val (.ref a2), .val (.ref a4), .unset, .unset] [(.ref a2)])) rfl (by rw [hml]; rfl) (Steps.refl _) (argsL := []) (rest := []) (lenOf pd_1 rfl) rfl (own_le rfl) (hb hby at_11) (fun _ _ => ⟨rfl, e20, (by decide : 0 + 0 ≤ _), (by decide : 0 + 0 ≤ _)⟩)
      dsimp only [Pt.U, Pt.locs, Pt.cells, Pt.slots] at X35 l35 y35 z35 st35 hQ35
      subst l35 y35 z35
      obtain ⟨rfl, Nq35, e35⟩ := hQ35
      have N_ := Fr.app N_ Nq35
      refine own_by (T' := T35) (g' := (mkF m 14 #[.val (.int x1), .val (.int x2), .val (.ref a2), .val (.ref a4), .unset, .unset] [(.int (own_lr a2 a3 a4))])) (fun t k => st35.trans k) ?_
      rw [show (own_lr a2 a3 a4) = (0 : Int32) from by simp [own_lr, ne_a1_a2, ne_a1_a3, ne_a1_a4, ne_a2_a3, ne_a2_a4, ne_a3_a4, ne_a1_a2.symm, ne_a1_a3.symm, ne_a1_a4.symm, ne_a2_a3.symm, ne_a2_a4.symm, ne_a3_a4.symm]]
      refine own_by (T' := T35) (g' := (mkF m 16 #[.val (.int x1), .val (.int x2), .val (.ref a2), .val (.ref a4), .val (.int 0), .unset] [])) (fun t k => XS.istore X35.here hx rfl (hb hby at_14) rfl (l' := #[.val (.int x1), .val (.int x2), .val (.ref a2), .val (.ref a4), .val (.int 0), .unset]) rfl k) ?_
      refine own_by (T' := T35) (g' := (mkF m 17 #[.val (.int x1), .val (.int x2), .val (.ref a2), .val (.ref a4), .val (.int 0), .unset] [(.ref a2)])) (fun t k => XS.aloadN X35.here hx rfl (hb hby at_16) rfl rfl k) ?_
      obtain ⟨cq36, kq36, q36a, q36b, q36c⟩ := isOf hZ e35 E_a2
      obtain ⟨_, _, ⟨T36, L36, k36, n36⟩, -, X36, ⟨Lc36, hQ36, l36, y36, z36⟩, st36⟩ := X35.virtualBack hx (y := (⟨"com/example/hermit_crab/hermitcrab/engine/LockMode", "readPart", "()Lcom/example/hermit_crab/hermitcrab/engine/LockMode;"⟩ : MethodName)) (z := (⟨"com/example/hermit_crab/hermitcrab/engine/LockMode", "readPart", "()Lcom/example/hermit_crab/hermitcrab/engine/LockMode;"⟩ : MethodName)) hown (mvT hZ (hw _ (own_m 17 rfl))) (mvT hZ (hw _ (own_m 18 rfl))) (notFace_of_selects (args := #[]) (mvT hZ (hw _ (own_m 20 rfl)))) (mvT hZ (hw _ (own_m 20 rfl))) (mvT hZ (hw _ (own_m 19 rfl))) (by decide) (backOf (W := 0) (rm3 l Z a0 hw [] a2 (1 : Int32) a1 a3 h0 n0 Zle E_a2 F_ordinal_a2 S_SHARED S_RANGE_SHARED (by decide)) hZ (hw _ (own_m 21 rfl)) (hw _ (own_m 5 rfl)) (by decide) (by decide)) q36a q36c (g := (mkF m 17 #[.val (.int x1), .val (.int x2), .val (.ref a2), .val (.ref a4), .val (.int 0), .unset] [(.ref a2)])) rfl (by rw [hml]; rfl) (Steps.refl _) (argsL := []) (rest := []) (lenOf pd_2 rfl) rfl (own_le rfl) (hb hby at_17) (fun _ _ => ⟨rfl, e35, (by decide : 0 + 0 ≤ _), (by decide : 0 + 0 ≤ _)⟩)
      dsimp only [Pt.U, Pt.locs, Pt.cells, Pt.slots] at X36 l36 y36 z36 st36 hQ36
      subst l36 y36 z36
      obtain ⟨rfl, Nq36, e36⟩ := hQ36
      have N_ := Fr.app N_ Nq36
      refine own_by (T' := T36) (g' := (mkF m 20 #[.val (.int x1), .val (.int x2), .val (.ref a2), .val (.ref a4), .val (.int 0), .unset] [(own_rp (1 : Int32) a1 a3)])) (fun t k => st36.trans k) ?_
      rw [show (own_rp (1 : Int32) a1 a3) = (.ref a1) from by simp [own_rp]]
      obtain ⟨T37, X37, e37, st37⟩ := getS2 X36 hx hZ hown (host := "") (Or.inl (hw _ (own_m 4 rfl))) Via.refl e36 S_SHARED (g := (mkF m 20 #[.val (.int x1), .val (.int x2), .val (.ref a2), .val (.ref a4), .val (.int 0), .unset] [(.ref a1)])) rfl (hb hby at_20)
      refine own_by (T' := T37) (g' := (mkF m 23 #[.val (.int x1), .val (.int x2), .val (.ref a2), .val (.ref a4), .val (.int 0), .unset] [(.ref a1), (.ref a1)])) (fun t k => st37 t k) ?_
      refine own_by (T' := T37) (g' := (mkF m 30 #[.val (.int x1), .val (.int x2), .val (.ref a2), .val (.ref a4), .val (.int 0), .unset] [])) (fun t k => Jvm.RoadKit.acmp (g := (mkF m 23 #[.val (.int x1), .val (.int x2), .val (.ref a2), .val (.ref a4), .val (.int 0), .unset] [(.ref a1), (.ref a1)])) X37 hx rfl rfl rfl (pc0 := 23) (pc' := 30) (same := true) rfl (hb hby at_23) rfl (decide_eq_true rfl) (by decide) (by decide) k) ?_
      refine own_by (T' := T37) (g' := (mkF m 31 #[.val (.int x1), .val (.int x2), .val (.ref a2), .val (.ref a4), .val (.int 0), .unset] [(.int 0)])) (fun t k => XS.iconst X37.here hx rfl (hb hby at_30) k) ?_
      refine own_by (T' := T37) (g' := (mkF m 33 #[.val (.int x1), .val (.int x2), .val (.ref a2), .val (.ref a4), .val (.int 0), .val (.int 0)] [])) (fun t k => XS.istore X37.here hx rfl (hb hby at_31) rfl (l' := #[.val (.int x1), .val (.int x2), .val (.ref a2), .val (.ref a4), .val (.int 0), .val (.int 0)]) rfl k) ?_
      refine own_by (T' := T37) (g' := (mkF m 35 #[.val (.int x1), .val (.int x2), .val (.ref a2), .val (.ref a4), .val (.int 0), .val (.int 0)] [(.int 0)])) (fun t k => XS.iload X37.here hx rfl (hb hby at_33) rfl k) ?_
      refine own_by (T' := T37) (g' := (mkF m 37 #[.val (.int x1), .val (.int x2), .val (.ref a2), .val (.ref a4), .val (.int 0), .val (.int 0)] [(.int 0), (.int 0)])) (fun t k => XS.iload X37.here hx rfl (hb hby at_35) rfl k) ?_
      refine own_by (T' := T37) (g' := (mkF m 42 #[.val (.int x1), .val (.int x2), .val (.ref a2), .val (.ref a4), .val (.int 0), .val (.int 0)] [])) (fun t k => XS.icmpYes X37.here hx rfl (pc0 := 37) (pc' := 42) rfl (hb hby at_37) rfl (teq (by decide)).1 (by decide) (by decide) k) ?_
      refine own_by (T' := T37) (g' := (mkF m 43 #[.val (.int x1), .val (.int x2), .val (.ref a2), .val (.ref a4), .val (.int 0), .val (.int 0)] [(.ref a2)])) (fun t k => XS.aloadN X37.here hx rfl (hb hby at_42) rfl rfl k) ?_
      refine own_by (T' := T37) (g' := (mkF m 44 #[.val (.int x1), .val (.int x2), .val (.ref a2), .val (.ref a4), .val (.int 0), .val (.int 0)] [(.ref a4), (.ref a2)])) (fun t k => XS.aloadN X37.here hx rfl (hb hby at_43) rfl rfl k) ?_
      obtain ⟨cq38, kq38, q38a, q38b, q38c⟩ := isOf hZ e37 E_a2
      obtain ⟨_, _, ⟨T38, L38, k38, n38⟩, -, X38, ⟨Lc38, hQ38, l38, y38, z38⟩, st38⟩ := X37.virtualBack hx (y := (⟨"com/example/hermit_crab/hermitcrab/engine/LockMode", "conflictsWith", "(Lcom/example/hermit_crab/hermitcrab/engine/LockMode;)Z"⟩ : MethodName)) (z := (⟨"com/example/hermit_crab/hermitcrab/engine/LockMode", "conflictsWith", "(Lcom/example/hermit_crab/hermitcrab/engine/LockMode;)Z"⟩ : MethodName)) hown (mvT hZ (hw _ (own_m 32 rfl))) (mvT hZ (hw _ (own_m 33 rfl))) (notFace_of_selects (args := #[]) (mvT hZ (hw _ (own_m 35 rfl)))) (mvT hZ (hw _ (own_m 35 rfl))) (mvT hZ (hw _ (own_m 34 rfl))) (by decide) (backOf (W := 0) (rm5 l Z a0 hw [] a2 a4 (1 : Int32) a1 a2 a3 a4 h0 n0 Zle E_a2 F_ordinal_a2 S_SHARED S_EXCLUSIVE S_RANGE_SHARED S_RANGE_INSERT (by decide)) hZ (hw _ (own_m 36 rfl)) (hw _ (own_m 5 rfl)) (by decide) (by decide)) q38a q38c (g := (mkF m 44 #[.val (.int x1), .val (.int x2), .val (.ref a2), .val (.ref a4), .val (.int 0), .val (.int 0)] [(.ref a4), (.ref a2)])) rfl (by rw [hml]; rfl) (Steps.refl _) (argsL := [(.ref a4)]) (rest := []) (lenOf pd_4 rfl) rfl (own_le rfl) (hb hby at_44) (fun _ _ => ⟨rfl, e37, (by decide : 0 + 0 ≤ _), (by decide : 0 + 0 ≤ _)⟩)
      dsimp only [Pt.U, Pt.locs, Pt.cells, Pt.slots] at X38 l38 y38 z38 st38 hQ38
      subst l38 y38 z38
      obtain ⟨rfl, Nq38, e38⟩ := hQ38
      have N_ := Fr.app N_ Nq38
      refine own_by (T' := T38) (g' := (mkF m 47 #[.val (.int x1), .val (.int x2), .val (.ref a2), .val (.ref a4), .val (.int 0), .val (.int 0)] [(.int (own_cf (1 : Int32) a4 a1 a2 a3 a4))])) (fun t k => st38.trans k) ?_
      rw [show (own_cf (1 : Int32) a4 a1 a2 a3 a4) = (0 : Int32) from by simp [own_cf, ne_a1_a2, ne_a1_a3, ne_a1_a4, ne_a2_a3, ne_a2_a4, ne_a3_a4, ne_a1_a2.symm, ne_a1_a3.symm, ne_a1_a4.symm, ne_a2_a3.symm, ne_a2_a4.symm, ne_a3_a4.symm]]
      refine own_by (T' := T38) (g' := (mkF m 61 #[.val (.int x1), .val (.int x2), .val (.ref a2), .val (.ref a4), .val (.int 0), .val (.int 0)] [])) (fun t k => XS.ifYes X38.here hx rfl (pc0 := 47) (pc' := 61) rfl (hb hby at_47) rfl ((if0 _ _).trans (teq (by decide)).1) (by decide) (by decide) k) ?_
      refine own_by (T' := T38) (g' := (mkF m 62 #[.val (.int x1), .val (.int x2), .val (.ref a2), .val (.ref a4), .val (.int 0), .val (.int 0)] [(.int 1)])) (fun t k => XS.iconst X38.here hx rfl (hb hby at_61) k) ?_
      exact own_retN X38 hx (t := .boolean) Bd.notSynchronized Bd.returns (by simp) (hb hby at_62) (by decide) (by decide) (by rw [e38]; exact ⟨rfl, N_⟩)
  · rw [hp]
    refine own_by (T' := T1) (g' := (mkF m 5 #[.val (.int x1), .val (.int x2), .val (.ref a3), .unset, .unset, .unset] [])) (fun t k => XS.astoreN X1.here hx rfl (hb hby at_4) rfl rfl (l' := #[.val (.int x1), .val (.int x2), .val (.ref a3), .unset, .unset, .unset]) rfl k) ?_
    refine own_by (T' := T1) (g' := (mkF m 6 #[.val (.int x1), .val (.int x2), .val (.ref a3), .unset, .unset, .unset] [(.int x2)])) (fun t k => XS.iloadN X1.here hx rfl (hb hby at_5) rfl k) ?_
    obtain ⟨_, _, ⟨T39, L39, k39, n39⟩, -, X39, ⟨Lc39, hQ39, l39, y39, z39⟩, st39⟩ := Jvm.LawKit.callS X1 hx (y := (⟨"com/example/hermit_crab/hermitcrab/engine/LockModeLocksRangePinLaw", "pick", "(I)Lcom/example/hermit_crab/hermitcrab/engine/LockMode;"⟩ : MethodName)) hown (mvT hZ (hw _ (own_m 0 rfl))) (mvT hZ (hw _ (own_m 1 rfl))) (mvT hZ (hw _ (own_m 2 rfl))) (mvT hZ (hw _ (own_m 3 rfl))) (by decide) (backOf (W := 0) (rm1 l Z a0 hw [] x2 a1 a2 a3 a4 h0 n0 Zle S_SHARED S_EXCLUSIVE S_RANGE_SHARED S_RANGE_INSERT) hZ (hw _ (own_m 3 rfl)) (hw _ (own_m 2 rfl)) (by decide) (by decide)) (g := (mkF m 6 #[.val (.int x1), .val (.int x2), .val (.ref a3), .unset, .unset, .unset] [(.int x2)])) rfl (by rw [hml]; rfl) (argsL := [(.int x2)]) (rest := []) (lenOf pd_0 rfl) rfl (own_le rfl) (hb hby at_6) (fun _ _ => ⟨rfl, e1, (by decide : 0 + 0 ≤ _), (by decide : 0 + 0 ≤ _)⟩)
    dsimp only [Pt.U, Pt.locs, Pt.cells, Pt.slots] at X39 l39 y39 z39 st39 hQ39
    subst l39 y39 z39
    obtain ⟨rfl, Nq39, e39⟩ := hQ39
    have N_ := Fr.app N_ Nq39
    refine own_by (T' := T39) (g' := (mkF m 9 #[.val (.int x1), .val (.int x2), .val (.ref a3), .unset, .unset, .unset] [(.ref (own_pick x2 a1 a2 a3 a4))])) (fun t k => st39 _ k) ?_
    rcases own_pick_cases x2 a1 a2 a3 a4 with hp | hp | hp | hp
    · rw [hp]
      refine own_by (T' := T39) (g' := (mkF m 10 #[.val (.int x1), .val (.int x2), .val (.ref a3), .val (.ref a1), .unset, .unset] [])) (fun t k => XS.astoreN X39.here hx rfl (hb hby at_9) rfl rfl (l' := #[.val (.int x1), .val (.int x2), .val (.ref a3), .val (.ref a1), .unset, .unset]) rfl k) ?_
      refine own_by (T' := T39) (g' := (mkF m 11 #[.val (.int x1), .val (.int x2), .val (.ref a3), .val (.ref a1), .unset, .unset] [(.ref a3)])) (fun t k => XS.aloadN X39.here hx rfl (hb hby at_10) rfl rfl k) ?_
      obtain ⟨cq40, kq40, q40a, q40b, q40c⟩ := isOf hZ e39 E_a3
      obtain ⟨_, _, ⟨T40, L40, k40, n40⟩, -, X40, ⟨Lc40, hQ40, l40, y40, z40⟩, st40⟩ := X39.virtualBack hx (y := (⟨"com/example/hermit_crab/hermitcrab/engine/LockMode", "locksRange", "()Z"⟩ : MethodName)) (z := (⟨"com/example/hermit_crab/hermitcrab/engine/LockMode", "locksRange", "()Z"⟩ : MethodName)) hown (mvT hZ (hw _ (own_m 9 rfl))) (mvT hZ (hw _ (own_m 10 rfl))) (notFace_of_selects (args := #[]) (mvT hZ (hw _ (own_m 12 rfl)))) (mvT hZ (hw _ (own_m 12 rfl))) (mvT hZ (hw _ (own_m 11 rfl))) (by decide) (backOf (W := 0) (rm2 l Z a0 hw [] a3 a3 a4 h0 n0 Zle S_RANGE_SHARED S_RANGE_INSERT) hZ (hw _ (own_m 13 rfl)) (hw _ (own_m 5 rfl)) (by decide) (by decide)) q40a q40c (g := (mkF m 11 #[.val (.int x1), .val (.int x2), .val (.ref a3), .val (.ref a1), .unset, .unset] [(.ref a3)])) rfl (by rw [hml]; rfl) (Steps.refl _) (argsL := []) (rest := []) (lenOf pd_1 rfl) rfl (own_le rfl) (hb hby at_11) (fun _ _ => ⟨rfl, e39, (by decide : 0 + 0 ≤ _), (by decide : 0 + 0 ≤ _)⟩)
      dsimp only [Pt.U, Pt.locs, Pt.cells, Pt.slots] at X40 l40 y40 z40 st40 hQ40
      subst l40 y40 z40
      obtain ⟨rfl, Nq40, e40⟩ := hQ40
      have N_ := Fr.app N_ Nq40
      refine own_by (T' := T40) (g' := (mkF m 14 #[.val (.int x1), .val (.int x2), .val (.ref a3), .val (.ref a1), .unset, .unset] [(.int (own_lr a3 a3 a4))])) (fun t k => st40.trans k) ?_
      rw [show (own_lr a3 a3 a4) = (1 : Int32) from by simp [own_lr, ne_a1_a2, ne_a1_a3, ne_a1_a4, ne_a2_a3, ne_a2_a4, ne_a3_a4, ne_a1_a2.symm, ne_a1_a3.symm, ne_a1_a4.symm, ne_a2_a3.symm, ne_a2_a4.symm, ne_a3_a4.symm]]
      refine own_by (T' := T40) (g' := (mkF m 16 #[.val (.int x1), .val (.int x2), .val (.ref a3), .val (.ref a1), .val (.int 1), .unset] [])) (fun t k => XS.istore X40.here hx rfl (hb hby at_14) rfl (l' := #[.val (.int x1), .val (.int x2), .val (.ref a3), .val (.ref a1), .val (.int 1), .unset]) rfl k) ?_
      refine own_by (T' := T40) (g' := (mkF m 17 #[.val (.int x1), .val (.int x2), .val (.ref a3), .val (.ref a1), .val (.int 1), .unset] [(.ref a3)])) (fun t k => XS.aloadN X40.here hx rfl (hb hby at_16) rfl rfl k) ?_
      obtain ⟨cq41, kq41, q41a, q41b, q41c⟩ := isOf hZ e40 E_a3
      obtain ⟨_, _, ⟨T41, L41, k41, n41⟩, -, X41, ⟨Lc41, hQ41, l41, y41, z41⟩, st41⟩ := X40.virtualBack hx (y := (⟨"com/example/hermit_crab/hermitcrab/engine/LockMode", "readPart", "()Lcom/example/hermit_crab/hermitcrab/engine/LockMode;"⟩ : MethodName)) (z := (⟨"com/example/hermit_crab/hermitcrab/engine/LockMode", "readPart", "()Lcom/example/hermit_crab/hermitcrab/engine/LockMode;"⟩ : MethodName)) hown (mvT hZ (hw _ (own_m 17 rfl))) (mvT hZ (hw _ (own_m 18 rfl))) (notFace_of_selects (args := #[]) (mvT hZ (hw _ (own_m 20 rfl)))) (mvT hZ (hw _ (own_m 20 rfl))) (mvT hZ (hw _ (own_m 19 rfl))) (by decide) (backOf (W := 0) (rm3 l Z a0 hw [] a3 (2 : Int32) a1 a3 h0 n0 Zle E_a3 F_ordinal_a3 S_SHARED S_RANGE_SHARED (by decide)) hZ (hw _ (own_m 21 rfl)) (hw _ (own_m 5 rfl)) (by decide) (by decide)) q41a q41c (g := (mkF m 17 #[.val (.int x1), .val (.int x2), .val (.ref a3), .val (.ref a1), .val (.int 1), .unset] [(.ref a3)])) rfl (by rw [hml]; rfl) (Steps.refl _) (argsL := []) (rest := []) (lenOf pd_2 rfl) rfl (own_le rfl) (hb hby at_17) (fun _ _ => ⟨rfl, e40, (by decide : 0 + 0 ≤ _), (by decide : 0 + 0 ≤ _)⟩)
      dsimp only [Pt.U, Pt.locs, Pt.cells, Pt.slots] at X41 l41 y41 z41 st41 hQ41
      subst l41 y41 z41
      obtain ⟨rfl, Nq41, e41⟩ := hQ41
      have N_ := Fr.app N_ Nq41
      refine own_by (T' := T41) (g' := (mkF m 20 #[.val (.int x1), .val (.int x2), .val (.ref a3), .val (.ref a1), .val (.int 1), .unset] [(own_rp (2 : Int32) a1 a3)])) (fun t k => st41.trans k) ?_
      rw [show (own_rp (2 : Int32) a1 a3) = (.ref a3) from by simp [own_rp]]
      obtain ⟨T42, X42, e42, st42⟩ := getS2 X41 hx hZ hown (host := "") (Or.inl (hw _ (own_m 4 rfl))) Via.refl e41 S_SHARED (g := (mkF m 20 #[.val (.int x1), .val (.int x2), .val (.ref a3), .val (.ref a1), .val (.int 1), .unset] [(.ref a3)])) rfl (hb hby at_20)
      refine own_by (T' := T42) (g' := (mkF m 23 #[.val (.int x1), .val (.int x2), .val (.ref a3), .val (.ref a1), .val (.int 1), .unset] [(.ref a1), (.ref a3)])) (fun t k => st42 t k) ?_
      refine own_by (T' := T42) (g' := (mkF m 26 #[.val (.int x1), .val (.int x2), .val (.ref a3), .val (.ref a1), .val (.int 1), .unset] [])) (fun t k => Jvm.RoadKit.acmp (g := (mkF m 23 #[.val (.int x1), .val (.int x2), .val (.ref a3), .val (.ref a1), .val (.int 1), .unset] [(.ref a1), (.ref a3)])) X42 hx rfl rfl rfl (pc0 := 23) (pc' := 26) (same := false) rfl (hb hby at_23) rfl (decide_eq_false fun q => ne_a1_a3.symm (Value.ref.inj q)) (by decide) (by decide) k) ?_
      refine own_by (T' := T42) (g' := (mkF m 27 #[.val (.int x1), .val (.int x2), .val (.ref a3), .val (.ref a1), .val (.int 1), .unset] [(.int 1)])) (fun t k => XS.iconst X42.here hx rfl (hb hby at_26) k) ?_
      refine own_by (T' := T42) (g' := (mkF m 31 #[.val (.int x1), .val (.int x2), .val (.ref a3), .val (.ref a1), .val (.int 1), .unset] [(.int 1)])) (fun t k => XS.goto X42.here hx rfl (pc0 := 27) (pc' := 31) rfl (hb hby at_27) (by decide) (by decide) k) ?_
      refine own_by (T' := T42) (g' := (mkF m 33 #[.val (.int x1), .val (.int x2), .val (.ref a3), .val (.ref a1), .val (.int 1), .val (.int 1)] [])) (fun t k => XS.istore X42.here hx rfl (hb hby at_31) rfl (l' := #[.val (.int x1), .val (.int x2), .val (.ref a3), .val (.ref a1), .val (.int 1), .val (.int 1)]) rfl k) ?_
      refine own_by (T' := T42) (g' := (mkF m 35 #[.val (.int x1), .val (.int x2), .val (.ref a3), .val (.ref a1), .val (.int 1), .val (.int 1)] [(.int 1)])) (fun t k => XS.iload X42.here hx rfl (hb hby at_33) rfl k) ?_
      refine own_by (T' := T42) (g' := (mkF m 37 #[.val (.int x1), .val (.int x2), .val (.ref a3), .val (.ref a1), .val (.int 1), .val (.int 1)] [(.int 1), (.int 1)])) (fun t k => XS.iload X42.here hx rfl (hb hby at_35) rfl k) ?_
      refine own_by (T' := T42) (g' := (mkF m 42 #[.val (.int x1), .val (.int x2), .val (.ref a3), .val (.ref a1), .val (.int 1), .val (.int 1)] [])) (fun t k => XS.icmpYes X42.here hx rfl (pc0 := 37) (pc' := 42) rfl (hb hby at_37) rfl (teq (by decide)).1 (by decide) (by decide) k) ?_
      refine own_by (T' := T42) (g' := (mkF m 43 #[.val (.int x1), .val (.int x2), .val (.ref a3), .val (.ref a1), .val (.int 1), .val (.int 1)] [(.ref a3)])) (fun t k => XS.aloadN X42.here hx rfl (hb hby at_42) rfl rfl k) ?_
      refine own_by (T' := T42) (g' := (mkF m 44 #[.val (.int x1), .val (.int x2), .val (.ref a3), .val (.ref a1), .val (.int 1), .val (.int 1)] [(.ref a1), (.ref a3)])) (fun t k => XS.aloadN X42.here hx rfl (hb hby at_43) rfl rfl k) ?_
      obtain ⟨cq43, kq43, q43a, q43b, q43c⟩ := isOf hZ e42 E_a3
      obtain ⟨_, _, ⟨T43, L43, k43, n43⟩, -, X43, ⟨Lc43, hQ43, l43, y43, z43⟩, st43⟩ := X42.virtualBack hx (y := (⟨"com/example/hermit_crab/hermitcrab/engine/LockMode", "conflictsWith", "(Lcom/example/hermit_crab/hermitcrab/engine/LockMode;)Z"⟩ : MethodName)) (z := (⟨"com/example/hermit_crab/hermitcrab/engine/LockMode", "conflictsWith", "(Lcom/example/hermit_crab/hermitcrab/engine/LockMode;)Z"⟩ : MethodName)) hown (mvT hZ (hw _ (own_m 32 rfl))) (mvT hZ (hw _ (own_m 33 rfl))) (notFace_of_selects (args := #[]) (mvT hZ (hw _ (own_m 35 rfl)))) (mvT hZ (hw _ (own_m 35 rfl))) (mvT hZ (hw _ (own_m 34 rfl))) (by decide) (backOf (W := 0) (rm5 l Z a0 hw [] a3 a1 (2 : Int32) a1 a2 a3 a4 h0 n0 Zle E_a3 F_ordinal_a3 S_SHARED S_EXCLUSIVE S_RANGE_SHARED S_RANGE_INSERT (by decide)) hZ (hw _ (own_m 36 rfl)) (hw _ (own_m 5 rfl)) (by decide) (by decide)) q43a q43c (g := (mkF m 44 #[.val (.int x1), .val (.int x2), .val (.ref a3), .val (.ref a1), .val (.int 1), .val (.int 1)] [(.ref a1), (.ref a3)])) rfl (by rw [hml]; rfl) (Steps.refl _) (argsL := [(.ref a1)]) (rest := []) (lenOf pd_4 rfl) rfl (own_le rfl) (hb hby at_44) (fun _ _ => ⟨rfl, e42, (by decide : 0 + 0 ≤ _), (by decide : 0 + 0 ≤ _)⟩)
      dsimp only [Pt.U, Pt.locs, Pt.cells, Pt.slots] at X43 l43 y43 z43 st43 hQ43
      subst l43 y43 z43
      obtain ⟨rfl, Nq43, e43⟩ := hQ43
      have N_ := Fr.app N_ Nq43
      refine own_by (T' := T43) (g' := (mkF m 47 #[.val (.int x1), .val (.int x2), .val (.ref a3), .val (.ref a1), .val (.int 1), .val (.int 1)] [(.int (own_cf (2 : Int32) a1 a1 a2 a3 a4))])) (fun t k => st43.trans k) ?_
      rw [show (own_cf (2 : Int32) a1 a1 a2 a3 a4) = (0 : Int32) from by simp [own_cf, ne_a1_a2, ne_a1_a3, ne_a1_a4, ne_a2_a3, ne_a2_a4, ne_a3_a4, ne_a1_a2.symm, ne_a1_a3.symm, ne_a1_a4.symm, ne_a2_a3.symm, ne_a2_a4.symm, ne_a3_a4.symm]]
      refine own_by (T' := T43) (g' := (mkF m 61 #[.val (.int x1), .val (.int x2), .val (.ref a3), .val (.ref a1), .val (.int 1), .val (.int 1)] [])) (fun t k => XS.ifYes X43.here hx rfl (pc0 := 47) (pc' := 61) rfl (hb hby at_47) rfl ((if0 _ _).trans (teq (by decide)).1) (by decide) (by decide) k) ?_
      refine own_by (T' := T43) (g' := (mkF m 62 #[.val (.int x1), .val (.int x2), .val (.ref a3), .val (.ref a1), .val (.int 1), .val (.int 1)] [(.int 1)])) (fun t k => XS.iconst X43.here hx rfl (hb hby at_61) k) ?_
      exact own_retN X43 hx (t := .boolean) Bd.notSynchronized Bd.returns (by simp) (hb hby at_62) (by decide) (by decide) (by rw [e43]; exact ⟨rfl, N_⟩)
    · rw [hp]
      refine own_by (T' := T39) (g' := (mkF m 10 #[.val (.int x1), .val (.int x2), .val (.ref a3), .val (.ref a2), .unset, .unset] [])) (fun t k => XS.astoreN X39.here hx rfl (hb hby at_9) rfl rfl (l' := #[.val (.int x1), .val (.int x2), .val (.ref a3), .val (.ref a2), .unset, .unset]) rfl k) ?_
      refine own_by (T' := T39) (g' := (mkF m 11 #[.val (.int x1), .val (.int x2), .val (.ref a3), .val (.ref a2), .unset, .unset] [(.ref a3)])) (fun t k => XS.aloadN X39.here hx rfl (hb hby at_10) rfl rfl k) ?_
      obtain ⟨cq44, kq44, q44a, q44b, q44c⟩ := isOf hZ e39 E_a3
      obtain ⟨_, _, ⟨T44, L44, k44, n44⟩, -, X44, ⟨Lc44, hQ44, l44, y44, z44⟩, st44⟩ := X39.virtualBack hx (y := (⟨"com/example/hermit_crab/hermitcrab/engine/LockMode", "locksRange", "()Z"⟩ : MethodName)) (z := (⟨"com/example/hermit_crab/hermitcrab/engine/LockMode", "locksRange", "()Z"⟩ : MethodName)) hown (mvT hZ (hw _ (own_m 9 rfl))) (mvT hZ (hw _ (own_m 10 rfl))) (notFace_of_selects (args := #[]) (mvT hZ (hw _ (own_m 12 rfl)))) (mvT hZ (hw _ (own_m 12 rfl))) (mvT hZ (hw _ (own_m 11 rfl))) (by decide) (backOf (W := 0) (rm2 l Z a0 hw [] a3 a3 a4 h0 n0 Zle S_RANGE_SHARED S_RANGE_INSERT) hZ (hw _ (own_m 13 rfl)) (hw _ (own_m 5 rfl)) (by decide) (by decide)) q44a q44c (g := (mkF m 11 #[.val (.int x1), .val (.int x2), .val (.ref a3), .val (.ref a2), .unset, .unset] [(.ref a3)])) rfl (by rw [hml]; rfl) (Steps.refl _) (argsL := []) (rest := []) (lenOf pd_1 rfl) rfl (own_le rfl) (hb hby at_11) (fun _ _ => ⟨rfl, e39, (by decide : 0 + 0 ≤ _), (by decide : 0 + 0 ≤ _)⟩)
      dsimp only [Pt.U, Pt.locs, Pt.cells, Pt.slots] at X44 l44 y44 z44 st44 hQ44
      subst l44 y44 z44
      obtain ⟨rfl, Nq44, e44⟩ := hQ44
      have N_ := Fr.app N_ Nq44
      refine own_by (T' := T44) (g' := (mkF m 14 #[.val (.int x1), .val (.int x2), .val (.ref a3), .val (.ref a2), .unset, .unset] [(.int (own_lr a3 a3 a4))])) (fun t k => st44.trans k) ?_
      rw [show (own_lr a3 a3 a4) = (1 : Int32) from by simp [own_lr, ne_a1_a2, ne_a1_a3, ne_a1_a4, ne_a2_a3, ne_a2_a4, ne_a3_a4, ne_a1_a2.symm, ne_a1_a3.symm, ne_a1_a4.symm, ne_a2_a3.symm, ne_a2_a4.symm, ne_a3_a4.symm]]
      refine own_by (T' := T44) (g' := (mkF m 16 #[.val (.int x1), .val (.int x2), .val (.ref a3), .val (.ref a2), .val (.int 1), .unset] [])) (fun t k => XS.istore X44.here hx rfl (hb hby at_14) rfl (l' := #[.val (.int x1), .val (.int x2), .val (.ref a3), .val (.ref a2), .val (.int 1), .unset]) rfl k) ?_
      refine own_by (T' := T44) (g' := (mkF m 17 #[.val (.int x1), .val (.int x2), .val (.ref a3), .val (.ref a2), .val (.int 1), .unset] [(.ref a3)])) (fun t k => XS.aloadN X44.here hx rfl (hb hby at_16) rfl rfl k) ?_
      obtain ⟨cq45, kq45, q45a, q45b, q45c⟩ := isOf hZ e44 E_a3
      obtain ⟨_, _, ⟨T45, L45, k45, n45⟩, -, X45, ⟨Lc45, hQ45, l45, y45, z45⟩, st45⟩ := X44.virtualBack hx (y := (⟨"com/example/hermit_crab/hermitcrab/engine/LockMode", "readPart", "()Lcom/example/hermit_crab/hermitcrab/engine/LockMode;"⟩ : MethodName)) (z := (⟨"com/example/hermit_crab/hermitcrab/engine/LockMode", "readPart", "()Lcom/example/hermit_crab/hermitcrab/engine/LockMode;"⟩ : MethodName)) hown (mvT hZ (hw _ (own_m 17 rfl))) (mvT hZ (hw _ (own_m 18 rfl))) (notFace_of_selects (args := #[]) (mvT hZ (hw _ (own_m 20 rfl)))) (mvT hZ (hw _ (own_m 20 rfl))) (mvT hZ (hw _ (own_m 19 rfl))) (by decide) (backOf (W := 0) (rm3 l Z a0 hw [] a3 (2 : Int32) a1 a3 h0 n0 Zle E_a3 F_ordinal_a3 S_SHARED S_RANGE_SHARED (by decide)) hZ (hw _ (own_m 21 rfl)) (hw _ (own_m 5 rfl)) (by decide) (by decide)) q45a q45c (g := (mkF m 17 #[.val (.int x1), .val (.int x2), .val (.ref a3), .val (.ref a2), .val (.int 1), .unset] [(.ref a3)])) rfl (by rw [hml]; rfl) (Steps.refl _) (argsL := []) (rest := []) (lenOf pd_2 rfl) rfl (own_le rfl) (hb hby at_17) (fun _ _ => ⟨rfl, e44, (by decide : 0 + 0 ≤ _), (by decide : 0 + 0 ≤ _)⟩)
      dsimp only [Pt.U, Pt.locs, Pt.cells, Pt.slots] at X45 l45 y45 z45 st45 hQ45
      subst l45 y45 z45
      obtain ⟨rfl, Nq45, e45⟩ := hQ45
      have N_ := Fr.app N_ Nq45
      refine own_by (T' := T45) (g' := (mkF m 20 #[.val (.int x1), .val (.int x2), .val (.ref a3), .val (.ref a2), .val (.int 1), .unset] [(own_rp (2 : Int32) a1 a3)])) (fun t k => st45.trans k) ?_
      rw [show (own_rp (2 : Int32) a1 a3) = (.ref a3) from by simp [own_rp]]
      obtain ⟨T46, X46, e46, st46⟩ := getS2 X45 hx hZ hown (host := "") (Or.inl (hw _ (own_m 4 rfl))) Via.refl e45 S_SHARED (g := (mkF m 20 #[.val (.int x1), .val (.int x2), .val (.ref a3), .val (.ref a2), .val (.int 1), .unset] [(.ref a3)])) rfl (hb hby at_20)
      refine own_by (T' := T46) (g' := (mkF m 23 #[.val (.int x1), .val (.int x2), .val (.ref a3), .val (.ref a2), .val (.int 1), .unset] [(.ref a1), (.ref a3)])) (fun t k => st46 t k) ?_
      refine own_by (T' := T46) (g' := (mkF m 26 #[.val (.int x1), .val (.int x2), .val (.ref a3), .val (.ref a2), .val (.int 1), .unset] [])) (fun t k => Jvm.RoadKit.acmp (g := (mkF m 23 #[.val (.int x1), .val (.int x2), .val (.ref a3), .val (.ref a2), .val (.int 1), .unset] [(.ref a1), (.ref a3)])) X46 hx rfl rfl rfl (pc0 := 23) (pc' := 26) (same := false) rfl (hb hby at_23) rfl (decide_eq_false fun q => ne_a1_a3.symm (Value.ref.inj q)) (by decide) (by decide) k) ?_
      refine own_by (T' := T46) (g' := (mkF m 27 #[.val (.int x1), .val (.int x2), .val (.ref a3), .val (.ref a2), .val (.int 1), .unset] [(.int 1)])) (fun t k => XS.iconst X46.here hx rfl (hb hby at_26) k) ?_
      refine own_by (T' := T46) (g' := (mkF m 31 #[.val (.int x1), .val (.int x2), .val (.ref a3), .val (.ref a2), .val (.int 1), .unset] [(.int 1)])) (fun t k => XS.goto X46.here hx rfl (pc0 := 27) (pc' := 31) rfl (hb hby at_27) (by decide) (by decide) k) ?_
      refine own_by (T' := T46) (g' := (mkF m 33 #[.val (.int x1), .val (.int x2), .val (.ref a3), .val (.ref a2), .val (.int 1), .val (.int 1)] [])) (fun t k => XS.istore X46.here hx rfl (hb hby at_31) rfl (l' := #[.val (.int x1), .val (.int x2), .val (.ref a3), .val (.ref a2), .val (.int 1), .val (.int 1)]) rfl k) ?_
      refine own_by (T' := T46) (g' := (mkF m 35 #[.val (.int x1), .val (.int x2), .val (.ref a3), .val (.ref a2), .val (.int 1), .val (.int 1)] [(.int 1)])) (fun t k => XS.iload X46.here hx rfl (hb hby at_33) rfl k) ?_
      refine own_by (T' := T46) (g' := (mkF m 37 #[.val (.int x1), .val (.int x2), .val (.ref a3), .val (.ref a2), .val (.int 1), .val (.int 1)] [(.int 1), (.int 1)])) (fun t k => XS.iload X46.here hx rfl (hb hby at_35) rfl k) ?_
      refine own_by (T' := T46) (g' := (mkF m 42 #[.val (.int x1), .val (.int x2), .val (.ref a3), .val (.ref a2), .val (.int 1), .val (.int 1)] [])) (fun t k => XS.icmpYes X46.here hx rfl (pc0 := 37) (pc' := 42) rfl (hb hby at_37) rfl (teq (by decide)).1 (by decide) (by decide) k) ?_
      refine own_by (T' := T46) (g' := (mkF m 43 #[.val (.int x1), .val (.int x2), .val (.ref a3), .val (.ref a2), .val (.int 1), .val (.int 1)] [(.ref a3)])) (fun t k => XS.aloadN X46.here hx rfl (hb hby at_42) rfl rfl k) ?_
      refine own_by (T' := T46) (g' := (mkF m 44 #[.val (.int x1), .val (.int x2), .val (.ref a3), .val (.ref a2), .val (.int 1), .val (.int 1)] [(.ref a2), (.ref a3)])) (fun t k => XS.aloadN X46.here hx rfl (hb hby at_43) rfl rfl k) ?_
      obtain ⟨cq47, kq47, q47a, q47b, q47c⟩ := isOf hZ e46 E_a3
      obtain ⟨_, _, ⟨T47, L47, k47, n47⟩, -, X47, ⟨Lc47, hQ47, l47, y47, z47⟩, st47⟩ := X46.virtualBack hx (y := (⟨"com/example/hermit_crab/hermitcrab/engine/LockMode", "conflictsWith", "(Lcom/example/hermit_crab/hermitcrab/engine/LockMode;)Z"⟩ : MethodName)) (z := (⟨"com/example/hermit_crab/hermitcrab/engine/LockMode", "conflictsWith", "(Lcom/example/hermit_crab/hermitcrab/engine/LockMode;)Z"⟩ : MethodName)) hown (mvT hZ (hw _ (own_m 32 rfl))) (mvT hZ (hw _ (own_m 33 rfl))) (notFace_of_selects (args := #[]) (mvT hZ (hw _ (own_m 35 rfl)))) (mvT hZ (hw _ (own_m 35 rfl))) (mvT hZ (hw _ (own_m 34 rfl))) (by decide) (backOf (W := 0) (rm5 l Z a0 hw [] a3 a2 (2 : Int32) a1 a2 a3 a4 h0 n0 Zle E_a3 F_ordinal_a3 S_SHARED S_EXCLUSIVE S_RANGE_SHARED S_RANGE_INSERT (by decide)) hZ (hw _ (own_m 36 rfl)) (hw _ (own_m 5 rfl)) (by decide) (by decide)) q47a q47c (g := (mkF m 44 #[.val (.int x1), .val (.int x2), .val (.ref a3), .val (.ref a2), .val (.int 1), .val (.int 1)] [(.ref a2), (.ref a3)])) rfl (by rw [hml]; rfl) (Steps.refl _) (argsL := [(.ref a2)]) (rest := []) (lenOf pd_4 rfl) rfl (own_le rfl) (hb hby at_44) (fun _ _ => ⟨rfl, e46, (by decide : 0 + 0 ≤ _), (by decide : 0 + 0 ≤ _)⟩)
      dsimp only [Pt.U, Pt.locs, Pt.cells, Pt.slots] at X47 l47 y47 z47 st47 hQ47
      subst l47 y47 z47
      obtain ⟨rfl, Nq47, e47⟩ := hQ47
      have N_ := Fr.app N_ Nq47
      refine own_by (T' := T47) (g' := (mkF m 47 #[.val (.int x1), .val (.int x2), .val (.ref a3), .val (.ref a2), .val (.int 1), .val (.int 1)] [(.int (own_cf (2 : Int32) a2 a1 a2 a3 a4))])) (fun t k => st47.trans k) ?_
      rw [show (own_cf (2 : Int32) a2 a1 a2 a3 a4) = (0 : Int32) from by simp [own_cf, ne_a1_a2, ne_a1_a3, ne_a1_a4, ne_a2_a3, ne_a2_a4, ne_a3_a4, ne_a1_a2.symm, ne_a1_a3.symm, ne_a1_a4.symm, ne_a2_a3.symm, ne_a2_a4.symm, ne_a3_a4.symm]]
      refine own_by (T' := T47) (g' := (mkF m 61 #[.val (.int x1), .val (.int x2), .val (.ref a3), .val (.ref a2), .val (.int 1), .val (.int 1)] [])) (fun t k => XS.ifYes X47.here hx rfl (pc0 := 47) (pc' := 61) rfl (hb hby at_47) rfl ((if0 _ _).trans (teq (by decide)).1) (by decide) (by decide) k) ?_
      refine own_by (T' := T47) (g' := (mkF m 62 #[.val (.int x1), .val (.int x2), .val (.ref a3), .val (.ref a2), .val (.int 1), .val (.int 1)] [(.int 1)])) (fun t k => XS.iconst X47.here hx rfl (hb hby at_61) k) ?_
      exact own_retN X47 hx (t := .boolean) Bd.notSynchronized Bd.returns (by simp) (hb hby at_62) (by decide) (by decide) (by rw [e47]; exact ⟨rfl, N_⟩)
    · rw [hp]
      refine own_by (T' := T39) (g' := (mkF m 10 #[.val (.int x1), .val (.int x2), .val (.ref a3), .val (.ref a3), .unset, .unset] [])) (fun t k => XS.astoreN X39.here hx rfl (hb hby at_9) rfl rfl (l' := #[.val (.int x1), .val (.int x2), .val (.ref a3), .val (.ref a3), .unset, .unset]) rfl k) ?_
      refine own_by (T' := T39) (g' := (mkF m 11 #[.val (.int x1), .val (.int x2), .val (.ref a3), .val (.ref a3), .unset, .unset] [(.ref a3)])) (fun t k => XS.aloadN X39.here hx rfl (hb hby at_10) rfl rfl k) ?_
      obtain ⟨cq48, kq48, q48a, q48b, q48c⟩ := isOf hZ e39 E_a3
      obtain ⟨_, _, ⟨T48, L48, k48, n48⟩, -, X48, ⟨Lc48, hQ48, l48, y48, z48⟩, st48⟩ := X39.virtualBack hx (y := (⟨"com/example/hermit_crab/hermitcrab/engine/LockMode", "locksRange", "()Z"⟩ : MethodName)) (z := (⟨"com/example/hermit_crab/hermitcrab/engine/LockMode", "locksRange", "()Z"⟩ : MethodName)) hown (mvT hZ (hw _ (own_m 9 rfl))) (mvT hZ (hw _ (own_m 10 rfl))) (notFace_of_selects (args := #[]) (mvT hZ (hw _ (own_m 12 rfl)))) (mvT hZ (hw _ (own_m 12 rfl))) (mvT hZ (hw _ (own_m 11 rfl))) (by decide) (backOf (W := 0) (rm2 l Z a0 hw [] a3 a3 a4 h0 n0 Zle S_RANGE_SHARED S_RANGE_INSERT) hZ (hw _ (own_m 13 rfl)) (hw _ (own_m 5 rfl)) (by decide) (by decide)) q48a q48c (g := (mkF m 11 #[.val (.int x1), .val (.int x2), .val (.ref a3), .val (.ref a3), .unset, .unset] [(.ref a3)])) rfl (by rw [hml]; rfl) (Steps.refl _) (argsL := []) (rest := []) (lenOf pd_1 rfl) rfl (own_le rfl) (hb hby at_11) (fun _ _ => ⟨rfl, e39, (by decide : 0 + 0 ≤ _), (by decide : 0 + 0 ≤ _)⟩)
      dsimp only [Pt.U, Pt.locs, Pt.cells, Pt.slots] at X48 l48 y48 z48 st48 hQ48
      subst l48 y48 z48
      obtain ⟨rfl, Nq48, e48⟩ := hQ48
      have N_ := Fr.app N_ Nq48
      refine own_by (T' := T48) (g' := (mkF m 14 #[.val (.int x1), .val (.int x2), .val (.ref a3), .val (.ref a3), .unset, .unset] [(.int (own_lr a3 a3 a4))])) (fun t k => st48.trans k) ?_
      rw [show (own_lr a3 a3 a4) = (1 : Int32) from by simp [own_lr, ne_a1_a2, ne_a1_a3, ne_a1_a4, ne_a2_a3, ne_a2_a4, ne_a3_a4, ne_a1_a2.symm, ne_a1_a3.symm, ne_a1_a4.symm, ne_a2_a3.symm, ne_a2_a4.symm, ne_a3_a4.symm]]
      refine own_by (T' := T48) (g' := (mkF m 16 #[.val (.int x1), .val (.int x2), .val (.ref a3), .val (.ref a3), .val (.int 1), .unset] [])) (fun t k => XS.istore X48.here hx rfl (hb hby at_14) rfl (l' := #[.val (.int x1), .val (.int x2), .val (.ref a3), .val (.ref a3), .val (.int 1), .unset]) rfl k) ?_
      refine own_by (T' := T48) (g' := (mkF m 17 #[.val (.int x1), .val (.int x2), .val (.ref a3), .val (.ref a3), .val (.int 1), .unset] [(.ref a3)])) (fun t k => XS.aloadN X48.here hx rfl (hb hby at_16) rfl rfl k) ?_
      obtain ⟨cq49, kq49, q49a, q49b, q49c⟩ := isOf hZ e48 E_a3
      obtain ⟨_, _, ⟨T49, L49, k49, n49⟩, -, X49, ⟨Lc49, hQ49, l49, y49, z49⟩, st49⟩ := X48.virtualBack hx (y := (⟨"com/example/hermit_crab/hermitcrab/engine/LockMode", "readPart", "()Lcom/example/hermit_crab/hermitcrab/engine/LockMode;"⟩ : MethodName)) (z := (⟨"com/example/hermit_crab/hermitcrab/engine/LockMode", "readPart", "()Lcom/example/hermit_crab/hermitcrab/engine/LockMode;"⟩ : MethodName)) hown (mvT hZ (hw _ (own_m 17 rfl))) (mvT hZ (hw _ (own_m 18 rfl))) (notFace_of_selects (args := #[]) (mvT hZ (hw _ (own_m 20 rfl)))) (mvT hZ (hw _ (own_m 20 rfl))) (mvT hZ (hw _ (own_m 19 rfl))) (by decide) (backOf (W := 0) (rm3 l Z a0 hw [] a3 (2 : Int32) a1 a3 h0 n0 Zle E_a3 F_ordinal_a3 S_SHARED S_RANGE_SHARED (by decide)) hZ (hw _ (own_m 21 rfl)) (hw _ (own_m 5 rfl)) (by decide) (by decide)) q49a q49c (g := (mkF m 17 #[.val (.int x1), .val (.int x2), .val (.ref a3), .val (.ref a3), .val (.int 1), .unset] [(.ref a3)])) rfl (by rw [hml]; rfl) (Steps.refl _) (argsL := []) (rest := []) (lenOf pd_2 rfl) rfl (own_le rfl) (hb hby at_17) (fun _ _ => ⟨rfl, e48, (by decide : 0 + 0 ≤ _), (by decide : 0 + 0 ≤ _)⟩)
      dsimp only [Pt.U, Pt.locs, Pt.cells, Pt.slots] at X49 l49 y49 z49 st49 hQ49
      subst l49 y49 z49
      obtain ⟨rfl, Nq49, e49⟩ := hQ49
      have N_ := Fr.app N_ Nq49
      refine own_by (T' := T49) (g' := (mkF m 20 #[.val (.int x1), .val (.int x2), .val (.ref a3), .val (.ref a3), .val (.int 1), .unset] [(own_rp (2 : Int32) a1 a3)])) (fun t k => st49.trans k) ?_
      rw [show (own_rp (2 : Int32) a1 a3) = (.ref a3) from by simp [own_rp]]
      obtain ⟨T50, X50, e50, st50⟩ := getS2 X49 hx hZ hown (host := "") (Or.inl (hw _ (own_m 4 rfl))) Via.refl e49 S_SHARED (g := (mkF m 20 #[.val (.int x1), .val (.int x2), .val (.ref a3), .val (.ref a3), .val (.int 1), .unset] [(.ref a3)])) rfl (hb hby at_20)
      refine own_by (T' := T50) (g' := (mkF m 23 #[.val (.int x1), .val (.int x2), .val (.ref a3), .val (.ref a3), .val (.int 1), .unset] [(.ref a1), (.ref a3)])) (fun t k => st50 t k) ?_
      refine own_by (T' := T50) (g' := (mkF m 26 #[.val (.int x1), .val (.int x2), .val (.ref a3), .val (.ref a3), .val (.int 1), .unset] [])) (fun t k => Jvm.RoadKit.acmp (g := (mkF m 23 #[.val (.int x1), .val (.int x2), .val (.ref a3), .val (.ref a3), .val (.int 1), .unset] [(.ref a1), (.ref a3)])) X50 hx rfl rfl rfl (pc0 := 23) (pc' := 26) (same := false) rfl (hb hby at_23) rfl (decide_eq_false fun q => ne_a1_a3.symm (Value.ref.inj q)) (by decide) (by decide) k) ?_
      refine own_by (T' := T50) (g' := (mkF m 27 #[.val (.int x1), .val (.int x2), .val (.ref a3), .val (.ref a3), .val (.int 1), .unset] [(.int 1)])) (fun t k => XS.iconst X50.here hx rfl (hb hby at_26) k) ?_
      refine own_by (T' := T50) (g' := (mkF m 31 #[.val (.int x1), .val (.int x2), .val (.ref a3), .val (.ref a3), .val (.int 1), .unset] [(.int 1)])) (fun t k => XS.goto X50.here hx rfl (pc0 := 27) (pc' := 31) rfl (hb hby at_27) (by decide) (by decide) k) ?_
      refine own_by (T' := T50) (g' := (mkF m 33 #[.val (.int x1), .val (.int x2), .val (.ref a3), .val (.ref a3), .val (.int 1), .val (.int 1)] [])) (fun t k => XS.istore X50.here hx rfl (hb hby at_31) rfl (l' := #[.val (.int x1), .val (.int x2), .val (.ref a3), .val (.ref a3), .val (.int 1), .val (.int 1)]) rfl k) ?_
      refine own_by (T' := T50) (g' := (mkF m 35 #[.val (.int x1), .val (.int x2), .val (.ref a3), .val (.ref a3), .val (.int 1), .val (.int 1)] [(.int 1)])) (fun t k => XS.iload X50.here hx rfl (hb hby at_33) rfl k) ?_
      refine own_by (T' := T50) (g' := (mkF m 37 #[.val (.int x1), .val (.int x2), .val (.ref a3), .val (.ref a3), .val (.int 1), .val (.int 1)] [(.int 1), (.int 1)])) (fun t k => XS.iload X50.here hx rfl (hb hby at_35) rfl k) ?_
      refine own_by (T' := T50) (g' := (mkF m 42 #[.val (.int x1), .val (.int x2), .val (.ref a3), .val (.ref a3), .val (.int 1), .val (.int 1)] [])) (fun t k => XS.icmpYes X50.here hx rfl (pc0 := 37) (pc' := 42) rfl (hb hby at_37) rfl (teq (by decide)).1 (by decide) (by decide) k) ?_
      refine own_by (T' := T50) (g' := (mkF m 43 #[.val (.int x1), .val (.int x2), .val (.ref a3), .val (.ref a3), .val (.int 1), .val (.int 1)] [(.ref a3)])) (fun t k => XS.aloadN X50.here hx rfl (hb hby at_42) rfl rfl k) ?_
      refine own_by (T' := T50) (g' := (mkF m 44 #[.val (.int x1), .val (.int x2), .val (.ref a3), .val (.ref a3), .val (.int 1), .val (.int 1)] [(.ref a3), (.ref a3)])) (fun t k => XS.aloadN X50.here hx rfl (hb hby at_43) rfl rfl k) ?_
      obtain ⟨cq51, kq51, q51a, q51b, q51c⟩ := isOf hZ e50 E_a3
      obtain ⟨_, _, ⟨T51, L51, k51, n51⟩, -, X51, ⟨Lc51, hQ51, l51, y51, z51⟩, st51⟩ := X50.virtualBack hx (y := (⟨"com/example/hermit_crab/hermitcrab/engine/LockMode", "conflictsWith", "(Lcom/example/hermit_crab/hermitcrab/engine/LockMode;)Z"⟩ : MethodName)) (z := (⟨"com/example/hermit_crab/hermitcrab/engine/LockMode", "conflictsWith", "(Lcom/example/hermit_crab/hermitcrab/engine/LockMode;)Z"⟩ : MethodName)) hown (mvT hZ (hw _ (own_m 32 rfl))) (mvT hZ (hw _ (own_m 33 rfl))) (notFace_of_selects (args := #[]) (mvT hZ (hw _ (own_m 35 rfl)))) (mvT hZ (hw _ (own_m 35 rfl))) (mvT hZ (hw _ (own_m 34 rfl))) (by decide) (backOf (W := 0) (rm5 l Z a0 hw [] a3 a3 (2 : Int32) a1 a2 a3 a4 h0 n0 Zle E_a3 F_ordinal_a3 S_SHARED S_EXCLUSIVE S_RANGE_SHARED S_RANGE_INSERT (by decide)) hZ (hw _ (own_m 36 rfl)) (hw _ (own_m 5 rfl)) (by decide) (by decide)) q51a q51c (g := (mkF m 44 #[.val (.int x1), .val (.int x2), .val (.ref a3), .val (.ref a3), .val (.int 1), .val (.int 1)] [(.ref a3), (.ref a3)])) rfl (by rw [hml]; rfl) (Steps.refl _) (argsL := [(.ref a3)]) (rest := []) (lenOf pd_4 rfl) rfl (own_le rfl) (hb hby at_44) (fun _ _ => ⟨rfl, e50, (by decide : 0 + 0 ≤ _), (by decide : 0 + 0 ≤ _)⟩)
      dsimp only [Pt.U, Pt.locs, Pt.cells, Pt.slots] at X51 l51 y51 z51 st51 hQ51
      subst l51 y51 z51
      obtain ⟨rfl, Nq51, e51⟩ := hQ51
      have N_ := Fr.app N_ Nq51
      refine own_by (T' := T51) (g' := (mkF m 47 #[.val (.int x1), .val (.int x2), .val (.ref a3), .val (.ref a3), .val (.int 1), .val (.int 1)] [(.int (own_cf (2 : Int32) a3 a1 a2 a3 a4))])) (fun t k => st51.trans k) ?_
      rw [show (own_cf (2 : Int32) a3 a1 a2 a3 a4) = (0 : Int32) from by simp [own_cf, ne_a1_a2, ne_a1_a3, ne_a1_a4, ne_a2_a3, ne_a2_a4, ne_a3_a4, ne_a1_a2.symm, ne_a1_a3.symm, ne_a1_a4.symm, ne_a2_a3.symm, ne_a2_a4.symm, ne_a3_a4.symm]]
      refine own_by (T' := T51) (g' := (mkF m 61 #[.val (.int x1), .val (.int x2), .val (.ref a3), .val (.ref a3), .val (.int 1), .val (.int 1)] [])) (fun t k => XS.ifYes X51.here hx rfl (pc0 := 47) (pc' := 61) rfl (hb hby at_47) rfl ((if0 _ _).trans (teq (by decide)).1) (by decide) (by decide) k) ?_
      refine own_by (T' := T51) (g' := (mkF m 62 #[.val (.int x1), .val (.int x2), .val (.ref a3), .val (.ref a3), .val (.int 1), .val (.int 1)] [(.int 1)])) (fun t k => XS.iconst X51.here hx rfl (hb hby at_61) k) ?_
      exact own_retN X51 hx (t := .boolean) Bd.notSynchronized Bd.returns (by simp) (hb hby at_62) (by decide) (by decide) (by rw [e51]; exact ⟨rfl, N_⟩)
    · rw [hp]
      refine own_by (T' := T39) (g' := (mkF m 10 #[.val (.int x1), .val (.int x2), .val (.ref a3), .val (.ref a4), .unset, .unset] [])) (fun t k => XS.astoreN X39.here hx rfl (hb hby at_9) rfl rfl (l' := #[.val (.int x1), .val (.int x2), .val (.ref a3), .val (.ref a4), .unset, .unset]) rfl k) ?_
      refine own_by (T' := T39) (g' := (mkF m 11 #[.val (.int x1), .val (.int x2), .val (.ref a3), .val (.ref a4), .unset, .unset] [(.ref a3)])) (fun t k => XS.aloadN X39.here hx rfl (hb hby at_10) rfl rfl k) ?_
      obtain ⟨cq52, kq52, q52a, q52b, q52c⟩ := isOf hZ e39 E_a3
      obtain ⟨_, _, ⟨T52, L52, k52, n52⟩, -, X52, ⟨Lc52, hQ52, l52, y52, z52⟩, st52⟩ := X39.virtualBack hx (y := (⟨"com/example/hermit_crab/hermitcrab/engine/LockMode", "locksRange", "()Z"⟩ : MethodName)) (z := (⟨"com/example/hermit_crab/hermitcrab/engine/LockMode", "locksRange", "()Z"⟩ : MethodName)) hown (mvT hZ (hw _ (own_m 9 rfl))) (mvT hZ (hw _ (own_m 10 rfl))) (notFace_of_selects (args := #[]) (mvT hZ (hw _ (own_m 12 rfl)))) (mvT hZ (hw _ (own_m 12 rfl))) (mvT hZ (hw _ (own_m 11 rfl))) (by decide) (backOf (W := 0) (rm2 l Z a0 hw [] a3 a3 a4 h0 n0 Zle S_RANGE_SHARED S_RANGE_INSERT) hZ (hw _ (own_m 13 rfl)) (hw _ (own_m 5 rfl)) (by decide) (by decide)) q52a q52c (g := (mkF m 11 #[.val (.int x1), .val (.int x2), .val (.ref a3), .val (.ref a4), .unset, .unset] [(.ref a3)])) rfl (by rw [hml]; rfl) (Steps.refl _) (argsL := []) (rest := []) (lenOf pd_1 rfl) rfl (own_le rfl) (hb hby at_11) (fun _ _ => ⟨rfl, e39, (by decide : 0 + 0 ≤ _), (by decide : 0 + 0 ≤ _)⟩)
      dsimp only [Pt.U, Pt.locs, Pt.cells, Pt.slots] at X52 l52 y52 z52 st52 hQ52
      subst l52 y52 z52
      obtain ⟨rfl, Nq52, e52⟩ := hQ52
      have N_ := Fr.app N_ Nq52
      refine own_by (T' := T52) (g' := (mkF m 14 #[.val (.int x1), .val (.int x2), .val (.ref a3), .val (.ref a4), .unset, .unset] [(.int (own_lr a3 a3 a4))])) (fun t k => st52.trans k) ?_
      rw [show (own_lr a3 a3 a4) = (1 : Int32) from by simp [own_lr, ne_a1_a2, ne_a1_a3, ne_a1_a4, ne_a2_a3, ne_a2_a4, ne_a3_a4, ne_a1_a2.symm, ne_a1_a3.symm, ne_a1_a4.symm, ne_a2_a3.symm, ne_a2_a4.symm, ne_a3_a4.symm]]
      refine own_by (T' := T52) (g' := (mkF m 16 #[.val (.int x1), .val (.int x2), .val (.ref a3), .val (.ref a4), .val (.int 1), .unset] [])) (fun t k => XS.istore X52.here hx rfl (hb hby at_14) rfl (l' := #[.val (.int x1), .val (.int x2), .val (.ref a3), .val (.ref a4), .val (.int 1), .unset]) rfl k) ?_
      refine own_by (T' := T52) (g' := (mkF m 17 #[.val (.int x1), .val (.int x2), .val (.ref a3), .val (.ref a4), .val (.int 1), .unset] [(.ref a3)])) (fun t k => XS.aloadN X52.here hx rfl (hb hby at_16) rfl rfl k) ?_
      obtain ⟨cq53, kq53, q53a, q53b, q53c⟩ := isOf hZ e52 E_a3
      obtain ⟨_, _, ⟨T53, L53, k53, n53⟩, -, X53, ⟨Lc53, hQ53, l53, y53, z53⟩, st53⟩ := X52.virtualBack hx (y := (⟨"com/example/hermit_crab/hermitcrab/engine/LockMode", "readPart", "()Lcom/example/hermit_crab/hermitcrab/engine/LockMode;"⟩ : MethodName)) (z := (⟨"com/example/hermit_crab/hermitcrab/engine/LockMode", "readPart", "()Lcom/example/hermit_crab/hermitcrab/engine/LockMode;"⟩ : MethodName)) hown (mvT hZ (hw _ (own_m 17 rfl))) (mvT hZ (hw _ (own_m 18 rfl))) (notFace_of_selects (args := #[]) (mvT hZ (hw _ (own_m 20 rfl)))) (mvT hZ (hw _ (own_m 20 rfl))) (mvT hZ (hw _ (own_m 19 rfl))) (by decide) (backOf (W := 0) (rm3 l Z a0 hw [] a3 (2 : Int32) a1 a3 h0 n0 Zle E_a3 F_ordinal_a3 S_SHARED S_RANGE_SHARED (by decide)) hZ (hw _ (own_m 21 rfl)) (hw _ (own_m 5 rfl)) (by decide) (by decide)) q53a q53c (g := (mkF m 17 #[.val (.int x1), .val (.int x2), .val (.ref a3), .val (.ref a4), .val (.int 1), .unset] [(.ref a3)])) rfl (by rw [hml]; rfl) (Steps.refl _) (argsL := []) (rest := []) (lenOf pd_2 rfl) rfl (own_le rfl) (hb hby at_17) (fun _ _ => ⟨rfl, e52, (by decide : 0 + 0 ≤ _), (by decide : 0 + 0 ≤ _)⟩)
      dsimp only [Pt.U, Pt.locs, Pt.cells, Pt.slots] at X53 l53 y53 z53 st53 hQ53
      subst l53 y53 z53
      obtain ⟨rfl, Nq53, e53⟩ := hQ53
      have N_ := Fr.app N_ Nq53
      refine own_by (T' := T53) (g' := (mkF m 20 #[.val (.int x1), .val (.int x2), .val (.ref a3), .val (.ref a4), .val (.int 1), .unset] [(own_rp (2 : Int32) a1 a3)])) (fun t k => st53.trans k) ?_
      rw [show (own_rp (2 : Int32) a1 a3) = (.ref a3) from by simp [own_rp]]
      obtain ⟨T54, X54, e54, st54⟩ := getS2 X53 hx hZ hown (host := "") (Or.inl (hw _ (own_m 4 rfl))) Via.refl e53 S_SHARED (g := (mkF m 20 #[.val (.int x1), .val (.int x2), .val (.ref a3), .val (.ref a4), .val (.int 1), .unset] [(.ref a3)])) rfl (hb hby at_20)
      refine own_by (T' := T54) (g' := (mkF m 23 #[.val (.int x1), .val (.int x2), .val (.ref a3), .val (.ref a4), .val (.int 1), .unset] [(.ref a1), (.ref a3)])) (fun t k => st54 t k) ?_
      refine own_by (T' := T54) (g' := (mkF m 26 #[.val (.int x1), .val (.int x2), .val (.ref a3), .val (.ref a4), .val (.int 1), .unset] [])) (fun t k => Jvm.RoadKit.acmp (g := (mkF m 23 #[.val (.int x1), .val (.int x2), .val (.ref a3), .val (.ref a4), .val (.int 1), .unset] [(.ref a1), (.ref a3)])) X54 hx rfl rfl rfl (pc0 := 23) (pc' := 26) (same := false) rfl (hb hby at_23) rfl (decide_eq_false fun q => ne_a1_a3.symm (Value.ref.inj q)) (by decide) (by decide) k) ?_
      refine own_by (T' := T54) (g' := (mkF m 27 #[.val (.int x1), .val (.int x2), .val (.ref a3), .val (.ref a4), .val (.int 1), .unset] [(.int 1)])) (fun t k => XS.iconst X54.here hx rfl (hb hby at_26) k) ?_
      refine own_by (T' := T54) (g' := (mkF m 31 #[.val (.int x1), .val (.int x2), .val (.ref a3), .val (.ref a4), .val (.int 1), .unset] [(.int 1)])) (fun t k => XS.goto X54.here hx rfl (pc0 := 27) (pc' := 31) rfl (hb hby at_27) (by decide) (by decide) k) ?_
      refine own_by (T' := T54) (g' := (mkF m 33 #[.val (.int x1), .val (.int x2), .val (.ref a3), .val (.ref a4), .val (.int 1), .val (.int 1)] [])) (fun t k => XS.istore X54.here hx rfl (hb hby at_31) rfl (l' := #[.val (.int x1), .val (.int x2), .val (.ref a3), .val (.ref a4), .val (.int 1), .val (.int 1)]) rfl k) ?_
      refine own_by (T' := T54) (g' := (mkF m 35 #[.val (.int x1), .val (.int x2), .val (.ref a3), .val (.ref a4), .val (.int 1), .val (.int 1)] [(.int 1)])) (fun t k => XS.iload X54.here hx rfl (hb hby at_33) rfl k) ?_
      refine own_by (T' := T54) (g' := (mkF m 37 #[.val (.int x1), .val (.int x2), .val (.ref a3), .val (.ref a4), .val (.int 1), .val (.int 1)] [(.int 1), (.int 1)])) (fun t k => XS.iload X54.here hx rfl (hb hby at_35) rfl k) ?_
      refine own_by (T' := T54) (g' := (mkF m 42 #[.val (.int x1), .val (.int x2), .val (.ref a3), .val (.ref a4), .val (.int 1), .val (.int 1)] [])) (fun t k => XS.icmpYes X54.here hx rfl (pc0 := 37) (pc' := 42) rfl (hb hby at_37) rfl (teq (by decide)).1 (by decide) (by decide) k) ?_
      refine own_by (T' := T54) (g' := (mkF m 43 #[.val (.int x1), .val (.int x2), .val (.ref a3), .val (.ref a4), .val (.int 1), .val (.int 1)] [(.ref a3)])) (fun t k => XS.aloadN X54.here hx rfl (hb hby at_42) rfl rfl k) ?_
      refine own_by (T' := T54) (g' := (mkF m 44 #[.val (.int x1), .val (.int x2), .val (.ref a3), .val (.ref a4), .val (.int 1), .val (.int 1)] [(.ref a4), (.ref a3)])) (fun t k => XS.aloadN X54.here hx rfl (hb hby at_43) rfl rfl k) ?_
      obtain ⟨cq55, kq55, q55a, q55b, q55c⟩ := isOf hZ e54 E_a3
      obtain ⟨_, _, ⟨T55, L55, k55, n55⟩, -, X55, ⟨Lc55, hQ55, l55, y55, z55⟩, st55⟩ := X54.virtualBack hx (y := (⟨"com/example/hermit_crab/hermitcrab/engine/LockMode", "conflictsWith", "(Lcom/example/hermit_crab/hermitcrab/engine/LockMode;)Z"⟩ : MethodName)) (z := (⟨"com/example/hermit_crab/hermitcrab/engine/LockMode", "conflictsWith", "(Lcom/example/hermit_crab/hermitcrab/engine/LockMode;)Z"⟩ : MethodName)) hown (mvT hZ (hw _ (own_m 32 rfl))) (mvT hZ (hw _ (own_m 33 rfl))) (notFace_of_selects (args := #[]) (mvT hZ (hw _ (own_m 35 rfl)))) (mvT hZ (hw _ (own_m 35 rfl))) (mvT hZ (hw _ (own_m 34 rfl))) (by decide) (backOf (W := 0) (rm5 l Z a0 hw [] a3 a4 (2 : Int32) a1 a2 a3 a4 h0 n0 Zle E_a3 F_ordinal_a3 S_SHARED S_EXCLUSIVE S_RANGE_SHARED S_RANGE_INSERT (by decide)) hZ (hw _ (own_m 36 rfl)) (hw _ (own_m 5 rfl)) (by decide) (by decide)) q55a q55c (g := (mkF m 44 #[.val (.int x1), .val (.int x2), .val (.ref a3), .val (.ref a4), .val (.int 1), .val (.int 1)] [(.ref a4), (.ref a3)])) rfl (by rw [hml]; rfl) (Steps.refl _) (argsL := [(.ref a4)]) (rest := []) (lenOf pd_4 rfl) rfl (own_le rfl) (hb hby at_44) (fun _ _ => ⟨rfl, e54, (by decide : 0 + 0 ≤ _), (by decide : 0 + 0 ≤ _)⟩)
      dsimp only [Pt.U, Pt.locs, Pt.cells, Pt.slots] at X55 l55 y55 z55 st55 hQ55
      subst l55 y55 z55
      obtain ⟨rfl, Nq55, e55⟩ := hQ55
      have N_ := Fr.app N_ Nq55
      refine own_by (T' := T55) (g' := (mkF m 47 #[.val (.int x1), .val (.int x2), .val (.ref a3), .val (.ref a4), .val (.int 1), .val (.int 1)] [(.int (own_cf (2 : Int32) a4 a1 a2 a3 a4))])) (fun t k => st55.trans k) ?_
      rw [show (own_cf (2 : Int32) a4 a1 a2 a3 a4) = (1 : Int32) from by simp [own_cf, ne_a1_a2, ne_a1_a3, ne_a1_a4, ne_a2_a3, ne_a2_a4, ne_a3_a4, ne_a1_a2.symm, ne_a1_a3.symm, ne_a1_a4.symm, ne_a2_a3.symm, ne_a2_a4.symm, ne_a3_a4.symm]]
      refine own_by (T' := T55) (g' := (mkF m 50 #[.val (.int x1), .val (.int x2), .val (.ref a3), .val (.ref a4), .val (.int 1), .val (.int 1)] [])) (fun t k => XS.ifNo X55.here hx rfl (hb hby at_47) rfl ((if0 _ _).trans (feq (by decide)).1) k) ?_
      refine own_by (T' := T55) (g' := (mkF m 52 #[.val (.int x1), .val (.int x2), .val (.ref a3), .val (.ref a4), .val (.int 1), .val (.int 1)] [(.int 1)])) (fun t k => XS.iload X55.here hx rfl (hb hby at_50) rfl k) ?_
      refine own_by (T' := T55) (g' := (mkF m 53 #[.val (.int x1), .val (.int x2), .val (.ref a3), .val (.ref a4), .val (.int 1), .val (.int 1)] [(.ref a4), (.int 1)])) (fun t k => XS.aloadN X55.here hx rfl (hb hby at_52) rfl rfl k) ?_
      obtain ⟨cq56, kq56, q56a, q56b, q56c⟩ := isOf hZ e55 E_a4
      obtain ⟨_, _, ⟨T56, L56, k56, n56⟩, -, X56, ⟨Lc56, hQ56, l56, y56, z56⟩, st56⟩ := X55.virtualBack hx (y := (⟨"com/example/hermit_crab/hermitcrab/engine/LockMode", "locksRange", "()Z"⟩ : MethodName)) (z := (⟨"com/example/hermit_crab/hermitcrab/engine/LockMode", "locksRange", "()Z"⟩ : MethodName)) hown (mvT hZ (hw _ (own_m 9 rfl))) (mvT hZ (hw _ (own_m 10 rfl))) (notFace_of_selects (args := #[]) (mvT hZ (hw _ (own_m 12 rfl)))) (mvT hZ (hw _ (own_m 12 rfl))) (mvT hZ (hw _ (own_m 11 rfl))) (by decide) (backOf (W := 1) (rm2 l Z a0 hw [] a4 a3 a4 h0 n0 Zle S_RANGE_SHARED S_RANGE_INSERT) hZ (hw _ (own_m 13 rfl)) (hw _ (own_m 5 rfl)) (by decide) (by decide)) q56a q56c (g := (mkF m 53 #[.val (.int x1), .val (.int x2), .val (.ref a3), .val (.ref a4), .val (.int 1), .val (.int 1)] [(.ref a4), (.int 1)])) rfl (by rw [hml]; rfl) (Steps.refl _) (argsL := []) (rest := [(.int 1)]) (lenOf pd_1 rfl) rfl (own_le rfl) (hb hby at_53) (fun _ _ => ⟨rfl, e55, (by decide : 0 + 0 ≤ _), (by decide : 0 + 0 ≤ _)⟩)
      dsimp only [Pt.U, Pt.locs, Pt.cells, Pt.slots] at X56 l56 y56 z56 st56 hQ56
      subst l56 y56 z56
      obtain ⟨rfl, Nq56, e56⟩ := hQ56
      have N_ := Fr.app N_ Nq56
      refine own_by (T' := T56) (g' := (mkF m 56 #[.val (.int x1), .val (.int x2), .val (.ref a3), .val (.ref a4), .val (.int 1), .val (.int 1)] [(.int (own_lr a4 a3 a4)), (.int 1)])) (fun t k => st56.trans k) ?_
      rw [show (own_lr a4 a3 a4) = (1 : Int32) from by simp [own_lr, ne_a1_a2, ne_a1_a3, ne_a1_a4, ne_a2_a3, ne_a2_a4, ne_a3_a4, ne_a1_a2.symm, ne_a1_a3.symm, ne_a1_a4.symm, ne_a2_a3.symm, ne_a2_a4.symm, ne_a3_a4.symm]]
      refine own_by (T' := T56) (g' := (mkF m 61 #[.val (.int x1), .val (.int x2), .val (.ref a3), .val (.ref a4), .val (.int 1), .val (.int 1)] [])) (fun t k => XS.icmpYes X56.here hx rfl (pc0 := 56) (pc' := 61) rfl (hb hby at_56) rfl (teq (by decide)).1 (by decide) (by decide) k) ?_
      refine own_by (T' := T56) (g' := (mkF m 62 #[.val (.int x1), .val (.int x2), .val (.ref a3), .val (.ref a4), .val (.int 1), .val (.int 1)] [(.int 1)])) (fun t k => XS.iconst X56.here hx rfl (hb hby at_61) k) ?_
      exact own_retN X56 hx (t := .boolean) Bd.notSynchronized Bd.returns (by simp) (hb hby at_62) (by decide) (by decide) (by rw [e56]; exact ⟨rfl, N_⟩)
  · rw [hp]
    refine own_by (T' := T1) (g' := (mkF m 5 #[.val (.int x1), .val (.int x2), .val (.ref a4), .unset, .unset, .unset] [])) (fun t k => XS.astoreN X1.here hx rfl (hb hby at_4) rfl rfl (l' := #[.val (.int x1), .val (.int x2), .val (.ref a4), .unset, .unset, .unset]) rfl k) ?_
    refine own_by (T' := T1) (g' := (mkF m 6 #[.val (.int x1), .val (.int x2), .val (.ref a4), .unset, .unset, .unset] [(.int x2)])) (fun t k => XS.iloadN X1.here hx rfl (hb hby at_5) rfl k) ?_
    obtain ⟨_, _, ⟨T57, L57, k57, n57⟩, -, X57, ⟨Lc57, hQ57, l57, y57, z57⟩, st57⟩ := Jvm.LawKit.callS X1 hx (y := (⟨"com/example/hermit_crab/hermitcrab/engine/LockModeLocksRangePinLaw", "pick", "(I)Lcom/example/hermit_crab/hermitcrab/engine/LockMode;"⟩ : MethodName)) hown (mvT hZ (hw _ (own_m 0 rfl))) (mvT hZ (hw _ (own_m 1 rfl))) (mvT hZ (hw _ (own_m 2 rfl))) (mvT hZ (hw _ (own_m 3 rfl))) (by decide) (backOf (W := 0) (rm1 l Z a0 hw [] x2 a1 a2 a3 a4 h0 n0 Zle S_SHARED S_EXCLUSIVE S_RANGE_SHARED S_RANGE_INSERT) hZ (hw _ (own_m 3 rfl)) (hw _ (own_m 2 rfl)) (by decide) (by decide)) (g := (mkF m 6 #[.val (.int x1), .val (.int x2), .val (.ref a4), .unset, .unset, .unset] [(.int x2)])) rfl (by rw [hml]; rfl) (argsL := [(.int x2)]) (rest := []) (lenOf pd_0 rfl) rfl (own_le rfl) (hb hby at_6) (fun _ _ => ⟨rfl, e1, (by decide : 0 + 0 ≤ _), (by decide : 0 + 0 ≤ _)⟩)
    dsimp only [Pt.U, Pt.locs, Pt.cells, Pt.slots] at X57 l57 y57 z57 st57 hQ57
    subst l57 y57 z57
    obtain ⟨rfl, Nq57, e57⟩ := hQ57
    have N_ := Fr.app N_ Nq57
    refine own_by (T' := T57) (g' := (mkF m 9 #[.val (.int x1), .val (.int x2), .val (.ref a4), .unset, .unset, .unset] [(.ref (own_pick x2 a1 a2 a3 a4))])) (fun t k => st57 _ k) ?_
    rcases own_pick_cases x2 a1 a2 a3 a4 with hp | hp | hp | hp
    · rw [hp]
      refine own_by (T' := T57) (g' := (mkF m 10 #[.val (.int x1), .val (.int x2), .val (.ref a4), .val (.ref a1), .unset, .unset] [])) (fun t k => XS.astoreN X57.here hx rfl (hb hby at_9) rfl rfl (l' := #[.val (.int x1), .val (.int x2), .val (.ref a4), .val (.ref a1), .unset, .unset]) rfl k) ?_
      refine own_by (T' := T57) (g' := (mkF m 11 #[.val (.int x1), .val (.int x2), .val (.ref a4), .val (.ref a1), .unset, .unset] [(.ref a4)])) (fun t k => XS.aloadN X57.here hx rfl (hb hby at_10) rfl rfl k) ?_
      obtain ⟨cq58, kq58, q58a, q58b, q58c⟩ := isOf hZ e57 E_a4
      obtain ⟨_, _, ⟨T58, L58, k58, n58⟩, -, X58, ⟨Lc58, hQ58, l58, y58, z58⟩, st58⟩ := X57.virtualBack hx (y := (⟨"com/example/hermit_crab/hermitcrab/engine/LockMode", "locksRange", "()Z"⟩ : MethodName)) (z := (⟨"com/example/hermit_crab/hermitcrab/engine/LockMode", "locksRange", "()Z"⟩ : MethodName)) hown (mvT hZ (hw _ (own_m 9 rfl))) (mvT hZ (hw _ (own_m 10 rfl))) (notFace_of_selects (args := #[]) (mvT hZ (hw _ (own_m 12 rfl)))) (mvT hZ (hw _ (own_m 12 rfl))) (mvT hZ (hw _ (own_m 11 rfl))) (by decide) (backOf (W := 0) (rm2 l Z a0 hw [] a4 a3 a4 h0 n0 Zle S_RANGE_SHARED S_RANGE_INSERT) hZ (hw _ (own_m 13 rfl)) (hw _ (own_m 5 rfl)) (by decide) (by decide)) q58a q58c (g := (mkF m 11 #[.val (.int x1), .val (.int x2), .val (.ref a4), .val (.ref a1), .unset, .unset] [(.ref a4)])) rfl (by rw [hml]; rfl) (Steps.refl _) (argsL := []) (rest := []) (lenOf pd_1 rfl) rfl (own_le rfl) (hb hby at_11) (fun _ _ => ⟨rfl, e57, (by decide : 0 + 0 ≤ _), (by decide : 0 + 0 ≤ _)⟩)
      dsimp only [Pt.U, Pt.locs, Pt.cells, Pt.slots] at X58 l58 y58 z58 st58 hQ58
      subst l58 y58 z58
      obtain ⟨rfl, Nq58, e58⟩ := hQ58
      have N_ := Fr.app N_ Nq58
      refine own_by (T' := T58) (g' := (mkF m 14 #[.val (.int x1), .val (.int x2), .val (.ref a4), .val (.ref a1), .unset, .unset] [(.int (own_lr a4 a3 a4))])) (fun t k => st58.trans k) ?_
      rw [show (own_lr a4 a3 a4) = (1 : Int32) from by simp [own_lr, ne_a1_a2, ne_a1_a3, ne_a1_a4, ne_a2_a3, ne_a2_a4, ne_a3_a4, ne_a1_a2.symm, ne_a1_a3.symm, ne_a1_a4.symm, ne_a2_a3.symm, ne_a2_a4.symm, ne_a3_a4.symm]]
      refine own_by (T' := T58) (g' := (mkF m 16 #[.val (.int x1), .val (.int x2), .val (.ref a4), .val (.ref a1), .val (.int 1), .unset] [])) (fun t k => XS.istore X58.here hx rfl (hb hby at_14) rfl (l' := #[.val (.int x1), .val (.int x2), .val (.ref a4), .val (.ref a1), .val (.int 1), .unset]) rfl k) ?_
      refine own_by (T' := T58) (g' := (mkF m 17 #[.val (.int x1), .val (.int x2), .val (.ref a4), .val (.ref a1), .val (.int 1), .unset] [(.ref a4)])) (fun t k => XS.aloadN X58.here hx rfl (hb hby at_16) rfl rfl k) ?_
      obtain ⟨cq59, kq59, q59a, q59b, q59c⟩ := isOf hZ e58 E_a4
      obtain ⟨_, _, ⟨T59, L59, k59, n59⟩, -, X59, ⟨Lc59, hQ59, l59, y59, z59⟩, st59⟩ := X58.virtualBack hx (y := (⟨"com/example/hermit_crab/hermitcrab/engine/LockMode", "readPart", "()Lcom/example/hermit_crab/hermitcrab/engine/LockMode;"⟩ : MethodName)) (z := (⟨"com/example/hermit_crab/hermitcrab/engine/LockMode", "readPart", "()Lcom/example/hermit_crab/hermitcrab/engine/LockMode;"⟩ : MethodName)) hown (mvT hZ (hw _ (own_m 17 rfl))) (mvT hZ (hw _ (own_m 18 rfl))) (notFace_of_selects (args := #[]) (mvT hZ (hw _ (own_m 20 rfl)))) (mvT hZ (hw _ (own_m 20 rfl))) (mvT hZ (hw _ (own_m 19 rfl))) (by decide) (backOf (W := 0) (rm3 l Z a0 hw [] a4 (3 : Int32) a1 a3 h0 n0 Zle E_a4 F_ordinal_a4 S_SHARED S_RANGE_SHARED (by decide)) hZ (hw _ (own_m 21 rfl)) (hw _ (own_m 5 rfl)) (by decide) (by decide)) q59a q59c (g := (mkF m 17 #[.val (.int x1), .val (.int x2), .val (.ref a4), .val (.ref a1), .val (.int 1), .unset] [(.ref a4)])) rfl (by rw [hml]; rfl) (Steps.refl _) (argsL := []) (rest := []) (lenOf pd_2 rfl) rfl (own_le rfl) (hb hby at_17) (fun _ _ => ⟨rfl, e58, (by decide : 0 + 0 ≤ _), (by decide : 0 + 0 ≤ _)⟩)
      dsimp only [Pt.U, Pt.locs, Pt.cells, Pt.slots] at X59 l59 y59 z59 st59 hQ59
      subst l59 y59 z59
      obtain ⟨rfl, Nq59, e59⟩ := hQ59
      have N_ := Fr.app N_ Nq59
      refine own_by (T' := T59) (g' := (mkF m 20 #[.val (.int x1), .val (.int x2), .val (.ref a4), .val (.ref a1), .val (.int 1), .unset] [(own_rp (3 : Int32) a1 a3)])) (fun t k => st59.trans k) ?_
      rw [show (own_rp (3 : Int32) a1 a3) = .null from by simp [own_rp]]
      obtain ⟨T60, X60, e60, st60⟩ := getS2 X59 hx hZ hown (host := "") (Or.inl (hw _ (own_m 4 rfl))) Via.refl e59 S_SHARED (g := (mkF m 20 #[.val (.int x1), .val (.int x2), .val (.ref a4), .val (.ref a1), .val (.int 1), .unset] [.null])) rfl (hb hby at_20)
      refine own_by (T' := T60) (g' := (mkF m 23 #[.val (.int x1), .val (.int x2), .val (.ref a4), .val (.ref a1), .val (.int 1), .unset] [(.ref a1), .null])) (fun t k => st60 t k) ?_
      refine own_by (T' := T60) (g' := (mkF m 26 #[.val (.int x1), .val (.int x2), .val (.ref a4), .val (.ref a1), .val (.int 1), .unset] [])) (fun t k => Jvm.RoadKit.acmp (g := (mkF m 23 #[.val (.int x1), .val (.int x2), .val (.ref a4), .val (.ref a1), .val (.int 1), .unset] [(.ref a1), .null])) X60 hx rfl rfl rfl (pc0 := 23) (pc' := 26) (same := false) rfl (hb hby at_23) rfl (decide_eq_false nofun) (by decide) (by decide) k) ?_
      refine own_by (T' := T60) (g' := (mkF m 27 #[.val (.int x1), .val (.int x2), .val (.ref a4), .val (.ref a1), .val (.int 1), .unset] [(.int 1)])) (fun t k => XS.iconst X60.here hx rfl (hb hby at_26) k) ?_
      refine own_by (T' := T60) (g' := (mkF m 31 #[.val (.int x1), .val (.int x2), .val (.ref a4), .val (.ref a1), .val (.int 1), .unset] [(.int 1)])) (fun t k => XS.goto X60.here hx rfl (pc0 := 27) (pc' := 31) rfl (hb hby at_27) (by decide) (by decide) k) ?_
      refine own_by (T' := T60) (g' := (mkF m 33 #[.val (.int x1), .val (.int x2), .val (.ref a4), .val (.ref a1), .val (.int 1), .val (.int 1)] [])) (fun t k => XS.istore X60.here hx rfl (hb hby at_31) rfl (l' := #[.val (.int x1), .val (.int x2), .val (.ref a4), .val (.ref a1), .val (.int 1), .val (.int 1)]) rfl k) ?_
      refine own_by (T' := T60) (g' := (mkF m 35 #[.val (.int x1), .val (.int x2), .val (.ref a4), .val (.ref a1), .val (.int 1), .val (.int 1)] [(.int 1)])) (fun t k => XS.iload X60.here hx rfl (hb hby at_33) rfl k) ?_
      refine own_by (T' := T60) (g' := (mkF m 37 #[.val (.int x1), .val (.int x2), .val (.ref a4), .val (.ref a1), .val (.int 1), .val (.int 1)] [(.int 1), (.int 1)])) (fun t k => XS.iload X60.here hx rfl (hb hby at_35) rfl k) ?_
      refine own_by (T' := T60) (g' := (mkF m 42 #[.val (.int x1), .val (.int x2), .val (.ref a4), .val (.ref a1), .val (.int 1), .val (.int 1)] [])) (fun t k => XS.icmpYes X60.here hx rfl (pc0 := 37) (pc' := 42) rfl (hb hby at_37) rfl (teq (by decide)).1 (by decide) (by decide) k) ?_
      refine own_by (T' := T60) (g' := (mkF m 43 #[.val (.int x1), .val (.int x2), .val (.ref a4), .val (.ref a1), .val (.int 1), .val (.int 1)] [(.ref a4)])) (fun t k => XS.aloadN X60.here hx rfl (hb hby at_42) rfl rfl k) ?_
      refine own_by (T' := T60) (g' := (mkF m 44 #[.val (.int x1), .val (.int x2), .val (.ref a4), .val (.ref a1), .val (.int 1), .val (.int 1)] [(.ref a1), (.ref a4)])) (fun t k => XS.aloadN X60.here hx rfl (hb hby at_43) rfl rfl k) ?_
      obtain ⟨cq61, kq61, q61a, q61b, q61c⟩ := isOf hZ e60 E_a4
      obtain ⟨_, _, ⟨T61, L61, k61, n61⟩, -, X61, ⟨Lc61, hQ61, l61, y61, z61⟩, st61⟩ := X60.virtualBack hx (y := (⟨"com/example/hermit_crab/hermitcrab/engine/LockMode", "conflictsWith", "(Lcom/example/hermit_crab/hermitcrab/engine/LockMode;)Z"⟩ : MethodName)) (z := (⟨"com/example/hermit_crab/hermitcrab/engine/LockMode", "conflictsWith", "(Lcom/example/hermit_crab/hermitcrab/engine/LockMode;)Z"⟩ : MethodName)) hown (mvT hZ (hw _ (own_m 32 rfl))) (mvT hZ (hw _ (own_m 33 rfl))) (notFace_of_selects (args := #[]) (mvT hZ (hw _ (own_m 35 rfl)))) (mvT hZ (hw _ (own_m 35 rfl))) (mvT hZ (hw _ (own_m 34 rfl))) (by decide) (backOf (W := 0) (rm5 l Z a0 hw [] a4 a1 (3 : Int32) a1 a2 a3 a4 h0 n0 Zle E_a4 F_ordinal_a4 S_SHARED S_EXCLUSIVE S_RANGE_SHARED S_RANGE_INSERT (by decide)) hZ (hw _ (own_m 36 rfl)) (hw _ (own_m 5 rfl)) (by decide) (by decide)) q61a q61c (g := (mkF m 44 #[.val (.int x1), .val (.int x2), .val (.ref a4), .val (.ref a1), .val (.int 1), .val (.int 1)] [(.ref a1), (.ref a4)])) rfl (by rw [hml]; rfl) (Steps.refl _) (argsL := [(.ref a1)]) (rest := []) (lenOf pd_4 rfl) rfl (own_le rfl) (hb hby at_44) (fun _ _ => ⟨rfl, e60, (by decide : 0 + 0 ≤ _), (by decide : 0 + 0 ≤ _)⟩)
      dsimp only [Pt.U, Pt.locs, Pt.cells, Pt.slots] at X61 l61 y61 z61 st61 hQ61
      subst l61 y61 z61
      obtain ⟨rfl, Nq61, e61⟩ := hQ61
      have N_ := Fr.app N_ Nq61
      refine own_by (T' := T61) (g' := (mkF m 47 #[.val (.int x1), .val (.int x2), .val (.ref a4), .val (.ref a1), .val (.int 1), .val (.int 1)] [(.int (own_cf (3 : Int32) a1 a1 a2 a3 a4))])) (fun t k => st61.trans k) ?_
      rw [show (own_cf (3 : Int32) a1 a1 a2 a3 a4) = (0 : Int32) from by simp [own_cf, ne_a1_a2, ne_a1_a3, ne_a1_a4, ne_a2_a3, ne_a2_a4, ne_a3_a4, ne_a1_a2.symm, ne_a1_a3.symm, ne_a1_a4.symm, ne_a2_a3.symm, ne_a2_a4.symm, ne_a3_a4.symm]]
      refine own_by (T' := T61) (g' := (mkF m 61 #[.val (.int x1), .val (.int x2), .val (.ref a4), .val (.ref a1), .val (.int 1), .val (.int 1)] [])) (fun t k => XS.ifYes X61.here hx rfl (pc0 := 47) (pc' := 61) rfl (hb hby at_47) rfl ((if0 _ _).trans (teq (by decide)).1) (by decide) (by decide) k) ?_
      refine own_by (T' := T61) (g' := (mkF m 62 #[.val (.int x1), .val (.int x2), .val (.ref a4), .val (.ref a1), .val (.int 1), .val (.int 1)] [(.int 1)])) (fun t k => XS.iconst X61.here hx rfl (hb hby at_61) k) ?_
      exact own_retN X61 hx (t := .boolean) Bd.notSynchronized Bd.returns (by simp) (hb hby at_62) (by decide) (by decide) (by rw [e61]; exact ⟨rfl, N_⟩)
    · rw [hp]
      refine own_by (T' := T57) (g' := (mkF m 10 #[.val (.int x1), .val (.int x2), .val (.ref a4), .val (.ref a2), .unset, .unset] [])) (fun t k => XS.astoreN X57.here hx rfl (hb hby at_9) rfl rfl (l' := #[.val (.int x1), .val (.int x2), .val (.ref a4), .val (.ref a2), .unset, .unset]) rfl k) ?_
      refine own_by (T' := T57) (g' := (mkF m 11 #[.val (.int x1), .val (.int x2), .val (.ref a4), .val (.ref a2), .unset, .unset] [(.ref a4)])) (fun t k => XS.aloadN X57.here hx rfl (hb hby at_10) rfl rfl k) ?_
      obtain ⟨cq62, kq62, q62a, q62b, q62c⟩ := isOf hZ e57 E_a4
      obtain ⟨_, _, ⟨T62, L62, k62, n62⟩, -, X62, ⟨Lc62, hQ62, l62, y62, z62⟩, st62⟩ := X57.virtualBack hx (y := (⟨"com/example/hermit_crab/hermitcrab/engine/LockMode", "locksRange", "()Z"⟩ : MethodName)) (z := (⟨"com/example/hermit_crab/hermitcrab/engine/LockMode", "locksRange", "()Z"⟩ : MethodName)) hown (mvT hZ (hw _ (own_m 9 rfl))) (mvT hZ (hw _ (own_m 10 rfl))) (notFace_of_selects (args := #[]) (mvT hZ (hw _ (own_m 12 rfl)))) (mvT hZ (hw _ (own_m 12 rfl))) (mvT hZ (hw _ (own_m 11 rfl))) (by decide) (backOf (W := 0) (rm2 l Z a0 hw [] a4 a3 a4 h0 n0 Zle S_RANGE_SHARED S_RANGE_INSERT) hZ (hw _ (own_m 13 rfl)) (hw _ (own_m 5 rfl)) (by decide) (by decide)) q62a q62c (g := (mkF m 11 #[.val (.int x1), .val (.int x2), .val (.ref a4), .val (.ref a2), .unset, .unset] [(.ref a4)])) rfl (by rw [hml]; rfl) (Steps.refl _) (argsL := []) (rest := []) (lenOf pd_1 rfl) rfl (own_le rfl) (hb hby at_11) (fun _ _ => ⟨rfl, e57, (by decide : 0 + 0 ≤ _), (by decide : 0 + 0 ≤ _)⟩)
      dsimp only [Pt.U, Pt.locs, Pt.cells, Pt.slots] at X62 l62 y62 z62 st62 hQ62
      subst l62 y62 z62
      obtain ⟨rfl, Nq62, e62⟩ := hQ62
      have N_ := Fr.app N_ Nq62
      refine own_by (T' := T62) (g' := (mkF m 14 #[.val (.int x1), .val (.int x2), .val (.ref a4), .val (.ref a2), .unset, .unset] [(.int (own_lr a4 a3 a4))])) (fun t k => st62.trans k) ?_
      rw [show (own_lr a4 a3 a4) = (1 : Int32) from by simp [own_lr, ne_a1_a2, ne_a1_a3, ne_a1_a4, ne_a2_a3, ne_a2_a4, ne_a3_a4, ne_a1_a2.symm, ne_a1_a3.symm, ne_a1_a4.symm, ne_a2_a3.symm, ne_a2_a4.symm, ne_a3_a4.symm]]
      refine own_by (T' := T62) (g' := (mkF m 16 #[.val (.int x1), .val (.int x2), .val (.ref a4), .val (.ref a2), .val (.int 1), .unset] [])) (fun t k => XS.istore X62.here hx rfl (hb hby at_14) rfl (l' := #[.val (.int x1), .val (.int x2), .val (.ref a4), .val (.ref a2), .val (.int 1), .unset]) rfl k) ?_
      refine own_by (T' := T62) (g' := (mkF m 17 #[.val (.int x1), .val (.int x2), .val (.ref a4), .val (.ref a2), .val (.int 1), .unset] [(.ref a4)])) (fun t k => XS.aloadN X62.here hx rfl (hb hby at_16) rfl rfl k) ?_
      obtain ⟨cq63, kq63, q63a, q63b, q63c⟩ := isOf hZ e62 E_a4
      obtain ⟨_, _, ⟨T63, L63, k63, n63⟩, -, X63, ⟨Lc63, hQ63, l63, y63, z63⟩, st63⟩ := X62.virtualBack hx (y := (⟨"com/example/hermit_crab/hermitcrab/engine/LockMode", "readPart", "()Lcom/example/hermit_crab/hermitcrab/engine/LockMode;"⟩ : MethodName)) (z := (⟨"com/example/hermit_crab/hermitcrab/engine/LockMode", "readPart", "()Lcom/example/hermit_crab/hermitcrab/engine/LockMode;"⟩ : MethodName)) hown (mvT hZ (hw _ (own_m 17 rfl))) (mvT hZ (hw _ (own_m 18 rfl))) (notFace_of_selects (args := #[]) (mvT hZ (hw _ (own_m 20 rfl)))) (mvT hZ (hw _ (own_m 20 rfl))) (mvT hZ (hw _ (own_m 19 rfl))) (by decide) (backOf (W := 0) (rm3 l Z a0 hw [] a4 (3 : Int32) a1 a3 h0 n0 Zle E_a4 F_ordinal_a4 S_SHARED S_RANGE_SHARED (by decide)) hZ (hw _ (own_m 21 rfl)) (hw _ (own_m 5 rfl)) (by decide) (by decide)) q63a q63c (g := (mkF m 17 #[.val (.int x1), .val (.int x2), .val (.ref a4), .val (.ref a2), .val (.int 1), .unset] [(.ref a4)])) rfl (by rw [hml]; rfl) (Steps.refl _) (argsL := []) (rest := []) (lenOf pd_2 rfl) rfl (own_le rfl) (hb hby at_17) (fun _ _ => ⟨rfl, e62, (by decide : 0 + 0 ≤ _), (by decide : 0 + 0 ≤ _)⟩)
      dsimp only [Pt.U, Pt.locs, Pt.cells, Pt.slots] at X63 l63 y63 z63 st63 hQ63
      subst l63 y63 z63
      obtain ⟨rfl, Nq63, e63⟩ := hQ63
      have N_ := Fr.app N_ Nq63
      refine own_by (T' := T63) (g' := (mkF m 20 #[.val (.int x1), .val (.int x2), .val (.ref a4), .val (.ref a2), .val (.int 1), .unset] [(own_rp (3 : Int32) a1 a3)])) (fun t k => st63.trans k) ?_
      rw [show (own_rp (3 : Int32) a1 a3) = .null from by simp [own_rp]]
      obtain ⟨T64, X64, e64, st64⟩ := getS2 X63 hx hZ hown (host := "") (Or.inl (hw _ (own_m 4 rfl))) Via.refl e63 S_SHARED (g := (mkF m 20 #[.val (.int x1), .val (.int x2), .val (.ref a4), .val (.ref a2), .val (.int 1), .unset] [.null])) rfl (hb hby at_20)
      refine own_by (T' := T64) (g' := (mkF m 23 #[.val (.int x1), .val (.int x2), .val (.ref a4), .val (.ref a2), .val (.int 1), .unset] [(.ref a1), .null])) (fun t k => st64 t k) ?_
      refine own_by (T' := T64) (g' := (mkF m 26 #[.val (.int x1), .val (.int x2), .val (.ref a4), .val (.ref a2), .val (.int 1), .unset] [])) (fun t k => Jvm.RoadKit.acmp (g := (mkF m 23 #[.val (.int x1), .val (.int x2), .val (.ref a4), .val (.ref a2), .val (.int 1), .unset] [(.ref a1), .null])) X64 hx rfl rfl rfl (pc0 := 23) (pc' := 26) (same := false) rfl (hb hby at_23) rfl (decide_eq_false nofun) (by decide) (by decide) k) ?_
      refine own_by (T' := T64) (g' := (mkF m 27 #[.val (.int x1), .val (.int x2), .val (.ref a4), .val (.ref a2), .val (.int 1), .unset] [(.int 1)])) (fun t k => XS.iconst X64.here hx rfl (hb hby at_26) k) ?_
      refine own_by (T' := T64) (g' := (mkF m 31 #[.val (.int x1), .val (.int x2), .val (.ref a4), .val (.ref a2), .val (.int 1), .unset] [(.int 1)])) (fun t k => XS.goto X64.here hx rfl (pc0 := 27) (pc' := 31) rfl (hb hby at_27) (by decide) (by decide) k) ?_
      refine own_by (T' := T64) (g' := (mkF m 33 #[.val (.int x1), .val (.int x2), .val (.ref a4), .val (.ref a2), .val (.int 1), .val (.int 1)] [])) (fun t k => XS.istore X64.here hx rfl (hb hby at_31) rfl (l' := #[.val (.int x1), .val (.int x2), .val (.ref a4), .val (.ref a2), .val (.int 1), .val (.int 1)]) rfl k) ?_
      refine own_by (T' := T64) (g' := (mkF m 35 #[.val (.int x1), .val (.int x2), .val (.ref a4), .val (.ref a2), .val (.int 1), .val (.int 1)] [(.int 1)])) (fun t k => XS.iload X64.here hx rfl (hb hby at_33) rfl k) ?_
      refine own_by (T' := T64) (g' := (mkF m 37 #[.val (.int x1), .val (.int x2), .val (.ref a4), .val (.ref a2), .val (.int 1), .val (.int 1)] [(.int 1), (.int 1)])) (fun t k => XS.iload X64.here hx rfl (hb hby at_35) rfl k) ?_
      refine own_by (T' := T64) (g' := (mkF m 42 #[.val (.int x1), .val (.int x2), .val (.ref a4), .val (.ref a2), .val (.int 1), .val (.int 1)] [])) (fun t k => XS.icmpYes X64.here hx rfl (pc0 := 37) (pc' := 42) rfl (hb hby at_37) rfl (teq (by decide)).1 (by decide) (by decide) k) ?_
      refine own_by (T' := T64) (g' := (mkF m 43 #[.val (.int x1), .val (.int x2), .val (.ref a4), .val (.ref a2), .val (.int 1), .val (.int 1)] [(.ref a4)])) (fun t k => XS.aloadN X64.here hx rfl (hb hby at_42) rfl rfl k) ?_
      refine own_by (T' := T64) (g' := (mkF m 44 #[.val (.int x1), .val (.int x2), .val (.ref a4), .val (.ref a2), .val (.int 1), .val (.int 1)] [(.ref a2), (.ref a4)])) (fun t k => XS.aloadN X64.here hx rfl (hb hby at_43) rfl rfl k) ?_
      obtain ⟨cq65, kq65, q65a, q65b, q65c⟩ := isOf hZ e64 E_a4
      obtain ⟨_, _, ⟨T65, L65, k65, n65⟩, -, X65, ⟨Lc65, hQ65, l65, y65, z65⟩, st65⟩ := X64.virtualBack hx (y := (⟨"com/example/hermit_crab/hermitcrab/engine/LockMode", "conflictsWith", "(Lcom/example/hermit_crab/hermitcrab/engine/LockMode;)Z"⟩ : MethodName)) (z := (⟨"com/example/hermit_crab/hermitcrab/engine/LockMode", "conflictsWith", "(Lcom/example/hermit_crab/hermitcrab/engine/LockMode;)Z"⟩ : MethodName)) hown (mvT hZ (hw _ (own_m 32 rfl))) (mvT hZ (hw _ (own_m 33 rfl))) (notFace_of_selects (args := #[]) (mvT hZ (hw _ (own_m 35 rfl)))) (mvT hZ (hw _ (own_m 35 rfl))) (mvT hZ (hw _ (own_m 34 rfl))) (by decide) (backOf (W := 0) (rm5 l Z a0 hw [] a4 a2 (3 : Int32) a1 a2 a3 a4 h0 n0 Zle E_a4 F_ordinal_a4 S_SHARED S_EXCLUSIVE S_RANGE_SHARED S_RANGE_INSERT (by decide)) hZ (hw _ (own_m 36 rfl)) (hw _ (own_m 5 rfl)) (by decide) (by decide)) q65a q65c (g := (mkF m 44 #[.val (.int x1), .val (.int x2), .val (.ref a4), .val (.ref a2), .val (.int 1), .val (.int 1)] [(.ref a2), (.ref a4)])) rfl (by rw [hml]; rfl) (Steps.refl _) (argsL := [(.ref a2)]) (rest := []) (lenOf pd_4 rfl) rfl (own_le rfl) (hb hby at_44) (fun _ _ => ⟨rfl, e64, (by decide : 0 + 0 ≤ _), (by decide : 0 + 0 ≤ _)⟩)
      dsimp only [Pt.U, Pt.locs, Pt.cells, Pt.slots] at X65 l65 y65 z65 st65 hQ65
      subst l65 y65 z65
      obtain ⟨rfl, Nq65, e65⟩ := hQ65
      have N_ := Fr.app N_ Nq65
      refine own_by (T' := T65) (g' := (mkF m 47 #[.val (.int x1), .val (.int x2), .val (.ref a4), .val (.ref a2), .val (.int 1), .val (.int 1)] [(.int (own_cf (3 : Int32) a2 a1 a2 a3 a4))])) (fun t k => st65.trans k) ?_
      rw [show (own_cf (3 : Int32) a2 a1 a2 a3 a4) = (0 : Int32) from by simp [own_cf, ne_a1_a2, ne_a1_a3, ne_a1_a4, ne_a2_a3, ne_a2_a4, ne_a3_a4, ne_a1_a2.symm, ne_a1_a3.symm, ne_a1_a4.symm, ne_a2_a3.symm, ne_a2_a4.symm, ne_a3_a4.symm]]
      refine own_by (T' := T65) (g' := (mkF m 61 #[.val (.int x1), .val (.int x2), .val (.ref a4), .val (.ref a2), .val (.int 1), .val (.int 1)] [])) (fun t k => XS.ifYes X65.here hx rfl (pc0 := 47) (pc' := 61) rfl (hb hby at_47) rfl ((if0 _ _).trans (teq (by decide)).1) (by decide) (by decide) k) ?_
      refine own_by (T' := T65) (g' := (mkF m 62 #[.val (.int x1), .val (.int x2), .val (.ref a4), .val (.ref a2), .val (.int 1), .val (.int 1)] [(.int 1)])) (fun t k => XS.iconst X65.here hx rfl (hb hby at_61) k) ?_
      exact own_retN X65 hx (t := .boolean) Bd.notSynchronized Bd.returns (by simp) (hb hby at_62) (by decide) (by decide) (by rw [e65]; exact ⟨rfl, N_⟩)
    · rw [hp]
      refine own_by (T' := T57) (g' := (mkF m 10 #[.val (.int x1), .val (.int x2), .val (.ref a4), .val (.ref a3), .unset, .unset] [])) (fun t k => XS.astoreN X57.here hx rfl (hb hby at_9) rfl rfl (l' := #[.val (.int x1), .val (.int x2), .val (.ref a4), .val (.ref a3), .unset, .unset]) rfl k) ?_
      refine own_by (T' := T57) (g' := (mkF m 11 #[.val (.int x1), .val (.int x2), .val (.ref a4), .val (.ref a3), .unset, .unset] [(.ref a4)])) (fun t k => XS.aloadN X57.here hx rfl (hb hby at_10) rfl rfl k) ?_
      obtain ⟨cq66, kq66, q66a, q66b, q66c⟩ := isOf hZ e57 E_a4
      obtain ⟨_, _, ⟨T66, L66, k66, n66⟩, -, X66, ⟨Lc66, hQ66, l66, y66, z66⟩, st66⟩ := X57.virtualBack hx (y := (⟨"com/example/hermit_crab/hermitcrab/engine/LockMode", "locksRange", "()Z"⟩ : MethodName)) (z := (⟨"com/example/hermit_crab/hermitcrab/engine/LockMode", "locksRange", "()Z"⟩ : MethodName)) hown (mvT hZ (hw _ (own_m 9 rfl))) (mvT hZ (hw _ (own_m 10 rfl))) (notFace_of_selects (args := #[]) (mvT hZ (hw _ (own_m 12 rfl)))) (mvT hZ (hw _ (own_m 12 rfl))) (mvT hZ (hw _ (own_m 11 rfl))) (by decide) (backOf (W := 0) (rm2 l Z a0 hw [] a4 a3 a4 h0 n0 Zle S_RANGE_SHARED S_RANGE_INSERT) hZ (hw _ (own_m 13 rfl)) (hw _ (own_m 5 rfl)) (by decide) (by decide)) q66a q66c (g := (mkF m 11 #[.val (.int x1), .val (.int x2), .val (.ref a4), .val (.ref a3), .unset, .unset] [(.ref a4)])) rfl (by rw [hml]; rfl) (Steps.refl _) (argsL := []) (rest := []) (lenOf pd_1 rfl) rfl (own_le rfl) (hb hby at_11) (fun _ _ => ⟨rfl, e57, (by decide : 0 + 0 ≤ _), (by decide : 0 + 0 ≤ _)⟩)
      dsimp only [Pt.U, Pt.locs, Pt.cells, Pt.slots] at X66 l66 y66 z66 st66 hQ66
      subst l66 y66 z66
      obtain ⟨rfl, Nq66, e66⟩ := hQ66
      have N_ := Fr.app N_ Nq66
      refine own_by (T' := T66) (g' := (mkF m 14 #[.val (.int x1), .val (.int x2), .val (.ref a4), .val (.ref a3), .unset, .unset] [(.int (own_lr a4 a3 a4))])) (fun t k => st66.trans k) ?_
      rw [show (own_lr a4 a3 a4) = (1 : Int32) from by simp [own_lr, ne_a1_a2, ne_a1_a3, ne_a1_a4, ne_a2_a3, ne_a2_a4, ne_a3_a4, ne_a1_a2.symm, ne_a1_a3.symm, ne_a1_a4.symm, ne_a2_a3.symm, ne_a2_a4.symm, ne_a3_a4.symm]]
      refine own_by (T' := T66) (g' := (mkF m 16 #[.val (.int x1), .val (.int x2), .val (.ref a4), .val (.ref a3), .val (.int 1), .unset] [])) (fun t k => XS.istore X66.here hx rfl (hb hby at_14) rfl (l' := #[.val (.int x1), .val (.int x2), .val (.ref a4), .val (.ref a3), .val (.int 1), .unset]) rfl k) ?_
      refine own_by (T' := T66) (g' := (mkF m 17 #[.val (.int x1), .val (.int x2), .val (.ref a4), .val (.ref a3), .val (.int 1), .unset] [(.ref a4)])) (fun t k => XS.aloadN X66.here hx rfl (hb hby at_16) rfl rfl k) ?_
      obtain ⟨cq67, kq67, q67a, q67b, q67c⟩ := isOf hZ e66 E_a4
      obtain ⟨_, _, ⟨T67, L67, k67, n67⟩, -, X67, ⟨Lc67, hQ67, l67, y67, z67⟩, st67⟩ := X66.virtualBack hx (y := (⟨"com/example/hermit_crab/hermitcrab/engine/LockMode", "readPart", "()Lcom/example/hermit_crab/hermitcrab/engine/LockMode;"⟩ : MethodName)) (z := (⟨"com/example/hermit_crab/hermitcrab/engine/LockMode", "readPart", "()Lcom/example/hermit_crab/hermitcrab/engine/LockMode;"⟩ : MethodName)) hown (mvT hZ (hw _ (own_m 17 rfl))) (mvT hZ (hw _ (own_m 18 rfl))) (notFace_of_selects (args := #[]) (mvT hZ (hw _ (own_m 20 rfl)))) (mvT hZ (hw _ (own_m 20 rfl))) (mvT hZ (hw _ (own_m 19 rfl))) (by decide) (backOf (W := 0) (rm3 l Z a0 hw [] a4 (3 : Int32) a1 a3 h0 n0 Zle E_a4 F_ordinal_a4 S_SHARED S_RANGE_SHARED (by decide)) hZ (hw _ (own_m 21 rfl)) (hw _ (own_m 5 rfl)) (by decide) (by decide)) q67a q67c (g := (mkF m 17 #[.val (.int x1), .val (.int x2), .val (.ref a4), .val (.ref a3), .val (.int 1), .unset] [(.ref a4)])) rfl (by rw [hml]; rfl) (Steps.refl _) (argsL := []) (rest := []) (lenOf pd_2 rfl) rfl (own_le rfl) (hb hby at_17) (fun _ _ => ⟨rfl, e66, (by decide : 0 + 0 ≤ _), (by decide : 0 + 0 ≤ _)⟩)
      dsimp only [Pt.U, Pt.locs, Pt.cells, Pt.slots] at X67 l67 y67 z67 st67 hQ67
      subst l67 y67 z67
      obtain ⟨rfl, Nq67, e67⟩ := hQ67
      have N_ := Fr.app N_ Nq67
      refine own_by (T' := T67) (g' := (mkF m 20 #[.val (.int x1), .val (.int x2), .val (.ref a4), .val (.ref a3), .val (.int 1), .unset] [(own_rp (3 : Int32) a1 a3)])) (fun t k => st67.trans k) ?_
      rw [show (own_rp (3 : Int32) a1 a3) = .null from by simp [own_rp]]
      obtain ⟨T68, X68, e68, st68⟩ := getS2 X67 hx hZ hown (host := "") (Or.inl (hw _ (own_m 4 rfl))) Via.refl e67 S_SHARED (g := (mkF m 20 #[.val (.int x1), .val (.int x2), .val (.ref a4), .val (.ref a3), .val (.int 1), .unset] [.null])) rfl (hb hby at_20)
      refine own_by (T' := T68) (g' := (mkF m 23 #[.val (.int x1), .val (.int x2), .val (.ref a4), .val (.ref a3), .val (.int 1), .unset] [(.ref a1), .null])) (fun t k => st68 t k) ?_
      refine own_by (T' := T68) (g' := (mkF m 26 #[.val (.int x1), .val (.int x2), .val (.ref a4), .val (.ref a3), .val (.int 1), .unset] [])) (fun t k => Jvm.RoadKit.acmp (g := (mkF m 23 #[.val (.int x1), .val (.int x2), .val (.ref a4), .val (.ref a3), .val (.int 1), .unset] [(.ref a1), .null])) X68 hx rfl rfl rfl (pc0 := 23) (pc' := 26) (same := false) rfl (hb hby at_23) rfl (decide_eq_false nofun) (by decide) (by decide) k) ?_
      refine own_by (T' := T68) (g' := (mkF m 27 #[.val (.int x1), .val (.int x2), .val (.ref a4), .val (.ref a3), .val (.int 1), .unset] [(.int 1)])) (fun t k => XS.iconst X68.here hx rfl (hb hby at_26) k) ?_
      refine own_by (T' := T68) (g' := (mkF m 31 #[.val (.int x1), .val (.int x2), .val (.ref a4), .val (.ref a3), .val (.int 1), .unset] [(.int 1)])) (fun t k => XS.goto X68.here hx rfl (pc0 := 27) (pc' := 31) rfl (hb hby at_27) (by decide) (by decide) k) ?_
      refine own_by (T' := T68) (g' := (mkF m 33 #[.val (.int x1), .val (.int x2), .val (.ref a4), .val (.ref a3), .val (.int 1), .val (.int 1)] [])) (fun t k => XS.istore X68.here hx rfl (hb hby at_31) rfl (l' := #[.val (.int x1), .val (.int x2), .val (.ref a4), .val (.ref a3), .val (.int 1), .val (.int 1)]) rfl k) ?_
      refine own_by (T' := T68) (g' := (mkF m 35 #[.val (.int x1), .val (.int x2), .val (.ref a4), .val (.ref a3), .val (.int 1), .val (.int 1)] [(.int 1)])) (fun t k => XS.iload X68.here hx rfl (hb hby at_33) rfl k) ?_
      refine own_by (T' := T68) (g' := (mkF m 37 #[.val (.int x1), .val (.int x2), .val (.ref a4), .val (.ref a3), .val (.int 1), .val (.int 1)] [(.int 1), (.int 1)])) (fun t k => XS.iload X68.here hx rfl (hb hby at_35) rfl k) ?_
      refine own_by (T' := T68) (g' := (mkF m 42 #[.val (.int x1), .val (.int x2), .val (.ref a4), .val (.ref a3), .val (.int 1), .val (.int 1)] [])) (fun t k => XS.icmpYes X68.here hx rfl (pc0 := 37) (pc' := 42) rfl (hb hby at_37) rfl (teq (by decide)).1 (by decide) (by decide) k) ?_
      refine own_by (T' := T68) (g' := (mkF m 43 #[.val (.int x1), .val (.int x2), .val (.ref a4), .val (.ref a3), .val (.int 1), .val (.int 1)] [(.ref a4)])) (fun t k => XS.aloadN X68.here hx rfl (hb hby at_42) rfl rfl k) ?_
      refine own_by (T' := T68) (g' := (mkF m 44 #[.val (.int x1), .val (.int x2), .val (.ref a4), .val (.ref a3), .val (.int 1), .val (.int 1)] [(.ref a3), (.ref a4)])) (fun t k => XS.aloadN X68.here hx rfl (hb hby at_43) rfl rfl k) ?_
      obtain ⟨cq69, kq69, q69a, q69b, q69c⟩ := isOf hZ e68 E_a4
      obtain ⟨_, _, ⟨T69, L69, k69, n69⟩, -, X69, ⟨Lc69, hQ69, l69, y69, z69⟩, st69⟩ := X68.virtualBack hx (y := (⟨"com/example/hermit_crab/hermitcrab/engine/LockMode", "conflictsWith", "(Lcom/example/hermit_crab/hermitcrab/engine/LockMode;)Z"⟩ : MethodName)) (z := (⟨"com/example/hermit_crab/hermitcrab/engine/LockMode", "conflictsWith", "(Lcom/example/hermit_crab/hermitcrab/engine/LockMode;)Z"⟩ : MethodName)) hown (mvT hZ (hw _ (own_m 32 rfl))) (mvT hZ (hw _ (own_m 33 rfl))) (notFace_of_selects (args := #[]) (mvT hZ (hw _ (own_m 35 rfl)))) (mvT hZ (hw _ (own_m 35 rfl))) (mvT hZ (hw _ (own_m 34 rfl))) (by decide) (backOf (W := 0) (rm5 l Z a0 hw [] a4 a3 (3 : Int32) a1 a2 a3 a4 h0 n0 Zle E_a4 F_ordinal_a4 S_SHARED S_EXCLUSIVE S_RANGE_SHARED S_RANGE_INSERT (by decide)) hZ (hw _ (own_m 36 rfl)) (hw _ (own_m 5 rfl)) (by decide) (by decide)) q69a q69c (g := (mkF m 44 #[.val (.int x1), .val (.int x2), .val (.ref a4), .val (.ref a3), .val (.int 1), .val (.int 1)] [(.ref a3), (.ref a4)])) rfl (by rw [hml]; rfl) (Steps.refl _) (argsL := [(.ref a3)]) (rest := []) (lenOf pd_4 rfl) rfl (own_le rfl) (hb hby at_44) (fun _ _ => ⟨rfl, e68, (by decide : 0 + 0 ≤ _), (by decide : 0 + 0 ≤ _)⟩)
      dsimp only [Pt.U, Pt.locs, Pt.cells, Pt.slots] at X69 l69 y69 z69 st69 hQ69
      subst l69 y69 z69
      obtain ⟨rfl, Nq69, e69⟩ := hQ69
      have N_ := Fr.app N_ Nq69
      refine own_by (T' := T69) (g' := (mkF m 47 #[.val (.int x1), .val (.int x2), .val (.ref a4), .val (.ref a3), .val (.int 1), .val (.int 1)] [(.int (own_cf (3 : Int32) a3 a1 a2 a3 a4))])) (fun t k => st69.trans k) ?_
      rw [show (own_cf (3 : Int32) a3 a1 a2 a3 a4) = (1 : Int32) from by simp [own_cf, ne_a1_a2, ne_a1_a3, ne_a1_a4, ne_a2_a3, ne_a2_a4, ne_a3_a4, ne_a1_a2.symm, ne_a1_a3.symm, ne_a1_a4.symm, ne_a2_a3.symm, ne_a2_a4.symm, ne_a3_a4.symm]]
      refine own_by (T' := T69) (g' := (mkF m 50 #[.val (.int x1), .val (.int x2), .val (.ref a4), .val (.ref a3), .val (.int 1), .val (.int 1)] [])) (fun t k => XS.ifNo X69.here hx rfl (hb hby at_47) rfl ((if0 _ _).trans (feq (by decide)).1) k) ?_
      refine own_by (T' := T69) (g' := (mkF m 52 #[.val (.int x1), .val (.int x2), .val (.ref a4), .val (.ref a3), .val (.int 1), .val (.int 1)] [(.int 1)])) (fun t k => XS.iload X69.here hx rfl (hb hby at_50) rfl k) ?_
      refine own_by (T' := T69) (g' := (mkF m 53 #[.val (.int x1), .val (.int x2), .val (.ref a4), .val (.ref a3), .val (.int 1), .val (.int 1)] [(.ref a3), (.int 1)])) (fun t k => XS.aloadN X69.here hx rfl (hb hby at_52) rfl rfl k) ?_
      obtain ⟨cq70, kq70, q70a, q70b, q70c⟩ := isOf hZ e69 E_a3
      obtain ⟨_, _, ⟨T70, L70, k70, n70⟩, -, X70, ⟨Lc70, hQ70, l70, y70, z70⟩, st70⟩ := X69.virtualBack hx (y := (⟨"com/example/hermit_crab/hermitcrab/engine/LockMode", "locksRange", "()Z"⟩ : MethodName)) (z := (⟨"com/example/hermit_crab/hermitcrab/engine/LockMode", "locksRange", "()Z"⟩ : MethodName)) hown (mvT hZ (hw _ (own_m 9 rfl))) (mvT hZ (hw _ (own_m 10 rfl))) (notFace_of_selects (args := #[]) (mvT hZ (hw _ (own_m 12 rfl)))) (mvT hZ (hw _ (own_m 12 rfl))) (mvT hZ (hw _ (own_m 11 rfl))) (by decide) (backOf (W := 1) (rm2 l Z a0 hw [] a3 a3 a4 h0 n0 Zle S_RANGE_SHARED S_RANGE_INSERT) hZ (hw _ (own_m 13 rfl)) (hw _ (own_m 5 rfl)) (by decide) (by decide)) q70a q70c (g := (mkF m 53 #[.val (.int x1), .val (.int x2), .val (.ref a4), .val (.ref a3), .val (.int 1), .val (.int 1)] [(.ref a3), (.int 1)])) rfl (by rw [hml]; rfl) (Steps.refl _) (argsL := []) (rest := [(.int 1)]) (lenOf pd_1 rfl) rfl (own_le rfl) (hb hby at_53) (fun _ _ => ⟨rfl, e69, (by decide : 0 + 0 ≤ _), (by decide : 0 + 0 ≤ _)⟩)
      dsimp only [Pt.U, Pt.locs, Pt.cells, Pt.slots] at X70 l70 y70 z70 st70 hQ70
      subst l70 y70 z70
      obtain ⟨rfl, Nq70, e70⟩ := hQ70
      have N_ := Fr.app N_ Nq70
      refine own_by (T' := T70) (g' := (mkF m 56 #[.val (.int x1), .val (.int x2), .val (.ref a4), .val (.ref a3), .val (.int 1), .val (.int 1)] [(.int (own_lr a3 a3 a4)), (.int 1)])) (fun t k => st70.trans k) ?_
      rw [show (own_lr a3 a3 a4) = (1 : Int32) from by simp [own_lr, ne_a1_a2, ne_a1_a3, ne_a1_a4, ne_a2_a3, ne_a2_a4, ne_a3_a4, ne_a1_a2.symm, ne_a1_a3.symm, ne_a1_a4.symm, ne_a2_a3.symm, ne_a2_a4.symm, ne_a3_a4.symm]]
      refine own_by (T' := T70) (g' := (mkF m 61 #[.val (.int x1), .val (.int x2), .val (.ref a4), .val (.ref a3), .val (.int 1), .val (.int 1)] [])) (fun t k => XS.icmpYes X70.here hx rfl (pc0 := 56) (pc' := 61) rfl (hb hby at_56) rfl (teq (by decide)).1 (by decide) (by decide) k) ?_
      refine own_by (T' := T70) (g' := (mkF m 62 #[.val (.int x1), .val (.int x2), .val (.ref a4), .val (.ref a3), .val (.int 1), .val (.int 1)] [(.int 1)])) (fun t k => XS.iconst X70.here hx rfl (hb hby at_61) k) ?_
      exact own_retN X70 hx (t := .boolean) Bd.notSynchronized Bd.returns (by simp) (hb hby at_62) (by decide) (by decide) (by rw [e70]; exact ⟨rfl, N_⟩)
    · rw [hp]
      refine own_by (T' := T57) (g' := (mkF m 10 #[.val (.int x1), .val (.int x2), .val (.ref a4), .val (.ref a4), .unset, .unset] [])) (fun t k => XS.astoreN X57.here hx rfl (hb hby at_9) rfl rfl (l' := #[.val (.int x1), .val (.int x2), .val (.ref a4), .val (.ref a4), .unset, .unset]) rfl k) ?_
      refine own_by (T' := T57) (g' := (mkF m 11 #[.val (.int x1), .val (.int x2), .val (.ref a4), .val (.ref a4), .unset, .unset] [(.ref a4)])) (fun t k => XS.aloadN X57.here hx rfl (hb hby at_10) rfl rfl k) ?_
      obtain ⟨cq71, kq71, q71a, q71b, q71c⟩ := isOf hZ e57 E_a4
      obtain ⟨_, _, ⟨T71, L71, k71, n71⟩, -, X71, ⟨Lc71, hQ71, l71, y71, z71⟩, st71⟩ := X57.virtualBack hx (y := (⟨"com/example/hermit_crab/hermitcrab/engine/LockMode", "locksRange", "()Z"⟩ : MethodName)) (z := (⟨"com/example/hermit_crab/hermitcrab/engine/LockMode", "locksRange", "()Z"⟩ : MethodName)) hown (mvT hZ (hw _ (own_m 9 rfl))) (mvT hZ (hw _ (own_m 10 rfl))) (notFace_of_selects (args := #[]) (mvT hZ (hw _ (own_m 12 rfl)))) (mvT hZ (hw _ (own_m 12 rfl))) (mvT hZ (hw _ (own_m 11 rfl))) (by decide) (backOf (W := 0) (rm2 l Z a0 hw [] a4 a3 a4 h0 n0 Zle S_RANGE_SHARED S_RANGE_INSERT) hZ (hw _ (own_m 13 rfl)) (hw _ (own_m 5 rfl)) (by decide) (by decide)) q71a q71c (g := (mkF m 11 #[.val (.int x1), .val (.int x2), .val (.ref a4), .val (.ref a4), .unset, .unset] [(.ref a4)])) rfl (by rw [hml]; rfl) (Steps.refl _) (argsL := []) (rest := []) (lenOf pd_1 rfl) rfl (own_le rfl) (hb hby at_11) (fun _ _ => ⟨rfl, e57, (by decide : 0 + 0 ≤ _), (by decide : 0 + 0 ≤ _)⟩)
      dsimp only [Pt.U, Pt.locs, Pt.cells, Pt.slots] at X71 l71 y71 z71 st71 hQ71
      subst l71 y71 z71
      obtain ⟨rfl, Nq71, e71⟩ := hQ71
      have N_ := Fr.app N_ Nq71
      refine own_by (T' := T71) (g' := (mkF m 14 #[.val (.int x1), .val (.int x2), .val (.ref a4), .val (.ref a4), .unset, .unset] [(.int (own_lr a4 a3 a4))])) (fun t k => st71.trans k) ?_
      rw [show (own_lr a4 a3 a4) = (1 : Int32) from by simp [own_lr, ne_a1_a2, ne_a1_a3, ne_a1_a4, ne_a2_a3, ne_a2_a4, ne_a3_a4, ne_a1_a2.symm, ne_a1_a3.symm, ne_a1_a4.symm, ne_a2_a3.symm, ne_a2_a4.symm, ne_a3_a4.symm]]
      refine own_by (T' := T71) (g' := (mkF m 16 #[.val (.int x1), .val (.int x2), .val (.ref a4), .val (.ref a4), .val (.int 1), .unset] [])) (fun t k => XS.istore X71.here hx rfl (hb hby at_14) rfl (l' := #[.val (.int x1), .val (.int x2), .val (.ref a4), .val (.ref a4), .val (.int 1), .unset]) rfl k) ?_
      refine own_by (T' := T71) (g' := (mkF m 17 #[.val (.int x1), .val (.int x2), .val (.ref a4), .val (.ref a4), .val (.int 1), .unset] [(.ref a4)])) (fun t k => XS.aloadN X71.here hx rfl (hb hby at_16) rfl rfl k) ?_
      obtain ⟨cq72, kq72, q72a, q72b, q72c⟩ := isOf hZ e71 E_a4
      obtain ⟨_, _, ⟨T72, L72, k72, n72⟩, -, X72, ⟨Lc72, hQ72, l72, y72, z72⟩, st72⟩ := X71.virtualBack hx (y := (⟨"com/example/hermit_crab/hermitcrab/engine/LockMode", "readPart", "()Lcom/example/hermit_crab/hermitcrab/engine/LockMode;"⟩ : MethodName)) (z := (⟨"com/example/hermit_crab/hermitcrab/engine/LockMode", "readPart", "()Lcom/example/hermit_crab/hermitcrab/engine/LockMode;"⟩ : MethodName)) hown (mvT hZ (hw _ (own_m 17 rfl))) (mvT hZ (hw _ (own_m 18 rfl))) (notFace_of_selects (args := #[]) (mvT hZ (hw _ (own_m 20 rfl)))) (mvT hZ (hw _ (own_m 20 rfl))) (mvT hZ (hw _ (own_m 19 rfl))) (by decide) (backOf (W := 0) (rm3 l Z a0 hw [] a4 (3 : Int32) a1 a3 h0 n0 Zle E_a4 F_ordinal_a4 S_SHARED S_RANGE_SHARED (by decide)) hZ (hw _ (own_m 21 rfl)) (hw _ (own_m 5 rfl)) (by decide) (by decide)) q72a q72c (g := (mkF m 17 #[.val (.int x1), .val (.int x2), .val (.ref a4), .val (.ref a4), .val (.int 1), .unset] [(.ref a4)])) rfl (by rw [hml]; rfl) (Steps.refl _) (argsL := []) (rest := []) (lenOf pd_2 rfl) rfl (own_le rfl) (hb hby at_17) (fun _ _ => ⟨rfl, e71, (by decide : 0 + 0 ≤ _), (by decide : 0 + 0 ≤ _)⟩)
      dsimp only [Pt.U, Pt.locs, Pt.cells, Pt.slots] at X72 l72 y72 z72 st72 hQ72
      subst l72 y72 z72
      obtain ⟨rfl, Nq72, e72⟩ := hQ72
      have N_ := Fr.app N_ Nq72
      refine own_by (T' := T72) (g' := (mkF m 20 #[.val (.int x1), .val (.int x2), .val (.ref a4), .val (.ref a4), .val (.int 1), .unset] [(own_rp (3 : Int32) a1 a3)])) (fun t k => st72.trans k) ?_
      rw [show (own_rp (3 : Int32) a1 a3) = .null from by simp [own_rp]]
      obtain ⟨T73, X73, e73, st73⟩ := getS2 X72 hx hZ hown (host := "") (Or.inl (hw _ (own_m 4 rfl))) Via.refl e72 S_SHARED (g := (mkF m 20 #[.val (.int x1), .val (.int x2), .val (.ref a4), .val (.ref a4), .val (.int 1), .unset] [.null])) rfl (hb hby at_20)
      refine own_by (T' := T73) (g' := (mkF m 23 #[.val (.int x1), .val (.int x2), .val (.ref a4), .val (.ref a4), .val (.int 1), .unset] [(.ref a1), .null])) (fun t k => st73 t k) ?_
      refine own_by (T' := T73) (g' := (mkF m 26 #[.val (.int x1), .val (.int x2), .val (.ref a4), .val (.ref a4), .val (.int 1), .unset] [])) (fun t k => Jvm.RoadKit.acmp (g := (mkF m 23 #[.val (.int x1), .val (.int x2), .val (.ref a4), .val (.ref a4), .val (.int 1), .unset] [(.ref a1), .null])) X73 hx rfl rfl rfl (pc0 := 23) (pc' := 26) (same := false) rfl (hb hby at_23) rfl (decide_eq_false nofun) (by decide) (by decide) k) ?_
      refine own_by (T' := T73) (g' := (mkF m 27 #[.val (.int x1), .val (.int x2), .val (.ref a4), .val (.ref a4), .val (.int 1), .unset] [(.int 1)])) (fun t k => XS.iconst X73.here hx rfl (hb hby at_26) k) ?_
      refine own_by (T' := T73) (g' := (mkF m 31 #[.val (.int x1), .val (.int x2), .val (.ref a4), .val (.ref a4), .val (.int 1), .unset] [(.int 1)])) (fun t k => XS.goto X73.here hx rfl (pc0 := 27) (pc' := 31) rfl (hb hby at_27) (by decide) (by decide) k) ?_
      refine own_by (T' := T73) (g' := (mkF m 33 #[.val (.int x1), .val (.int x2), .val (.ref a4), .val (.ref a4), .val (.int 1), .val (.int 1)] [])) (fun t k => XS.istore X73.here hx rfl (hb hby at_31) rfl (l' := #[.val (.int x1), .val (.int x2), .val (.ref a4), .val (.ref a4), .val (.int 1), .val (.int 1)]) rfl k) ?_
      refine own_by (T' := T73) (g' := (mkF m 35 #[.val (.int x1), .val (.int x2), .val (.ref a4), .val (.ref a4), .val (.int 1), .val (.int 1)] [(.int 1)])) (fun t k => XS.iload X73.here hx rfl (hb hby at_33) rfl k) ?_
      refine own_by (T' := T73) (g' := (mkF m 37 #[.val (.int x1), .val (.int x2), .val (.ref a4), .val (.ref a4), .val (.int 1), .val (.int 1)] [(.int 1), (.int 1)])) (fun t k => XS.iload X73.here hx rfl (hb hby at_35) rfl k) ?_
      refine own_by (T' := T73) (g' := (mkF m 42 #[.val (.int x1), .val (.int x2), .val (.ref a4), .val (.ref a4), .val (.int 1), .val (.int 1)] [])) (fun t k => XS.icmpYes X73.here hx rfl (pc0 := 37) (pc' := 42) rfl (hb hby at_37) rfl (teq (by decide)).1 (by decide) (by decide) k) ?_
      refine own_by (T' := T73) (g' := (mkF m 43 #[.val (.int x1), .val (.int x2), .val (.ref a4), .val (.ref a4), .val (.int 1), .val (.int 1)] [(.ref a4)])) (fun t k => XS.aloadN X73.here hx rfl (hb hby at_42) rfl rfl k) ?_
      refine own_by (T' := T73) (g' := (mkF m 44 #[.val (.int x1), .val (.int x2), .val (.ref a4), .val (.ref a4), .val (.int 1), .val (.int 1)] [(.ref a4), (.ref a4)])) (fun t k => XS.aloadN X73.here hx rfl (hb hby at_43) rfl rfl k) ?_
      obtain ⟨cq74, kq74, q74a, q74b, q74c⟩ := isOf hZ e73 E_a4
      obtain ⟨_, _, ⟨T74, L74, k74, n74⟩, -, X74, ⟨Lc74, hQ74, l74, y74, z74⟩, st74⟩ := X73.virtualBack hx (y := (⟨"com/example/hermit_crab/hermitcrab/engine/LockMode", "conflictsWith", "(Lcom/example/hermit_crab/hermitcrab/engine/LockMode;)Z"⟩ : MethodName)) (z := (⟨"com/example/hermit_crab/hermitcrab/engine/LockMode", "conflictsWith", "(Lcom/example/hermit_crab/hermitcrab/engine/LockMode;)Z"⟩ : MethodName)) hown (mvT hZ (hw _ (own_m 32 rfl))) (mvT hZ (hw _ (own_m 33 rfl))) (notFace_of_selects (args := #[]) (mvT hZ (hw _ (own_m 35 rfl)))) (mvT hZ (hw _ (own_m 35 rfl))) (mvT hZ (hw _ (own_m 34 rfl))) (by decide) (backOf (W := 0) (rm5 l Z a0 hw [] a4 a4 (3 : Int32) a1 a2 a3 a4 h0 n0 Zle E_a4 F_ordinal_a4 S_SHARED S_EXCLUSIVE S_RANGE_SHARED S_RANGE_INSERT (by decide)) hZ (hw _ (own_m 36 rfl)) (hw _ (own_m 5 rfl)) (by decide) (by decide)) q74a q74c (g := (mkF m 44 #[.val (.int x1), .val (.int x2), .val (.ref a4), .val (.ref a4), .val (.int 1), .val (.int 1)] [(.ref a4), (.ref a4)])) rfl (by rw [hml]; rfl) (Steps.refl _) (argsL := [(.ref a4)]) (rest := []) (lenOf pd_4 rfl) rfl (own_le rfl) (hb hby at_44) (fun _ _ => ⟨rfl, e73, (by decide : 0 + 0 ≤ _), (by decide : 0 + 0 ≤ _)⟩)
      dsimp only [Pt.U, Pt.locs, Pt.cells, Pt.slots] at X74 l74 y74 z74 st74 hQ74
      subst l74 y74 z74
      obtain ⟨rfl, Nq74, e74⟩ := hQ74
      have N_ := Fr.app N_ Nq74
      refine own_by (T' := T74) (g' := (mkF m 47 #[.val (.int x1), .val (.int x2), .val (.ref a4), .val (.ref a4), .val (.int 1), .val (.int 1)] [(.int (own_cf (3 : Int32) a4 a1 a2 a3 a4))])) (fun t k => st74.trans k) ?_
      rw [show (own_cf (3 : Int32) a4 a1 a2 a3 a4) = (0 : Int32) from by simp [own_cf, ne_a1_a2, ne_a1_a3, ne_a1_a4, ne_a2_a3, ne_a2_a4, ne_a3_a4, ne_a1_a2.symm, ne_a1_a3.symm, ne_a1_a4.symm, ne_a2_a3.symm, ne_a2_a4.symm, ne_a3_a4.symm]]
      refine own_by (T' := T74) (g' := (mkF m 61 #[.val (.int x1), .val (.int x2), .val (.ref a4), .val (.ref a4), .val (.int 1), .val (.int 1)] [])) (fun t k => XS.ifYes X74.here hx rfl (pc0 := 47) (pc' := 61) rfl (hb hby at_47) rfl ((if0 _ _).trans (teq (by decide)).1) (by decide) (by decide) k) ?_
      refine own_by (T' := T74) (g' := (mkF m 62 #[.val (.int x1), .val (.int x2), .val (.ref a4), .val (.ref a4), .val (.int 1), .val (.int 1)] [(.int 1)])) (fun t k => XS.iconst X74.here hx rfl (hb hby at_61) k) ?_
      exact own_retN X74 hx (t := .boolean) Bd.notSynchronized Bd.returns (by simp) (hb hby at_62) (by decide) (by decide) (by rw [e74]; exact ⟨rfl, N_⟩)

set_option maxRecDepth 65536 in
set_option maxHeartbeats 40000000 in
theorem comes_1 {Post : Tables → Env → Array Value → State → Outcome → State → Prop} (hpost : ∀ tb e args s v u, (limb_1_1.after args s (.returned v) u = true ∧ limb_1_2.after args s (.returned v) u = true ∧ True) → FrameEnd s (.returned v) u (Jvm.fieldLocs frame_1_writes args s ++ Jvm.arrayLocs frame_1_arrays args s ++ Jvm.staticLocs frame_1_statics s) 0 0 → Post tb e args s (.returned v) u) :
    ArmFor flags0 classFile x code maxLocals ret World_1 tables_1 room_1 Calls_1 rest_1 Pre_1 Post := by
  intro l hfl _ _ p e ha hc hk s m args below hf hA hF happ hP
  obtain ⟨hcalls, hrest, hpre⟩ := hP
  obtain ⟨-, -, -, hnamed, -, -, -, hat⟩ := (Spec.applies_iff hf).mp happ
  obtain ⟨hg, hn⟩ := and_e (Cond.before_iff.mp (show (Jvm.Cond.and given_1 narrow_1).before args s = true from hpre))
  obtain ⟨hcount, g0⟩ := and_e hg
  obtain ⟨a0, g1⟩ := and_e g0
  obtain ⟨w0, w1, rfl⟩ : ∃ w0 w1 : Value, args = #[w0, w1] := by
    have hs : args.size = 2 := by simpa [Cond.value, given_1] using hcount
    obtain ⟨L⟩ := args
    match L, hs with
    | [w0, w1], _ => exact ⟨w0, w1, rfl⟩
  have hw := fun d (hd : d ∈ tables_1) => atoms_spec (ws := Jvm.Cond.code x code maxLocals ret :: tables_1) hat d (List.mem_cons_of_mem _ hd)
  have hfit : Fit s := fun {y c} hc i hi => by
    obtain ⟨ha, rfl⟩ := Array.getElem?_eq_some_iff.mp hc
    have q := List.all_eq_true.mp ((Array.all_eq_true_iff_forall_mem.mp hF) _ (Array.getElem_mem ha)) i (List.mem_range.mpr hi)
    simpa [Array.getElem?_eq_getElem hi] using q
  obtain ⟨i0, ei0⟩ := is_v a0
  obtain rfl : w0 = (.int i0) := Option.some.inj ei0
  obtain ⟨i1, ei1⟩ := is_v g1
  obtain rfl : w1 = (.int i1) := Option.some.inj ei1
  obtain ⟨na0, nb0⟩ := and_e hn
  obtain ⟨na1, nb1⟩ := and_e nb0
  obtain ⟨na2, nb2⟩ := and_e nb1
  obtain ⟨na3, nb3⟩ := and_e nb2
  obtain ⟨na4, nb4⟩ := and_e nb3
  obtain ⟨na5, nb5⟩ := and_e nb4
  obtain ⟨na6, nb6⟩ := and_e nb5
  obtain ⟨a1, ev_a1⟩ := exa_v na0
  have E_a1 := Exa.start ev_a1 na0
  have S_SHARED := Sta.start ev_a1 (Or.inr ⟨(hw _ (own_m 5 rfl)), (hw _ (own_m 6 rfl))⟩)
  obtain ⟨a4, ev_a4⟩ := exa_v na1
  have E_a4 := Exa.start ev_a4 na1
  have S_RANGE_INSERT := Sta.start ev_a4 (Or.inr ⟨(hw _ (own_m 5 rfl)), (hw _ (own_m 8 rfl))⟩)
  obtain ⟨a3, ev_a3⟩ := exa_v na2
  have E_a3 := Exa.start ev_a3 na2
  have S_RANGE_SHARED := Sta.start ev_a3 (Or.inr ⟨(hw _ (own_m 5 rfl)), (hw _ (own_m 15 rfl))⟩)
  obtain ⟨a2, ev_a2⟩ := exa_v na6
  have E_a2 := Exa.start ev_a2 na6
  have S_EXCLUSIVE := Sta.start ev_a2 (Or.inr ⟨(hw _ (own_m 5 rfl)), (hw _ (own_m 38 rfl))⟩)
  have F_ordinal_a1 := Fld.start ((fld_at ev_a1).symm.trans (own_eq_int na3))
  have F_ordinal_a3 := Fld.start ((fld_at ev_a3).symm.trans (own_eq_int na4))
  have F_ordinal_a4 := Fld.start ((fld_at ev_a4).symm.trans (own_eq_int na5))
  have F_ordinal_a2 := Fld.start ((fld_at ev_a2).symm.trans (own_eq_int nb6))
  have ne_a1_a2 := F_ordinal_a1.ne F_ordinal_a2 (by decide)
  have ne_a1_a3 := F_ordinal_a1.ne F_ordinal_a3 (by decide)
  have ne_a1_a4 := F_ordinal_a1.ne F_ordinal_a4 (by decide)
  have ne_a2_a3 := F_ordinal_a2.ne F_ordinal_a3 (by decide)
  have ne_a2_a4 := F_ordinal_a2.ne F_ordinal_a4 (by decide)
  have ne_a3_a4 := F_ordinal_a3.ne F_ordinal_a4 (by decide)
  obtain ⟨n, o, h1, h2, h3, _, L, rfl, ⟨rfl, N⟩, hq⟩ := rm0 l s _ hw tables_1 i0 i1 a1 a2 a3 a4 s.heap s.heap.size (Nat.le_refl _) E_a1 S_SHARED E_a4 S_RANGE_INSERT E_a3 S_RANGE_SHARED E_a2 S_EXCLUSIVE F_ordinal_a1 F_ordinal_a3 F_ordinal_a4 F_ordinal_a2 ne_a1_a2 ne_a1_a3 ne_a1_a4 ne_a2_a3 ne_a2_a4 ne_a3_a4 p e ha hc hk s m _ below hf ((Spec.applies_iff_loose hf).mp happ).1 ⟨rfl, State.Warmed39.refl s, rfl⟩ trivial
  refine ⟨n, _, h1, h2, h3, hpost _ _ _ _ _ _ ⟨Cond.after_iff.mpr rfl, Cond.after_iff.mpr (eq_i res_at (Term.int_eval (1)) rfl), trivial⟩ ⟨hq.1, hq.2.1, (hq.2.2.sift fun y hy => Or.inr (N y hy)).mono (by decide) (by decide)⟩⟩
theorem main_1_1 : Claimed_1_1 := comes_1 fun _ _ _ _ _ _ h hF => ⟨h.1, hF⟩
theorem main_1_2 : Claimed_1_2 := comes_1 fun _ _ _ _ _ _ h hF => ⟨h.2.1, hF⟩

end Jvm.Pilot.@@N@@
namespace Jvm.Pilot.@@N@@
open Jvm Jvm.ClassFile Sem Op Lib Jvm.Free Jvm.Stand Jvm.Pilot.@@N@@.Jvm.D
/-! MADE BY PROGRAM (witnessworld.py) out of the Statement's table words and the real class files: 12 classes; the members and pool entries that the words name. The judged class is class 1, her method 2. -/
namespace start1
open Jvm.ClassFile
def u (s : String) : CpInfo := .utf8 (stringToUtf16 s)
/-- a pool by its gaps: so many unusable entries, then the entry; so many at the end -/
def gap : Nat → List CpInfo → List CpInfo
  | 0, r => r
  | n + 1, r => .unusable :: gap n r
def poolList (es : List (Nat × CpInfo)) (last : Nat) : List CpInfo := es.foldr (fun e r => gap e.1 (e.2 :: r)) (gap last [])
def pool (es : List (Nat × CpInfo)) (last : Nat) : Array CpInfo := ⟨poolList es last⟩
def fileOf (pool : Array CpInfo) (this : Nat) (attrs : Array Attribute := #[]) (ms : Array MethodInfo := #[]) (fl : Nat := 33) (sup : Nat := 0) (ifs : Array Nat := #[]) (fds : Array FieldInfo := #[]) : ClassFile where
  minorVersion := 0
  majorVersion := 65
  constantPool := pool
  accessFlags := fl
  thisClass := this
  superClass := sup
  interfaces := ifs
  fields := fds
  methods := ms
  attributes := attrs
def plain (name : String) (sup : Option ClassId) : Class where
  name := name
  kind := .ordinary
  loader := none
  accessFlags := 33
  super := sup
  interfaces := #[]
  cf := none
  fields := #[]
  methods := #[]
  instanceTypes := #[]
  staticTypes := #[]
  resolved := #[]
  callSites := []
  init := .initialized
  statics := none
  mirror := none

def pool0 : Array CpInfo := pool [(5, u "<init>"), (0, u "()V"), (1, .class_ 10), (1, u "java/lang/Object")] 113

def k0m0 : Method := { name := "<init>", desc := "()V", sig := { parameters := [], returnType := none }, accessFlags := 1, code := none }
/-- java/lang/Object -/
def k0 : Class := { plain "java/lang/Object" none with
  accessFlags := 33
  interfaces := #[]
  cf := some (fileOf pool0 8 #[] #[{ accessFlags := 1, nameIndex := 5, descriptorIndex := 6, attributes := #[] }] 33 0 #[] #[])
  fields := #[]
  methods := #[k0m0]
  instanceTypes := #[]
  staticTypes := #[]
  resolved := Array.replicate 124 none
  statics := none }

def pool1 : Array CpInfo := pool [(2, .class_ 4), (1, u "java/lang/Object"), (0, u "<init>"), (0, u "()V"), (0, .fieldref 8 9), (0, .class_ 10), (0, .nameAndType 11 12), (0, u "com/example/hermit_crab/hermitcrab/engine/LockMode"), (0, u "SHARED"), (0, u "Lcom/example/hermit_crab/hermitcrab/engine/LockMode;"), (0, .fieldref 8 14), (0, .nameAndType 15 12), (0, u "EXCLUSIVE"), (0, .fieldref 8 17), (0, .nameAndType 18 12), (0, u "RANGE_SHARED"), (0, .fieldref 8 20), (0, .nameAndType 21 12), (0, u "RANGE_INSERT"), (0, .methodref 23 24), (0, .class_ 25), (0, .nameAndType 26 27), (0, u "com/example/hermit_crab/hermitcrab/engine/LockModeLocksRangePinLaw"), (0, u "pick"), (0, u "(I)Lcom/example/hermit_crab/hermitcrab/engine/LockMode;"), (0, .methodref 8 29), (0, .nameAndType 30 31), (0, u "locksRange"), (0, u "()Z"), (0, .methodref 8 33), (0, .nameAndType 34 35), (0, u "readPart"), (0, u "()Lcom/example/hermit_crab/hermitcrab/engine/LockMode;"), (0, .methodref 8 37), (0, .nameAndType 38 39), (0, u "conflictsWith"), (0, u "(Lcom/example/hermit_crab/hermitcrab/engine/LockMode;)Z"), (3, u "law"), (0, u "(II)Z")] 2

def k1m0 : Method := { name := "<init>", desc := "()V", sig := { parameters := [], returnType := none }, accessFlags := 1, code := none }
def k1c1 : Code := { maxStack := 2, maxLocals := 2, code := method_2_code, exceptionTable := #[], attributes := #[] }
def k1m1 : Method := { name := "pick", desc := "(I)Lcom/example/hermit_crab/hermitcrab/engine/LockMode;", sig := { parameters := [.int], returnType := some (.object "com/example/hermit_crab/hermitcrab/engine/LockMode") }, accessFlags := 10, code := some k1c1 }
def k1c2 : Code := { maxStack := 2, maxLocals := 6, code := code, exceptionTable := #[], attributes := #[] }
def k1m2 : Method := { name := "law", desc := "(II)Z", sig := { parameters := [.int, .int], returnType := some .boolean }, accessFlags := 9, code := some k1c2 }
/-- com/example/hermit_crab/hermitcrab/engine/LockModeLocksRangePinLaw -/
def k1 : Class := { plain "com/example/hermit_crab/hermitcrab/engine/LockModeLocksRangePinLaw" (some 0) with
  accessFlags := 49
  interfaces := #[]
  cf := some (fileOf pool1 23 #[] #[{ accessFlags := 1, nameIndex := 5, descriptorIndex := 6, attributes := #[] }, { accessFlags := 10, nameIndex := 26, descriptorIndex := 27, attributes := #[] }, { accessFlags := 9, nameIndex := 43, descriptorIndex := 44, attributes := #[] }] 49 2 #[] #[])
  fields := #[]
  methods := #[k1m0, k1m1, k1m2]
  instanceTypes := #[]
  staticTypes := #[]
  resolved := Array.replicate 47 none
  statics := none }

def pool2 : Array CpInfo := pool [(1, .class_ 2), (0, u "java/lang/constant/Constable"), (0, .class_ 4), (0, u "java/lang/Object")] 6

/-- java/lang/constant/Constable -/
def k2 : Class := { plain "java/lang/constant/Constable" (some 0) with
  accessFlags := 1537
  interfaces := #[]
  cf := some (fileOf pool2 1 #[] #[] 1537 3 #[] #[])
  fields := #[]
  methods := #[]
  instanceTypes := #[]
  staticTypes := #[]
  resolved := Array.replicate 11 none
  statics := none }

def pool3 : Array CpInfo := pool [(1, .class_ 2), (0, u "java/lang/Comparable"), (0, .class_ 4), (0, u "java/lang/Object")] 7

/-- java/lang/Comparable -/
def k3 : Class := { plain "java/lang/Comparable" (some 0) with
  accessFlags := 1537
  interfaces := #[]
  cf := some (fileOf pool3 1 #[] #[] 1537 3 #[] #[])
  fields := #[]
  methods := #[]
  instanceTypes := #[]
  staticTypes := #[]
  resolved := Array.replicate 12 none
  statics := none }

def pool4 : Array CpInfo := pool [(1, .class_ 2), (0, u "java/io/Serializable"), (0, .class_ 4), (0, u "java/lang/Object")] 2

/-- java/io/Serializable -/
def k4 : Class := { plain "java/io/Serializable" (some 0) with
  accessFlags := 1537
  interfaces := #[]
  cf := some (fileOf pool4 1 #[] #[] 1537 3 #[] #[])
  fields := #[]
  methods := #[]
  instanceTypes := #[]
  staticTypes := #[]
  resolved := Array.replicate 7 none
  statics := none }

def pool5 : Array CpInfo := pool [(2, .class_ 4), (1, u "java/lang/Enum"), (0, u "name"), (0, u "Ljava/lang/String;"), (0, .fieldref 2 8), (0, .nameAndType 9 10), (0, u "ordinal"), (0, u "I"), (1, .class_ 14), (1, u "java/lang/Object"), (4, u "hash"), (86, .class_ 108), (1, u "java/lang/Enum$EnumDesc"), (2, .class_ 112), (0, u "java/lang/constant/Constable"), (0, .class_ 114), (0, u "java/lang/Comparable"), (0, .class_ 116), (0, u "java/io/Serializable"), (9, u "()I")] 77

def k5c0 : Code := { maxStack := 1, maxLocals := 1, code := jdk_37_method_2_code, exceptionTable := #[], attributes := #[] }
def k5m0 : Method := { name := "ordinal", desc := "()I", sig := { parameters := [], returnType := some .int }, accessFlags := 17, code := some k5c0 }
/-- java/lang/Enum -/
def k5 : Class := { plain "java/lang/Enum" (some 0) with
  accessFlags := 1057
  interfaces := #[2, 3, 4]
  cf := some (fileOf pool5 2 #[.nestMembers #[106]] #[{ accessFlags := 17, nameIndex := 9, descriptorIndex := 126, attributes := #[] }] 1057 12 #[111, 113, 115] #[{ accessFlags := 18, nameIndex := 5, descriptorIndex := 6, attributes := #[] }, { accessFlags := 18, nameIndex := 9, descriptorIndex := 10, attributes := #[] }, { accessFlags := 2, nameIndex := 19, descriptorIndex := 10, attributes := #[] }])
  fields := #[{ name := "name", type := (.object "java/lang/String"), accessFlags := 18, slot := 0, constantValue := 0 }, { name := "ordinal", type := .int, accessFlags := 18, slot := 1, constantValue := 0 }, { name := "hash", type := .int, accessFlags := 2, slot := 2, constantValue := 0 }]
  methods := #[k5m0]
  instanceTypes := #[(.object "java/lang/String"), .int, .int]
  staticTypes := #[]
  resolved := Array.replicate 204 none
  statics := none }

def pool6 : Array CpInfo := pool [(1, .class_ 2), (0, u "com/example/hermit_crab/hermitcrab/engine/LockMode"), (0, .fieldref 1 4), (0, .nameAndType 5 6), (0, u "SHARED"), (0, u "Lcom/example/hermit_crab/hermitcrab/engine/LockMode;"), (0, .fieldref 1 8), (0, .nameAndType 9 6), (0, u "EXCLUSIVE"), (0, .fieldref 1 11), (0, .nameAndType 12 6), (0, u "RANGE_SHARED"), (0, .fieldref 1 14), (0, .nameAndType 15 6), (0, u "RANGE_INSERT"), (2, u "$VALUES"), (0, u "[Lcom/example/hermit_crab/hermitcrab/engine/LockMode;"), (6, .class_ 28), (1, u "java/lang/Enum"), (6, .methodref 1 36), (0, .nameAndType 37 38), (0, u "ordinal"), (0, u "()I"), (16, u "()Z"), (5, u "conflictsWith"), (0, u "(Lcom/example/hermit_crab/hermitcrab/engine/LockMode;)Z"), (17, u "locksRange"), (0, u "readPart"), (0, u "()Lcom/example/hermit_crab/hermitcrab/engine/LockMode;")] 7

def k6c0 : Code := { maxStack := 4, maxLocals := 2, code := prog_13_method_4_code, exceptionTable := #[], attributes := #[] }
def k6m0 : Method := { name := "conflictsWith", desc := "(Lcom/example/hermit_crab/hermitcrab/engine/LockMode;)Z", sig := { parameters := [(.object "com/example/hermit_crab/hermitcrab/engine/LockMode")], returnType := some .boolean }, accessFlags := 0, code := some k6c0 }
def k6c1 : Code := { maxStack := 2, maxLocals := 1, code := prog_13_method_5_code, exceptionTable := #[], attributes := #[] }
def k6m1 : Method := { name := "locksRange", desc := "()Z", sig := { parameters := [], returnType := some .boolean }, accessFlags := 0, code := some k6c1 }
def k6c2 : Code := { maxStack := 4, maxLocals := 1, code := prog_13_method_6_code, exceptionTable := #[], attributes := #[] }
def k6m2 : Method := { name := "readPart", desc := "()Lcom/example/hermit_crab/hermitcrab/engine/LockMode;", sig := { parameters := [], returnType := some (.object "com/example/hermit_crab/hermitcrab/engine/LockMode") }, accessFlags := 0, code := some k6c2 }
/-- com/example/hermit_crab/hermitcrab/engine/LockMode -/
def k6 : Class := { plain "com/example/hermit_crab/hermitcrab/engine/LockMode" (some 5) with
  accessFlags := 16432
  interfaces := #[]
  cf := some (fileOf pool6 1 #[] #[{ accessFlags := 0, nameIndex := 61, descriptorIndex := 62, attributes := #[] }, { accessFlags := 0, nameIndex := 80, descriptorIndex := 55, attributes := #[] }, { accessFlags := 0, nameIndex := 81, descriptorIndex := 82, attributes := #[] }] 16432 26 #[] #[{ accessFlags := 16409, nameIndex := 5, descriptorIndex := 6, attributes := #[] }, { accessFlags := 16409, nameIndex := 9, descriptorIndex := 6, attributes := #[] }, { accessFlags := 16409, nameIndex := 12, descriptorIndex := 6, attributes := #[] }, { accessFlags := 16409, nameIndex := 15, descriptorIndex := 6, attributes := #[] }, { accessFlags := 4122, nameIndex := 18, descriptorIndex := 19, attributes := #[] }])
  fields := #[{ name := "SHARED", type := (.object "com/example/hermit_crab/hermitcrab/engine/LockMode"), accessFlags := 16409, slot := 0, constantValue := 0 }, { name := "EXCLUSIVE", type := (.object "com/example/hermit_crab/hermitcrab/engine/LockMode"), accessFlags := 16409, slot := 1, constantValue := 0 }, { name := "RANGE_SHARED", type := (.object "com/example/hermit_crab/hermitcrab/engine/LockMode"), accessFlags := 16409, slot := 2, constantValue := 0 }, { name := "RANGE_INSERT", type := (.object "com/example/hermit_crab/hermitcrab/engine/LockMode"), accessFlags := 16409, slot := 3, constantValue := 0 }, { name := "$VALUES", type := (.array (.object "com/example/hermit_crab/hermitcrab/engine/LockMode")), accessFlags := 4122, slot := 4, constantValue := 0 }]
  methods := #[k6m0, k6m1, k6m2]
  instanceTypes := #[(.object "java/lang/String"), .int, .int]
  staticTypes := #[(.object "com/example/hermit_crab/hermitcrab/engine/LockMode"), (.object "com/example/hermit_crab/hermitcrab/engine/LockMode"), (.object "com/example/hermit_crab/hermitcrab/engine/LockMode"), (.object "com/example/hermit_crab/hermitcrab/engine/LockMode"), (.array (.object "com/example/hermit_crab/hermitcrab/engine/LockMode"))]
  resolved := Array.replicate 90 none
  statics := some 0 }

def pool7 : Array CpInfo := pool [(1, u "java/lang/Cloneable"), (0, .class_ 1), (0, u "java/lang/Object"), (0, .class_ 3)] 3

/-- java/lang/Cloneable -/
def k7 : Class := { plain "java/lang/Cloneable" (some 0) with
  accessFlags := 1537
  interfaces := #[]
  cf := some (fileOf pool7 2 #[] #[] 1537 4 #[] #[])
  fields := #[]
  methods := #[]
  instanceTypes := #[]
  staticTypes := #[]
  resolved := Array.replicate 8 none
  statics := none }

/-- the primitive byte -/
def k8 : Class := { plain "byte" none with kind := .primitive 'B', accessFlags := 0x411 }
/-- [B -/
def k9 : Class := { plain "[B" (some 0) with kind := .array 8 .byte, interfaces := #[7, 4], accessFlags := 1041 }

/-- the primitive int -/
def k10 : Class := { plain "int" none with kind := .primitive 'I', accessFlags := 0x411 }
/-- [I -/
def k11 : Class := { plain "[I" (some 0) with kind := .array 10 .int, interfaces := #[7, 4], accessFlags := 1041 }

def heap : Heap := #[{ cls := 6, slots := #[.ref 1, .ref 2, .ref 3, .ref 4, .null], vm := .statics 6 },
  { cls := 6, slots := #[.null, .int 0, .int 0], vm := .none },
  { cls := 6, slots := #[.null, .int 1, .int 0], vm := .none },
  { cls := 6, slots := #[.null, .int 2, .int 0], vm := .none },
  { cls := 6, slots := #[.null, .int 3, .int 0], vm := .none }]
def classes : Array Class := #[k0, k1, k2, k3, k4, k5, k6, k7, k8, k9, k10, k11]
def interned : List (Array UInt16 × Addr) := []
def slotsUsed : Nat := 17
def theMethod : MethodId := ⟨1, 2⟩
def args0 : Array Value := #[.int 1, .int 2]
def aboutOver (below : List Frame) : State where
  vm := { classes := classes, interned := interned.toArray }
  heap := heap
  slotsUsed := slotsUsed
  threads := #[{ frames := .invoking theMethod args0 :: below }]
def below0 : List Frame := [.native { method := ⟨0, 0⟩, args := #[] }]
def about1 : State := aboutOver below0
def p0 : Program := .bare "" "" ""
def e0 : Env := launch0.env 0 0 0
theorem w_frames : about1.frames = Frame.invoking theMethod args0 :: below0 := rfl
set_option maxRecDepth 65536 in
theorem w_args : argsFit about1.vm theMethod args0 = true := by decide +kernel
set_option maxRecDepth 65536 in
theorem w_heap : heapFits about1 = true := by decide +kernel
set_option maxRecDepth 65536 in
theorem w_runnable : about1.curStatus? = some .runnable := by decide +kernel
set_option maxRecDepth 65536 in
theorem w_alone : about1.alone = true := by decide +kernel
set_option maxRecDepth 65536 in
theorem w_named : about1.methodNamed? x = some theMethod := by decide +kernel
set_option maxRecDepth 65536 in
theorem w_hears : about1.hears theMethod below0 = true := by decide +kernel
set_option maxRecDepth 65536 in
theorem w_ripe : about1.ripe theMethod args0 below0 = true := by decide +kernel
theorem w_running : about1.status = .running := rfl
set_option maxRecDepth 65536 in
theorem w_room : about1.hasRoom e0.platform room_1 = true :=
  launch0.hasRoom_least _ room_1 (by decide +kernel) (by decide +kernel) (by decide +kernel) (by decide +kernel) (by decide +kernel) (by decide +kernel)
theorem allAtoms_all (ts : List Jvm.Cond) (a : Array Jvm.Value) (st : Jvm.State) : (allAtoms ts).before a st = ts.all (fun c => c.before a st) := by
  induction ts with
  | nil => rfl
  | cons c t ih =>
    show (Jvm.Cond.and c (allAtoms t)).before a st = _
    rw [Jvm.Cond.before_and, ih, List.all_cons]
def words1 : List Jvm.Cond := Jvm.Cond.code x code maxLocals ret :: tables_1
/-- a 'code' word, met by the world's own term for the bytes: nothing is compared byte by byte -/
theorem code_word {y : MethodName} {bytes : ByteArray} {mx : Nat} {rt : Option FieldType} {a : Array Value} {s : State} {m : MethodId} {meth : Method} {c : Code} (h1 : s.methodNamed? y = some m) (h2 : s.vm.method? m = some meth) (h3 : meth.code = some c) (h4 : c.code = bytes)
    (h5 : (c.maxLocals == mx && c.exceptionTable.isEmpty && decide (c.maxStack ≤ mostOperands) && decide (meth.sig.returnType = rt) && !meth.locks && decide (parseMethodDescriptor y.desc = some meth.sig)) = true) : (Jvm.Cond.code y bytes mx rt).before a s = true := by
  simp only [Bool.and_eq_true, beq_iff_eq, Bool.not_eq_true', decide_eq_true_eq] at h5
  obtain ⟨⟨⟨⟨⟨g1, g2⟩, g3⟩, g4⟩, g5⟩, g6⟩ := h5
  simp [Cond.before, Cond.holds, Cond.value, h1, h2, h3, h4, g1, g2, g3, g4, g5, g6]
def isCode : Jvm.Cond → Bool
  | .code _ _ _ _ => true
  | _ => false
theorem all_split {L : List Jvm.Cond} {P : Jvm.Cond → Bool} (h1 : L.all (fun c => isCode c || P c) = true) (h2 : ∀ c ∈ L.filter isCode, P c = true) : L.all P = true := by
  refine List.all_eq_true.mpr fun c hc => ?_
  have h := List.all_eq_true.mp h1 c hc
  rcases Bool.eq_false_or_eq_true (isCode c) with hi | hi
  · exact h2 c (List.mem_filter.mpr ⟨hc, hi⟩)
  · simpa [hi] using h
set_option maxRecDepth 65536 in
theorem w_c0 : (Jvm.Cond.code x code maxLocals ret).before args0 about1 = true := code_word (m := ⟨1, 2⟩) (meth := k1m2) (c := k1c2) (by decide +kernel) rfl rfl rfl (by decide +kernel)
set_option maxRecDepth 65536 in
theorem w_c1 : (Jvm.Cond.code ({ cls := "com/example/hermit_crab/hermitcrab/engine/LockModeLocksRangePinLaw", name := "pick", desc := "(I)Lcom/example/hermit_crab/hermitcrab/engine/LockMode;" } : Jvm.MethodName) method_2_code (2 : Nat) (Option.some (Jvm.ClassFile.FieldType.object "com/example/hermit_crab/hermitcrab/engine/LockMode"))).before args0 about1 = true := code_word (m := ⟨1, 1⟩) (meth := k1m1) (c := k1c1) (by decide +kernel) rfl rfl rfl (by decide +kernel)
set_option maxRecDepth 65536 in
theorem w_c2 : (Jvm.Cond.code ({ cls := "com/example/hermit_crab/hermitcrab/engine/LockMode", name := "locksRange", desc := "()Z" } : Jvm.MethodName) prog_13_method_5_code (1 : Nat) (Option.some Jvm.ClassFile.FieldType.boolean)).before args0 about1 = true := code_word (m := ⟨6, 1⟩) (meth := k6m1) (c := k6c1) (by decide +kernel) rfl rfl rfl (by decide +kernel)
set_option maxRecDepth 65536 in
theorem w_c3 : (Jvm.Cond.code ({ cls := "com/example/hermit_crab/hermitcrab/engine/LockMode", name := "readPart", desc := "()Lcom/example/hermit_crab/hermitcrab/engine/LockMode;" } : Jvm.MethodName) prog_13_method_6_code (1 : Nat) (Option.some (Jvm.ClassFile.FieldType.object "com/example/hermit_crab/hermitcrab/engine/LockMode"))).before args0 about1 = true := code_word (m := ⟨6, 2⟩) (meth := k6m2) (c := k6c2) (by decide +kernel) rfl rfl rfl (by decide +kernel)
set_option maxRecDepth 65536 in
theorem w_c4 : (Jvm.Cond.code ({ cls := "java/lang/Enum", name := "ordinal", desc := "()I" } : Jvm.MethodName) jdk_37_method_2_code (1 : Nat) (Option.some Jvm.ClassFile.FieldType.int)).before args0 about1 = true := code_word (m := ⟨5, 0⟩) (meth := k5m0) (c := k5c0) (by decide +kernel) rfl rfl rfl (by decide +kernel)
set_option maxRecDepth 65536 in
theorem w_c5 : (Jvm.Cond.code ({ cls := "com/example/hermit_crab/hermitcrab/engine/LockMode", name := "conflictsWith", desc := "(Lcom/example/hermit_crab/hermitcrab/engine/LockMode;)Z" } : Jvm.MethodName) prog_13_method_4_code (2 : Nat) (Option.some Jvm.ClassFile.FieldType.boolean)).before args0 about1 = true := code_word (m := ⟨6, 0⟩) (meth := k6m0) (c := k6c0) (by decide +kernel) rfl rfl rfl (by decide +kernel)
def codes1 : List Jvm.Cond := [Jvm.Cond.code x code maxLocals ret, Jvm.Cond.code ({ cls := "com/example/hermit_crab/hermitcrab/engine/LockModeLocksRangePinLaw", name := "pick", desc := "(I)Lcom/example/hermit_crab/hermitcrab/engine/LockMode;" } : Jvm.MethodName) method_2_code (2 : Nat) (Option.some (Jvm.ClassFile.FieldType.object "com/example/hermit_crab/hermitcrab/engine/LockMode")), Jvm.Cond.code ({ cls := "com/example/hermit_crab/hermitcrab/engine/LockMode", name := "locksRange", desc := "()Z" } : Jvm.MethodName) prog_13_method_5_code (1 : Nat) (Option.some Jvm.ClassFile.FieldType.boolean), Jvm.Cond.code ({ cls := "com/example/hermit_crab/hermitcrab/engine/LockMode", name := "readPart", desc := "()Lcom/example/hermit_crab/hermitcrab/engine/LockMode;" } : Jvm.MethodName) prog_13_method_6_code (1 : Nat) (Option.some (Jvm.ClassFile.FieldType.object "com/example/hermit_crab/hermitcrab/engine/LockMode")), Jvm.Cond.code ({ cls := "java/lang/Enum", name := "ordinal", desc := "()I" } : Jvm.MethodName) jdk_37_method_2_code (1 : Nat) (Option.some Jvm.ClassFile.FieldType.int), Jvm.Cond.code ({ cls := "com/example/hermit_crab/hermitcrab/engine/LockMode", name := "conflictsWith", desc := "(Lcom/example/hermit_crab/hermitcrab/engine/LockMode;)Z" } : Jvm.MethodName) prog_13_method_4_code (2 : Nat) (Option.some Jvm.ClassFile.FieldType.boolean)]
set_option maxRecDepth 65536 in
theorem codes_eq : words1.filter isCode = codes1 := rfl
theorem w_codes : ∀ c ∈ words1.filter isCode, c.before args0 about1 = true := by
  rw [codes_eq]
  intro c hc
  simp only [codes1, List.mem_cons, List.not_mem_nil, or_false] at hc
  rcases hc with rfl | rfl | rfl | rfl | rfl | rfl
  · exact w_c0
  · exact w_c1
  · exact w_c2
  · exact w_c3
  · exact w_c4
  · exact w_c5
set_option maxRecDepth 65536 in
theorem w_t1 : (words1.take 24).all (fun c => isCode c || c.before args0 about1) = true := by decide +kernel
set_option maxRecDepth 65536 in
theorem w_t2 : (words1.drop 24).all (fun c => isCode c || c.before args0 about1) = true := by decide +kernel
theorem w_tables : (allAtoms (Jvm.Cond.code x code maxLocals ret :: tables_1)).before args0 about1 = true := by
  rw [allAtoms_all]
  show words1.all (fun c => c.before args0 about1) = true
  refine all_split ?_ w_codes
  rw [← List.take_append_drop 24 words1, List.all_append, w_t1, w_t2]
  rfl
set_option maxRecDepth 65536 in
theorem w_case : (Jvm.Cond.and given_1 narrow_1).before args0 about1 = true := by decide +kernel
theorem w_applies : (headSpec (Jvm.Cond.code x code maxLocals ret :: tables_1) room_1).applies x e0.platform about1 = true :=
  (Spec.applies_iff w_frames).mpr ⟨w_running, w_runnable, w_alone, w_named, w_hears, w_ripe, w_room, w_tables⟩
theorem atStart : AtStart classFile x code maxLocals ret World_1 tables_1 room_1 Calls_1 rest_1 Pre_1 launch0 p0 e0 about1 theMethod args0 below0 :=
  ⟨lists_1, trivial, launch0.admits_env _ _ _, launch0.least_env, fairChoices_fair.cas, fairChoices_fair.clock, w_frames, w_args, w_heap, w_applies, trivial, trivial, w_case⟩
end start1
theorem witness_1 : WitnessClaimed_1 := ⟨start1.p0, start1.e0, start1.about1, start1.theMethod, start1.args0, start1.below0, start1.atStart⟩
end Jvm.Pilot.@@N@@
