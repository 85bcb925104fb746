import JvmDerived
import JvmDerived.Pilot.@@N@@Statement
import JvmDerived.Pilot.@@N@@Code
set_option linter.unusedVariables false
set_option linter.unusedSimpArgs false
namespace Jvm.RoadKit
open Sem ClassFile Op Lib Jvm.Stand Jvm.Free Jvm.LawKit
section New
variable {p : Program} {l : Launch} {e : Env} {R : Room} {s : State} {m : MethodId} {args : Array Value} {below : List Frame} {meth : Method} {c : Code} {T : State} {locs : List Loc} {cells slots : Nat}
theorem retI (X : Stand p l e R s m args below meth c T locs cells slots) (hx : p.tables.exec = Jvm.exec) {pc : Nat} {Ls : Array Slot} {z : Int32} {rest : List Value} (hret : meth.sig.returnType = some .int) (hd : decode c.code pc = .ok (.ireturn, 1)) {fs : List Frame}
    (hl : ∀ (f : JFrame) (acts : List Action), f.method = m → f.locked = none → f.entered = [] → (doReturn e (T.setTop f) acts (some (.int z))).1 = T.setFrames fs) : Steps p.tables e below (T.setTop (mkF m pc Ls (.int z :: rest))) (T.setFrames fs) := by
  have hm' : T.vm.method? m = some meth := X.method'
  have hn : narrow .int (.int z) = .int z := rfl
  show Steps p.tables e below (T.setTop { method := m, pc := pc, locals := Ls, stack := _ :: rest, locked := none }) _
  jvm_step X.here [X.here.top, hx, hd, hm', hret, hn]
  first | (intro acts; rw [hl _ acts rfl rfl rfl]) | rw [hl _ _ rfl rfl rfl]
  exact Steps.refl _
end New
end Jvm.RoadKit
namespace Jvm.Pilot.@@N@@
open Jvm Jvm.ClassFile Sem Op Lib Jvm.Free Jvm.Stand Jvm.LawKit Jvm.RoadKit Bundle Jvm.Pilot.@@N@@.Jvm.D
theorem own_le {a b : Nat} (h : a = b) : 2 * 0 + a ≤ b := by omega
theorem own_m (i : Nat) {d : Jvm.Cond} (h : tables_1[i]? = some d) : d ∈ tables_1 := List.mem_of_getElem? h
/-- from the state T at the frame g the method comes to its return, with Q of what it returns -/
def own_Goes (tb : Tables) (e : Env) (below : List Frame) (s : State) (Q : Option Value → Heap → List Loc → Prop) (rc rs : Nat) (T : State) (g : JFrame) : Prop :=
  ∃ s₂ o, Steps tb e below (T.setTop g) s₂ ∧ s₂.status = .running ∧ Ended s₂ below o ∧ ∃ v L, o = .returned v ∧ Q v s₂.heap L ∧ FrameEnd s o s₂ L rc rs
theorem own_by {tb : Tables} {e : Env} {below : List Frame} {s : State} {Q : Option Value → Heap → List Loc → Prop} {rc rs : Nat} {T T' : State} {g g' : JFrame} (h : ∀ t, Steps tb e below (T'.setTop g') t → Steps tb e below (T.setTop g) t) (k : own_Goes tb e below s Q rc rs T' g') : own_Goes tb e below s Q rc rs T g := by
  obtain ⟨s₂, o, h1, h2⟩ := k
  exact ⟨s₂, o, h _ h1, h2⟩
section OwnRet
variable {p : Program} {l : Launch} {e : Env} {R : Room} {s : State} {m : MethodId} {args : Array Value} {below : List Frame} {meth : Method} {c : Code} {T : State} {locs : List Loc} {cells slots : Nat} {Q : Option Value → Heap → List Loc → Prop} {rc rs : Nat} {pc : Nat} {Ls : Array Slot} {rest : List Value}
theorem own_retI (X : Stand p l e R s m args below meth c T locs cells slots) (hx : p.tables.exec = Jvm.exec) {z : Int32} (hlk : meth.locks = false) (hret : meth.sig.returnType = some .int) (hd : decode c.code pc = .ok (.ireturn, 1)) (hc : cells ≤ rc) (hs : slots ≤ rs)
    (hQ : Q (some (.int z)) T.heap locs) : own_Goes p.tables e below s Q rc rs T (mkF m pc Ls (.int z :: rest)) := by
  obtain ⟨fs, hr, hrun, hended, hW, hsame⟩ := X.leave (v := some (.int z)) (fun h => by rw [hret] at h; cases h)
  exact ⟨_, _, retI X hx hret hd hr, hrun, hended, _, _, rfl, hQ, ⟨_, rfl⟩, hW, hsame.mono hc hs⟩
theorem own_retN (X : Stand p l e R s m args below meth c T locs cells slots) (hx : p.tables.exec = Jvm.exec) {z : Int32} {t : FieldType} (hlk : meth.locks = false) (hret : meth.sig.returnType = some t) (ht : t = .boolean ∨ t = .byte ∨ t = .char ∨ t = .short) (hd : decode c.code pc = .ok (.ireturn, 1)) (hc : cells ≤ rc) (hs : slots ≤ rs)
    (hQ : Q (some (.int (nar t z))) T.heap locs) : own_Goes p.tables e below s Q rc rs T (mkF m pc Ls (.int z :: rest)) := by
  obtain ⟨fs, hr, hrun, hended, hW, hsame⟩ := X.leave (v := some (.int (nar t z))) (fun h => by rw [hret] at h; cases h)
  exact ⟨_, _, retN X hx hret ht hd hr, hrun, hended, _, _, rfl, hQ, ⟨_, rfl⟩, hW, hsame.mono hc hs⟩
theorem own_retV (X : Stand p l e R s m args below meth c T locs cells slots) (hx : p.tables.exec = Jvm.exec) (hlk : meth.locks = false) (hret : meth.sig.returnType = none) (hd : decode c.code pc = .ok (.return_, 1)) (hc : cells ≤ rc) (hs : slots ≤ rs)
    (hQ : Q none T.heap locs) : own_Goes p.tables e below s Q rc rs T (mkF m pc Ls []) := by
  obtain ⟨fs, hr, hrun, hended, hW, hsame⟩ := X.leave (v := none) (fun _ => rfl)
  exact ⟨_, _, X.returnOut hx hret hd hr, hrun, hended, _, _, rfl, hQ, ⟨_, rfl⟩, hW, hsame.mono hc hs⟩
theorem own_retJ (X : Stand p l e R s m args below meth c T locs cells slots) (hx : p.tables.exec = Jvm.exec) {z : Int64} (hlk : meth.locks = false) (hret : meth.sig.returnType = some .long) (hd : decode c.code pc = .ok (.lreturn, 1)) (hc : cells ≤ rc) (hs : slots ≤ rs)
    (hQ : Q (some (.long z)) T.heap locs) : own_Goes p.tables e below s Q rc rs T (mkF m pc Ls (.long z :: rest)) := by
  obtain ⟨fs, hr, hrun, hended, hW, hsame⟩ := X.leave (v := some (.long z)) (fun h => by rw [hret] at h; cases h)
  exact ⟨_, _, retOut X hx hret rfl (Or.inr (Or.inl ⟨rfl, rfl, _, rfl⟩)) hd hr, hrun, hended, _, _, rfl, hQ, ⟨_, rfl⟩, hW, hsame.mono hc hs⟩
theorem own_retA (X : Stand p l e R s m args below meth c T locs cells slots) (hx : p.tables.exec = Jvm.exec) {w : Value} {t : FieldType} (hlk : meth.locks = false) (hret : meth.sig.returnType = some t) (ht : t.isReference = true) (hw : w.isRef = true) (hn : narrow t w = w) (hd : decode c.code pc = .ok (.areturn, 1)) (hc : cells ≤ rc) (hs : slots ≤ rs)
    (hQ : Q (some w) T.heap locs) : own_Goes p.tables e below s Q rc rs T (mkF m pc Ls (w :: rest)) := by
  obtain ⟨fs, hr, hrun, hended, hW, hsame⟩ := X.leave (v := some w) (fun h => by rw [hret] at h; cases h)
  exact ⟨_, _, retOut X hx hret hn (Or.inr (Or.inr (Or.inr (Or.inr ⟨rfl, ht, hw⟩)))) hd hr, hrun, hended, _, _, rfl, hQ, ⟨_, rfl⟩, hW, hsame.mono hc hs⟩
end OwnRet
theorem own_nsE {Z : State} {h : Heap} {a : Addr} {C : String} (E : Exa Z h a C) : ∃ c : Cell, h[a]? = some c ∧ c.vm.isStatics = false := by
  obtain ⟨c, k, h1, -, -, h4, -⟩ := E
  exact ⟨c, h1, h4⟩
theorem own_nsV {Z : State} {h : Heap} {a : Addr} {k : ClassId} {ty : FieldType} {n : Int32} {vs : List Value} {d : Value} (F : Arv Z h a k ty n vs d) : ∃ c : Cell, h[a]? = some c ∧ c.vm.isStatics = false := by
  obtain ⟨c, A, -⟩ := F
  exact ⟨c, A.1, A.plain⟩
theorem own_staKeep {Z : State} {h h' : Heap} {C n d : String} {v : Value} {ws : List Addr} (S : Sta Z h C n d v) (K : Keep h h' ws) (q : ∀ x ∈ ws, ∃ c : Cell, h[x]? = some c ∧ c.vm.isStatics = false) : Sta Z h' C n d v := by
  obtain ⟨cf, i, k, f, st, cell, h1, h2, h3, h4, h5, h6, h7⟩ := S
  refine ⟨cf, i, k, f, st, cell, h1, h2, h3, h4, K.2.1 st cell h5 (fun hin => ?_), h6, h7⟩
  obtain ⟨c, hc, hs⟩ := q st hin
  rw [h5] at hc
  cases hc
  rw [h6] at hs
  cases hs
theorem own_arrKeep {Z : State} {h h' : Heap} {a : Addr} {c : Cell} {ty : FieldType} {ws : List Addr} (A : Arr Z h a c ty) (K : Keep h h' ws) (q : a ∉ ws) : Arr Z h' a c ty := ⟨K.2.1 a c A.1 q, A.2⟩
theorem own_eq_int {args : Array Value} {s : State} {t : Term} {k : Int32} (h : (Jvm.Cond.eq t (.int k)).value args s none s [] = some true) : t.eval args s none [] s = some (.int k) := by
  obtain ⟨x, y, h1, h2, k1, k2⟩ := cmp_v (Or.inl h)
  cases h2
  obtain ⟨z, rfl⟩ := k2
  have : z = k := by simpa [Jvm.Cond.value, h1, Term.eval] using h
  rw [h1, this]
theorem own_eq_ref {args : Array Value} {s : State} {t u : Term} {b : Addr} (h : (Jvm.Cond.eq t u).value args s none s [] = some true) (hu : u.eval args s none [] s = some (.ref b)) : t.eval args s none [] s = some (.ref b) := by
  obtain ⟨x, y, h1, h2, k1, k2⟩ := cmp_v (Or.inl h)
  cases hu.symm.trans h2
  have hr : x.isRef = true := k2.2
  rcases ref_cases hr with rfl | ⟨z, rfl⟩
  · simp [Jvm.Cond.value, h1, h2] at h
  · have : z = b := by simpa [Jvm.Cond.value, h1, h2] using h
    rw [h1, this]

def own_pick (k : Int32) (r0 r1 r2 r3 r4 r5 r6 r7 r8 : Addr) : Addr := if k = 0 then r0 else if k = 1 then r1 else if k = 2 then r2 else if k = 3 then r3 else if k = 4 then r4 else if k = 5 then r5 else if k = 6 then r6 else if k = 7 then r7 else r8
theorem own_rem9 (x : Int32) : (x &&& (2147483647 : Int32)) % (9 : Int32) = 0 ∨ (x &&& (2147483647 : Int32)) % (9 : Int32) = 1 ∨ (x &&& (2147483647 : Int32)) % (9 : Int32) = 2 ∨ (x &&& (2147483647 : Int32)) % (9 : Int32) = 3 ∨ (x &&& (2147483647 : Int32)) % (9 : Int32) = 4 ∨ (x &&& (2147483647 : Int32)) % (9 : Int32) = 5 ∨ (x &&& (2147483647 : Int32)) % (9 : Int32) = 6 ∨ (x &&& (2147483647 : Int32)) % (9 : Int32) = 7 ∨ (x &&& (2147483647 : Int32)) % (9 : Int32) = 8 := by
  have h1 := c_mask x 2147483647 31 (by decide) (by decide)
  have h2 := (c_irem (x &&& (2147483647 : Int32)) 9 9 (by decide)).1 (by omega)
  generalize (x &&& (2147483647 : Int32)) % (9 : Int32) = k at *
  have h3 : k.toInt = 0 ∨ k.toInt = 1 ∨ k.toInt = 2 ∨ k.toInt = 3 ∨ k.toInt = 4 ∨ k.toInt = 5 ∨ k.toInt = 6 ∨ k.toInt = 7 ∨ k.toInt = 8 := by omega
  rcases h3 with h | h | h | h | h | h | h | h | h
  · have h4 : k = 0 := Int32.toInt_inj.mp h
    simp [h4]
  · have h4 : k = 1 := Int32.toInt_inj.mp h
    simp [h4]
  · have h4 : k = 2 := Int32.toInt_inj.mp h
    simp [h4]
  · have h4 : k = 3 := Int32.toInt_inj.mp h
    simp [h4]
  · have h4 : k = 4 := Int32.toInt_inj.mp h
    simp [h4]
  · have h4 : k = 5 := Int32.toInt_inj.mp h
    simp [h4]
  · have h4 : k = 6 := Int32.toInt_inj.mp h
    simp [h4]
  · have h4 : k = 7 := Int32.toInt_inj.mp h
    simp [h4]
  · have h4 : k = 8 := Int32.toInt_inj.mp h
    simp [h4]
theorem pn_com_example_hermit_crab_hermitcrab_engine_RowLockingKeepsLocksPinLaw : plainName "com/example/hermit_crab/hermitcrab/engine/RowLockingKeepsLocksPinLaw" = true := by first | (simp [plainName, overriddenIn]; done) | decide +kernel
theorem ef_1 (m : MethodId) (kk : Int32) : entryFrame m #[(.int kk)] 1 = mkF m 0 #[.val (.int kk)] [] := by first | (simp [entryFrame, mkF, argsToLocals, Value.category]; done) | rfl
theorem d1_0 : decode method_2_code 0 = .ok (.iload_n 0, 1) := by decide +kernel
theorem d1_1 : decode method_2_code 1 = .ok (.ifCond .ne 7, 3) := by decide +kernel
theorem d1_4 : decode method_2_code 4 = .ok (.getstatic 7, 3) := by decide +kernel
theorem d1_7 : decode method_2_code 7 = .ok (.areturn, 1) := by decide +kernel
theorem d1_8 : decode method_2_code 8 = .ok (.iload_n 0, 1) := by decide +kernel
theorem d1_9 : decode method_2_code 9 = .ok (.iconst 1, 1) := by decide +kernel
theorem d1_10 : decode method_2_code 10 = .ok (.if_icmp .ne 7, 3) := by decide +kernel
theorem d1_13 : decode method_2_code 13 = .ok (.getstatic 13, 3) := by decide +kernel
theorem d1_16 : decode method_2_code 16 = .ok (.areturn, 1) := by decide +kernel
theorem d1_17 : decode method_2_code 17 = .ok (.iload_n 0, 1) := by decide +kernel
theorem d1_18 : decode method_2_code 18 = .ok (.iconst 2, 1) := by decide +kernel
theorem d1_19 : decode method_2_code 19 = .ok (.if_icmp .ne 7, 3) := by decide +kernel
theorem d1_22 : decode method_2_code 22 = .ok (.getstatic 16, 3) := by decide +kernel
theorem d1_25 : decode method_2_code 25 = .ok (.areturn, 1) := by decide +kernel
theorem d1_26 : decode method_2_code 26 = .ok (.iload_n 0, 1) := by decide +kernel
theorem d1_27 : decode method_2_code 27 = .ok (.iconst 3, 1) := by decide +kernel
theorem d1_28 : decode method_2_code 28 = .ok (.if_icmp .ne 7, 3) := by decide +kernel
theorem d1_31 : decode method_2_code 31 = .ok (.getstatic 19, 3) := by decide +kernel
theorem d1_34 : decode method_2_code 34 = .ok (.areturn, 1) := by decide +kernel
theorem d1_35 : decode method_2_code 35 = .ok (.iload_n 0, 1) := by decide +kernel
theorem d1_36 : decode method_2_code 36 = .ok (.iconst 4, 1) := by decide +kernel
theorem d1_37 : decode method_2_code 37 = .ok (.if_icmp .ne 7, 3) := by decide +kernel
theorem d1_40 : decode method_2_code 40 = .ok (.getstatic 22, 3) := by decide +kernel
theorem d1_43 : decode method_2_code 43 = .ok (.areturn, 1) := by decide +kernel
theorem d1_44 : decode method_2_code 44 = .ok (.iload_n 0, 1) := by decide +kernel
theorem d1_45 : decode method_2_code 45 = .ok (.iconst 5, 1) := by decide +kernel
theorem d1_46 : decode method_2_code 46 = .ok (.if_icmp .ne 7, 3) := by decide +kernel
theorem d1_49 : decode method_2_code 49 = .ok (.getstatic 25, 3) := by decide +kernel
theorem d1_52 : decode method_2_code 52 = .ok (.areturn, 1) := by decide +kernel
theorem d1_53 : decode method_2_code 53 = .ok (.iload_n 0, 1) := by decide +kernel
theorem d1_54 : decode method_2_code 54 = .ok (.bipush 6, 2) := by decide +kernel
theorem d1_56 : decode method_2_code 56 = .ok (.if_icmp .ne 7, 3) := by decide +kernel
theorem d1_59 : decode method_2_code 59 = .ok (.getstatic 28, 3) := by decide +kernel
theorem d1_62 : decode method_2_code 62 = .ok (.areturn, 1) := by decide +kernel
theorem d1_63 : decode method_2_code 63 = .ok (.iload_n 0, 1) := by decide +kernel
theorem d1_64 : decode method_2_code 64 = .ok (.bipush 7, 2) := by decide +kernel
theorem d1_66 : decode method_2_code 66 = .ok (.if_icmp .ne 7, 3) := by decide +kernel
theorem d1_69 : decode method_2_code 69 = .ok (.getstatic 31, 3) := by decide +kernel
theorem d1_72 : decode method_2_code 72 = .ok (.areturn, 1) := by decide +kernel
theorem d1_73 : decode method_2_code 73 = .ok (.getstatic 34, 3) := by decide +kernel
theorem d1_76 : decode method_2_code 76 = .ok (.areturn, 1) := by decide +kernel
def Q1 (Z : State) (kk : Int32) (r0 : Addr) (r1 : Addr) (r2 : Addr) (r3 : Addr) (r4 : Addr) (r5 : Addr) (r6 : Addr) (r7 : Addr) (r8 : Addr) (h0 : Heap) (n0 : Nat) (v : Option Value) (h : Heap) (L : List Loc) : Prop := v = some (.ref (own_pick kk r0 r1 r2 r3 r4 r5 r6 r7 r8)) ∧ Fr n0 L ∧ h = h0
set_option maxRecDepth 65536 in
set_option maxHeartbeats 40000000 in
theorem rm1 (l : Launch) (Z : State) (a0 : Array Value) (hw : ∀ d ∈ tables_1, d.before a0 Z = true) (ws : List Jvm.Cond) (kk : Int32) (r0 : Addr) (r1 : Addr) (r2 : Addr) (r3 : Addr) (r4 : Addr) (r5 : Addr) (r6 : Addr) (r7 : Addr) (r8 : Addr) (h0 : Heap) (n0 : Nat) (Zle : n0 ≤ h0.size) (S_NONE : Sta Z h0 "com/example/hermit_crab/hermitcrab/engine/RowLocking" "NONE" "Lcom/example/hermit_crab/hermitcrab/engine/RowLocking;" (.ref r0)) (S_COMMITTED_VERSION : Sta Z h0 "com/example/hermit_crab/hermitcrab/engine/RowLocking" "COMMITTED_VERSION" "Lcom/example/hermit_crab/hermitcrab/engine/RowLocking;" (.ref r1)) (S_SNAPSHOT_VERSION : Sta Z h0 "com/example/hermit_crab/hermitcrab/engine/RowLocking" "SNAPSHOT_VERSION" "Lcom/example/hermit_crab/hermitcrab/engine/RowLocking;" (.ref r2)) (S_SHARED_WHILE_EXAMINED : Sta Z h0 "com/example/hermit_crab/hermitcrab/engine/RowLocking" "SHARED_WHILE_EXAMINED" "Lcom/example/hermit_crab/hermitcrab/engine/RowLocking;" (.ref r3)) (S_SHARED_ON_MATCHED : Sta Z h0 "com/example/hermit_crab/hermitcrab/engine/RowLocking" "SHARED_ON_MATCHED" "Lcom/example/hermit_crab/hermitcrab/engine/RowLocking;" (.ref r4)) (S_SHARED_WITH_KEY_RANGES : Sta Z h0 "com/example/hermit_crab/hermitcrab/engine/RowLocking" "SHARED_WITH_KEY_RANGES" "Lcom/example/hermit_crab/hermitcrab/engine/RowLocking;" (.ref r5)) (S_EXCLUSIVE_ON_MATCHED : Sta Z h0 "com/example/hermit_crab/hermitcrab/engine/RowLocking" "EXCLUSIVE_ON_MATCHED" "Lcom/example/hermit_crab/hermitcrab/engine/RowLocking;" (.ref r6)) (S_EXCLUSIVE_ON_SNAPSHOT_MATCH : Sta Z h0 "com/example/hermit_crab/hermitcrab/engine/RowLocking" "EXCLUSIVE_ON_SNAPSHOT_MATCH" "Lcom/example/hermit_crab/hermitcrab/engine/RowLocking;" (.ref r7)) (S_EXCLUSIVE_WITH_KEY_RANGES : Sta Z h0 "com/example/hermit_crab/hermitcrab/engine/RowLocking" "EXCLUSIVE_WITH_KEY_RANGES" "Lcom/example/hermit_crab/hermitcrab/engine/RowLocking;" (.ref r8)) :
    MetFree l (⟨"com/example/hermit_crab/hermitcrab/engine/RowLockingKeepsLocksPinLaw", "pick", "(I)Lcom/example/hermit_crab/hermitcrab/engine/RowLocking;"⟩ : MethodName) (head1 (Jvm.Cond.code (⟨"com/example/hermit_crab/hermitcrab/engine/RowLockingKeepsLocksPinLaw", "pick", "(I)Lcom/example/hermit_crab/hermitcrab/engine/RowLocking;"⟩ : MethodName) method_2_code 1 (some (.object "com/example/hermit_crab/hermitcrab/engine/RowLocking")) :: ws) ({ frames := 0, cells := 0, slots := 0, locals := 0 } : Room)) (fun a U => a = #[(.int kk)] ∧ Z.Warmed39 U.vm ∧ U.heap = h0) (fun _ _ _ _ _ => True) (fun _ U o U' => ∃ v L, o = .returned v ∧ Q1 Z kk r0 r1 r2 r3 r4 r5 r6 r7 r8 h0 n0 v U'.heap L ∧ FrameEnd U o U' L ({ frames := 0, cells := 0, slots := 0, locals := 0 } : Room).cells ({ frames := 0, cells := 0, slots := 0, locals := 0 } : Room).slots) := by
  refine MetFree.of_bodySF (plainFor_of_name pn_com_example_hermit_crab_hermitcrab_engine_RowLockingKeepsLocksPinLaw) hisR ?_
  intro p e s m args below meth c s₁ Bd hml0 hP hK
  obtain ⟨rfl, hZ, hh⟩ := hP
  have hx := Bd.exec
  have hby := Bd.bytes
  have hml : c.maxLocals = 1 := hml0
  have hown : s.vm.findClass "com/example/hermit_crab/hermitcrab/engine/RowLockingKeepsLocksPinLaw" = some m.cls := findClass_of_methodNamed Bd.named
  have hnm := (name_of_methodNamed Bd.named Bd.method).1
  have X0 : Stand p l e ({ frames := 0, cells := 0, slots := 0, locals := 0 } : Room) s m #[(.int kk)] below meth c s₁ [] 0 0 := Stand.of_body Bd
  have e0 : s₁.heap = h0 := by rw [← hh, Bd.state]; rfl
  have N_ := Fr.nil n0
  show own_Goes p.tables e below s (Q1 Z kk r0 r1 r2 r3 r4 r5 r6 r7 r8 h0 n0) ({ frames := 0, cells := 0, slots := 0, locals := 0 } : Room).cells ({ frames := 0, cells := 0, slots := 0, locals := 0 } : Room).slots s₁ (entryFrame m #[(.int kk)] 1)
  refine own_by (T' := s₁) (g' := (mkF m 0 #[.val (.int kk)] [])) (fun t k => castTop (ef_1 m kk) k) ?_
  refine own_by (T' := s₁) (g' := (mkF m 1 #[.val (.int kk)] [(.int kk)])) (fun t k => XS.iloadN X0.here hx rfl (hb hby d1_0) rfl k) ?_
  by_cases hc1_1 : kk = (0 : Int32)
  · refine own_by (T' := s₁) (g' := (mkF m 4 #[.val (.int kk)] [])) (fun t k => XS.ifNo X0.here hx rfl (hb hby d1_1) rfl ((if0 _ _).trans (teq hc1_1).2) k) ?_
    obtain ⟨T2, X2, e2, st2⟩ := getS2 X0 hx hZ hown (host := "") (Or.inl (hw _ (own_m 5 rfl))) Via.refl e0 S_NONE (g := (mkF m 4 #[.val (.int kk)] [])) rfl (hb hby d1_4)
    refine own_by (T' := T2) (g' := (mkF m 7 #[.val (.int kk)] [(.ref r0)])) (fun t k => st2 t k) ?_
    exact own_retA X2 hx (t := (.object "com/example/hermit_crab/hermitcrab/engine/RowLocking")) Bd.notSynchronized Bd.returns rfl rfl rfl (hb hby d1_7) (by decide) (by decide) (by rw [e2]; exact ⟨by simp [own_pick, hc1_1], N_, rfl⟩)
  · refine own_by (T' := s₁) (g' := (mkF m 8 #[.val (.int kk)] [])) (fun t k => XS.ifYes X0.here hx rfl (pc0 := 1) (pc' := 8) rfl (hb hby d1_1) rfl ((if0 _ _).trans (feq hc1_1).2) (by decide) (by decide) k) ?_
    refine own_by (T' := s₁) (g' := (mkF m 9 #[.val (.int kk)] [(.int kk)])) (fun t k => XS.iloadN X0.here hx rfl (hb hby d1_8) rfl k) ?_
    refine own_by (T' := s₁) (g' := (mkF m 10 #[.val (.int kk)] [(.int 1), (.int kk)])) (fun t k => XS.iconst X0.here hx rfl (hb hby d1_9) k) ?_
    by_cases hc10_3 : kk = (1 : Int32)
    · refine own_by (T' := s₁) (g' := (mkF m 13 #[.val (.int kk)] [])) (fun t k => XS.icmpNo X0.here hx rfl (hb hby d1_10) rfl (teq hc10_3).2 k) ?_
      obtain ⟨T4, X4, e4, st4⟩ := getS2 X0 hx hZ hown (host := "") (Or.inl (hw _ (own_m 31 rfl))) Via.refl e0 S_COMMITTED_VERSION (g := (mkF m 13 #[.val (.int kk)] [])) rfl (hb hby d1_13)
      refine own_by (T' := T4) (g' := (mkF m 16 #[.val (.int kk)] [(.ref r1)])) (fun t k => st4 t k) ?_
      exact own_retA X4 hx (t := (.object "com/example/hermit_crab/hermitcrab/engine/RowLocking")) Bd.notSynchronized Bd.returns rfl rfl rfl (hb hby d1_16) (by decide) (by decide) (by rw [e4]; exact ⟨by simp [own_pick, hc1_1, hc10_3], N_, rfl⟩)
    · refine own_by (T' := s₁) (g' := (mkF m 17 #[.val (.int kk)] [])) (fun t k => XS.icmpYes X0.here hx rfl (pc0 := 10) (pc' := 17) rfl (hb hby d1_10) rfl (feq hc10_3).2 (by decide) (by decide) k) ?_
      refine own_by (T' := s₁) (g' := (mkF m 18 #[.val (.int kk)] [(.int kk)])) (fun t k => XS.iloadN X0.here hx rfl (hb hby d1_17) rfl k) ?_
      refine own_by (T' := s₁) (g' := (mkF m 19 #[.val (.int kk)] [(.int 2), (.int kk)])) (fun t k => XS.iconst X0.here hx rfl (hb hby d1_18) k) ?_
      by_cases hc19_5 : kk = (2 : Int32)
      · refine own_by (T' := s₁) (g' := (mkF m 22 #[.val (.int kk)] [])) (fun t k => XS.icmpNo X0.here hx rfl (hb hby d1_19) rfl (teq hc19_5).2 k) ?_
        obtain ⟨T6, X6, e6, st6⟩ := getS2 X0 hx hZ hown (host := "") (Or.inl (hw _ (own_m 29 rfl))) Via.refl e0 S_SNAPSHOT_VERSION (g := (mkF m 22 #[.val (.int kk)] [])) rfl (hb hby d1_22)
        refine own_by (T' := T6) (g' := (mkF m 25 #[.val (.int kk)] [(.ref r2)])) (fun t k => st6 t k) ?_
        exact own_retA X6 hx (t := (.object "com/example/hermit_crab/hermitcrab/engine/RowLocking")) Bd.notSynchronized Bd.returns rfl rfl rfl (hb hby d1_25) (by decide) (by decide) (by rw [e6]; exact ⟨by simp [own_pick, hc1_1, hc10_3, hc19_5], N_, rfl⟩)
      · refine own_by (T' := s₁) (g' := (mkF m 26 #[.val (.int kk)] [])) (fun t k => XS.icmpYes X0.here hx rfl (pc0 := 19) (pc' := 26) rfl (hb hby d1_19) rfl (feq hc19_5).2 (by decide) (by decide) k) ?_
        refine own_by (T' := s₁) (g' := (mkF m 27 #[.val (.int kk)] [(.int kk)])) (fun t k => XS.iloadN X0.here hx rfl (hb hby d1_26) rfl k) ?_
        refine own_by (T' := s₁) (g' := (mkF m 28 #[.val (.int kk)] [(.int 3), (.int kk)])) (fun t k => XS.iconst X0.here hx rfl (hb hby d1_27) k) ?_
        by_cases hc28_7 : kk = (3 : Int32)
        · refine own_by (T' := s₁) (g' := (mkF m 31 #[.val (.int kk)] [])) (fun t k => XS.icmpNo X0.here hx rfl (hb hby d1_28) rfl (teq hc28_7).2 k) ?_
          obtain ⟨T8, X8, e8, st8⟩ := getS2 X0 hx hZ hown (host := "") (Or.inl (hw _ (own_m 27 rfl))) Via.refl e0 S_SHARED_WHILE_EXAMINED (g := (mkF m 31 #[.val (.int kk)] [])) rfl (hb hby d1_31)
          refine own_by (T' := T8) (g' := (mkF m 34 #[.val (.int kk)] [(.ref r3)])) (fun t k => st8 t k) ?_
          exact own_retA X8 hx (t := (.object "com/example/hermit_crab/hermitcrab/engine/RowLocking")) Bd.notSynchronized Bd.returns rfl rfl rfl (hb hby d1_34) (by decide) (by decide) (by rw [e8]; exact ⟨by simp [own_pick, hc1_1, hc10_3, hc19_5, hc28_7], N_, rfl⟩)
        · refine own_by (T' := s₁) (g' := (mkF m 35 #[.val (.int kk)] [])) (fun t k => XS.icmpYes X0.here hx rfl (pc0 := 28) (pc' := 35) rfl (hb hby d1_28) rfl (feq hc28_7).2 (by decide) (by decide) k) ?_
          refine own_by (T' := s₁) (g' := (mkF m 36 #[.val (.int kk)] [(.int kk)])) (fun t k => XS.iloadN X0.here hx rfl (hb hby d1_35) rfl k) ?_
          refine own_by (T' := s₁) (g' := (mkF m 37 #[.val (.int kk)] [(.int 4), (.int kk)])) (fun t k => XS.iconst X0.here hx rfl (hb hby d1_36) k) ?_
          by_cases hc37_9 : kk = (4 : Int32)
          · refine own_by (T' := s₁) (g' := (mkF m 40 #[.val (.int kk)] [])) (fun t k => XS.icmpNo X0.here hx rfl (hb hby d1_37) rfl (teq hc37_9).2 k) ?_
            obtain ⟨T10, X10, e10, st10⟩ := getS2 X0 hx hZ hown (host := "") (Or.inl (hw _ (own_m 37 rfl))) Via.refl e0 S_SHARED_ON_MATCHED (g := (mkF m 40 #[.val (.int kk)] [])) rfl (hb hby d1_40)
            refine own_by (T' := T10) (g' := (mkF m 43 #[.val (.int kk)] [(.ref r4)])) (fun t k => st10 t k) ?_
            exact own_retA X10 hx (t := (.object "com/example/hermit_crab/hermitcrab/engine/RowLocking")) Bd.notSynchronized Bd.returns rfl rfl rfl (hb hby d1_43) (by decide) (by decide) (by rw [e10]; exact ⟨by simp [own_pick, hc1_1, hc10_3, hc19_5, hc28_7, hc37_9], N_, rfl⟩)
          · refine own_by (T' := s₁) (g' := (mkF m 44 #[.val (.int kk)] [])) (fun t k => XS.icmpYes X0.here hx rfl (pc0 := 37) (pc' := 44) rfl (hb hby d1_37) rfl (feq hc37_9).2 (by decide) (by decide) k) ?_
            refine own_by (T' := s₁) (g' := (mkF m 45 #[.val (.int kk)] [(.int kk)])) (fun t k => XS.iloadN X0.here hx rfl (hb hby d1_44) rfl k) ?_
            refine own_by (T' := s₁) (g' := (mkF m 46 #[.val (.int kk)] [(.int 5), (.int kk)])) (fun t k => XS.iconst X0.here hx rfl (hb hby d1_45) k) ?_
            by_cases hc46_11 : kk = (5 : Int32)
            · refine own_by (T' := s₁) (g' := (mkF m 49 #[.val (.int kk)] [])) (fun t k => XS.icmpNo X0.here hx rfl (hb hby d1_46) rfl (teq hc46_11).2 k) ?_
              obtain ⟨T12, X12, e12, st12⟩ := getS2 X0 hx hZ hown (host := "") (Or.inl (hw _ (own_m 44 rfl))) Via.refl e0 S_SHARED_WITH_KEY_RANGES (g := (mkF m 49 #[.val (.int kk)] [])) rfl (hb hby d1_49)
              refine own_by (T' := T12) (g' := (mkF m 52 #[.val (.int kk)] [(.ref r5)])) (fun t k => st12 t k) ?_
              exact own_retA X12 hx (t := (.object "com/example/hermit_crab/hermitcrab/engine/RowLocking")) Bd.notSynchronized Bd.returns rfl rfl rfl (hb hby d1_52) (by decide) (by decide) (by rw [e12]; exact ⟨by simp [own_pick, hc1_1, hc10_3, hc19_5, hc28_7, hc37_9, hc46_11], N_, rfl⟩)
            · refine own_by (T' := s₁) (g' := (mkF m 53 #[.val (.int kk)] [])) (fun t k => XS.icmpYes X0.here hx rfl (pc0 := 46) (pc' := 53) rfl (hb hby d1_46) rfl (feq hc46_11).2 (by decide) (by decide) k) ?_
              refine own_by (T' := s₁) (g' := (mkF m 54 #[.val (.int kk)] [(.int kk)])) (fun t k => XS.iloadN X0.here hx rfl (hb hby d1_53) rfl k) ?_
              refine own_by (T' := s₁) (g' := (mkF m 56 #[.val (.int kk)] [(.int 6), (.int kk)])) (fun t k => XS.bipush X0.here hx rfl (hb hby d1_54) k) ?_
              by_cases hc56_13 : kk = (6 : Int32)
              · refine own_by (T' := s₁) (g' := (mkF m 59 #[.val (.int kk)] [])) (fun t k => XS.icmpNo X0.here hx rfl (hb hby d1_56) rfl (teq hc56_13).2 k) ?_
                obtain ⟨T14, X14, e14, st14⟩ := getS2 X0 hx hZ hown (host := "") (Or.inl (hw _ (own_m 42 rfl))) Via.refl e0 S_EXCLUSIVE_ON_MATCHED (g := (mkF m 59 #[.val (.int kk)] [])) rfl (hb hby d1_59)
                refine own_by (T' := T14) (g' := (mkF m 62 #[.val (.int kk)] [(.ref r6)])) (fun t k => st14 t k) ?_
                exact own_retA X14 hx (t := (.object "com/example/hermit_crab/hermitcrab/engine/RowLocking")) Bd.notSynchronized Bd.returns rfl rfl rfl (hb hby d1_62) (by decide) (by decide) (by rw [e14]; exact ⟨by simp [own_pick, hc1_1, hc10_3, hc19_5, hc28_7, hc37_9, hc46_11, hc56_13], N_, rfl⟩)
              · refine own_by (T' := s₁) (g' := (mkF m 63 #[.val (.int kk)] [])) (fun t k => XS.icmpYes X0.here hx rfl (pc0 := 56) (pc' := 63) rfl (hb hby d1_56) rfl (feq hc56_13).2 (by decide) (by decide) k) ?_
                refine own_by (T' := s₁) (g' := (mkF m 64 #[.val (.int kk)] [(.int kk)])) (fun t k => XS.iloadN X0.here hx rfl (hb hby d1_63) rfl k) ?_
                refine own_by (T' := s₁) (g' := (mkF m 66 #[.val (.int kk)] [(.int 7), (.int kk)])) (fun t k => XS.bipush X0.here hx rfl (hb hby d1_64) k) ?_
                by_cases hc66_15 : kk = (7 : Int32)
                · refine own_by (T' := s₁) (g' := (mkF m 69 #[.val (.int kk)] [])) (fun t k => XS.icmpNo X0.here hx rfl (hb hby d1_66) rfl (teq hc66_15).2 k) ?_
                  obtain ⟨T16, X16, e16, st16⟩ := getS2 X0 hx hZ hown (host := "") (Or.inl (hw _ (own_m 33 rfl))) Via.refl e0 S_EXCLUSIVE_ON_SNAPSHOT_MATCH (g := (mkF m 69 #[.val (.int kk)] [])) rfl (hb hby d1_69)
                  refine own_by (T' := T16) (g' := (mkF m 72 #[.val (.int kk)] [(.ref r7)])) (fun t k => st16 t k) ?_
                  exact own_retA X16 hx (t := (.object "com/example/hermit_crab/hermitcrab/engine/RowLocking")) Bd.notSynchronized Bd.returns rfl rfl rfl (hb hby d1_72) (by decide) (by decide) (by rw [e16]; exact ⟨by simp [own_pick, hc1_1, hc10_3, hc19_5, hc28_7, hc37_9, hc46_11, hc56_13, hc66_15], N_, rfl⟩)
                · refine own_by (T' := s₁) (g' := (mkF m 73 #[.val (.int kk)] [])) (fun t k => XS.icmpYes X0.here hx rfl (pc0 := 66) (pc' := 73) rfl (hb hby d1_66) rfl (feq hc66_15).2 (by decide) (by decide) k) ?_
                  obtain ⟨T17, X17, e17, st17⟩ := getS2 X0 hx hZ hown (host := "") (Or.inl (hw _ (own_m 40 rfl))) Via.refl e0 S_EXCLUSIVE_WITH_KEY_RANGES (g := (mkF m 73 #[.val (.int kk)] [])) rfl (hb hby d1_73)
                  refine own_by (T' := T17) (g' := (mkF m 76 #[.val (.int kk)] [(.ref r8)])) (fun t k => st17 t k) ?_
                  exact own_retA X17 hx (t := (.object "com/example/hermit_crab/hermitcrab/engine/RowLocking")) Bd.notSynchronized Bd.returns rfl rfl rfl (hb hby d1_76) (by decide) (by decide) (by rw [e17]; exact ⟨by simp [own_pick, hc1_1, hc10_3, hc19_5, hc28_7, hc37_9, hc46_11, hc56_13, hc66_15], N_, rfl⟩)

theorem pn_com_example_hermit_crab_hermitcrab_engine_RowLocking : plainName "com/example/hermit_crab/hermitcrab/engine/RowLocking" = true := by first | (simp [plainName, overriddenIn]; done) | decide +kernel
theorem ef_2n (m : MethodId) (ob : Addr) : entryFrame m #[(.ref ob)] 1 = mkF m 0 #[.val (.ref ob)] [] := by first | (simp [entryFrame, mkF, argsToLocals, Value.category]; done) | rfl
theorem d2_0 : decode prog_20_method_15_code 0 = .ok (.aload_n 0, 1) := by decide +kernel
theorem d2_1 : decode prog_20_method_15_code 1 = .ok (.getfield 54, 3) := by decide +kernel
theorem d2_4 : decode prog_20_method_15_code 4 = .ok (.ifnonnull 10, 3) := by decide +kernel
theorem d2_7 : decode prog_20_method_15_code 7 = .ok (.aload_n 0, 1) := by decide +kernel
theorem d2_8 : decode prog_20_method_15_code 8 = .ok (.getfield 57, 3) := by decide +kernel
theorem d2_11 : decode prog_20_method_15_code 11 = .ok (.ifnull 7, 3) := by decide +kernel
theorem d2_18 : decode prog_20_method_15_code 18 = .ok (.iconst 0, 1) := by decide +kernel
theorem d2_19 : decode prog_20_method_15_code 19 = .ok (.ireturn, 1) := by decide +kernel
def Q2n (Z : State) (ob : Addr) (h0 : Heap) (n0 : Nat) (v : Option Value) (h : Heap) (L : List Loc) : Prop := v = some (.int 0) ∧ Fr n0 L ∧ h = h0
set_option maxRecDepth 65536 in
set_option maxHeartbeats 40000000 in
theorem rm2n (l : Launch) (Z : State) (a0 : Array Value) (hw : ∀ d ∈ tables_1, d.before a0 Z = true) (ws : List Jvm.Cond) (ob : Addr) (h0 : Heap) (n0 : Nat) (Zle : n0 ≤ h0.size) (F_keptOnMatch_ob : Fld Z h0 ob "com/example/hermit_crab/hermitcrab/engine/RowLocking" "keptOnMatch" "Lcom/example/hermit_crab/hermitcrab/engine/LockMode;" .null) (F_keptOnMiss_ob : Fld Z h0 ob "com/example/hermit_crab/hermitcrab/engine/RowLocking" "keptOnMiss" "Lcom/example/hermit_crab/hermitcrab/engine/LockMode;" .null) :
    MetFree l (⟨"com/example/hermit_crab/hermitcrab/engine/RowLocking", "keepsLocks", "()Z"⟩ : MethodName) (head1 (Jvm.Cond.code (⟨"com/example/hermit_crab/hermitcrab/engine/RowLocking", "keepsLocks", "()Z"⟩ : MethodName) prog_20_method_15_code 1 (some .boolean) :: ws) ({ frames := 0, cells := 0, slots := 0, locals := 0 } : Room)) (fun a U => a = #[(.ref ob)] ∧ Z.Warmed39 U.vm ∧ U.heap = h0) (fun _ _ _ _ _ => True) (fun _ U o U' => ∃ v L, o = .returned v ∧ Q2n Z ob h0 n0 v U'.heap L ∧ FrameEnd U o U' L ({ frames := 0, cells := 0, slots := 0, locals := 0 } : Room).cells ({ frames := 0, cells := 0, slots := 0, locals := 0 } : Room).slots) := by
  refine MetFree.of_bodySF (plainFor_of_name pn_com_example_hermit_crab_hermitcrab_engine_RowLocking) hisR ?_
  intro p e s m args below meth c s₁ Bd hml0 hP hK
  obtain ⟨rfl, hZ, hh⟩ := hP
  have hx := Bd.exec
  have hby := Bd.bytes
  have hml : c.maxLocals = 1 := hml0
  have hown : s.vm.findClass "com/example/hermit_crab/hermitcrab/engine/RowLocking" = some m.cls := findClass_of_methodNamed Bd.named
  have hnm := (name_of_methodNamed Bd.named Bd.method).1
  have X0 : Stand p l e ({ frames := 0, cells := 0, slots := 0, locals := 0 } : Room) s m #[(.ref ob)] below meth c s₁ [] 0 0 := Stand.of_body Bd
  have e0 : s₁.heap = h0 := by rw [← hh, Bd.state]; rfl
  have N_ := Fr.nil n0
  show own_Goes p.tables e below s (Q2n Z ob h0 n0) ({ frames := 0, cells := 0, slots := 0, locals := 0 } : Room).cells ({ frames := 0, cells := 0, slots := 0, locals := 0 } : Room).slots s₁ (entryFrame m #[(.ref ob)] 1)
  refine own_by (T' := s₁) (g' := (mkF m 0 #[.val (.ref ob)] [])) (fun t k => castTop (ef_2n m ob) k) ?_
  refine own_by (T' := s₁) (g' := (mkF m 1 #[.val (.ref ob)] [(.ref ob)])) (fun t k => XS.aloadN X0.here hx rfl (hb hby d2_0) rfl rfl k) ?_
  obtain ⟨T1, X1, e1, st1⟩ := getF X0 hx hZ hown (host := "") (Or.inl (hw _ (own_m 13 rfl))) Via.refl e0 F_keptOnMatch_ob (g := (mkF m 1 #[.val (.ref ob)] [(.ref ob)])) rfl rfl (hb hby d2_1)
  refine own_by (T' := T1) (g' := (mkF m 4 #[.val (.ref ob)] [.null])) (fun t k => st1 t k) ?_
  refine own_by (T' := T1) (g' := (mkF m 7 #[.val (.ref ob)] [])) (fun t k => XS.ifnonnullNo X1.here hx rfl (hb hby d2_4) rfl k) ?_
  refine own_by (T' := T1) (g' := (mkF m 8 #[.val (.ref ob)] [(.ref ob)])) (fun t k => XS.aloadN X1.here hx rfl (hb hby d2_7) rfl rfl k) ?_
  obtain ⟨T2, X2, e2, st2⟩ := getF X1 hx hZ hown (host := "") (Or.inl (hw _ (own_m 15 rfl))) Via.refl e1 F_keptOnMiss_ob (g := (mkF m 8 #[.val (.ref ob)] [(.ref ob)])) rfl rfl (hb hby d2_8)
  refine own_by (T' := T2) (g' := (mkF m 11 #[.val (.ref ob)] [.null])) (fun t k => st2 t k) ?_
  refine own_by (T' := T2) (g' := (mkF m 18 #[.val (.ref ob)] [])) (fun t k => XS.ifnullYes X2.here hx rfl (pc0 := 11) (pc' := 18) rfl (hb hby d2_11) rfl (by decide) (by decide) k) ?_
  refine own_by (T' := T2) (g' := (mkF m 19 #[.val (.ref ob)] [(.int 0)])) (fun t k => XS.iconst X2.here hx rfl (hb hby d2_18) k) ?_
  exact own_retN X2 hx (t := .boolean) Bd.notSynchronized Bd.returns (by simp) (hb hby d2_19) (by decide) (by decide) (by rw [e2]; exact ⟨rfl, N_, rfl⟩)

theorem ef_2r (m : MethodId) (ob : Addr) : entryFrame m #[(.ref ob)] 1 = mkF m 0 #[.val (.ref ob)] [] := by first | (simp [entryFrame, mkF, argsToLocals, Value.category]; done) | rfl
theorem d2_14 : decode prog_20_method_15_code 14 = .ok (.iconst 1, 1) := by decide +kernel
theorem d2_15 : decode prog_20_method_15_code 15 = .ok (.goto 4, 3) := by decide +kernel
def Q2r (Z : State) (ob : Addr) (w : Addr) (h0 : Heap) (n0 : Nat) (v : Option Value) (h : Heap) (L : List Loc) : Prop := v = some (.int 1) ∧ Fr n0 L ∧ h = h0
set_option maxRecDepth 65536 in
set_option maxHeartbeats 40000000 in
theorem rm2r (l : Launch) (Z : State) (a0 : Array Value) (hw : ∀ d ∈ tables_1, d.before a0 Z = true) (ws : List Jvm.Cond) (ob : Addr) (w : Addr) (h0 : Heap) (n0 : Nat) (Zle : n0 ≤ h0.size) (F_keptOnMatch_ob : Fld Z h0 ob "com/example/hermit_crab/hermitcrab/engine/RowLocking" "keptOnMatch" "Lcom/example/hermit_crab/hermitcrab/engine/LockMode;" (.ref w)) :
    MetFree l (⟨"com/example/hermit_crab/hermitcrab/engine/RowLocking", "keepsLocks", "()Z"⟩ : MethodName) (head1 (Jvm.Cond.code (⟨"com/example/hermit_crab/hermitcrab/engine/RowLocking", "keepsLocks", "()Z"⟩ : MethodName) prog_20_method_15_code 1 (some .boolean) :: ws) ({ frames := 0, cells := 0, slots := 0, locals := 0 } : Room)) (fun a U => a = #[(.ref ob)] ∧ Z.Warmed39 U.vm ∧ U.heap = h0) (fun _ _ _ _ _ => True) (fun _ U o U' => ∃ v L, o = .returned v ∧ Q2r Z ob w h0 n0 v U'.heap L ∧ FrameEnd U o U' L ({ frames := 0, cells := 0, slots := 0, locals := 0 } : Room).cells ({ frames := 0, cells := 0, slots := 0, locals := 0 } : Room).slots) := by
  refine MetFree.of_bodySF (plainFor_of_name pn_com_example_hermit_crab_hermitcrab_engine_RowLocking) hisR ?_
  intro p e s m args below meth c s₁ Bd hml0 hP hK
  obtain ⟨rfl, hZ, hh⟩ := hP
  have hx := Bd.exec
  have hby := Bd.bytes
  have hml : c.maxLocals = 1 := hml0
  have hown : s.vm.findClass "com/example/hermit_crab/hermitcrab/engine/RowLocking" = some m.cls := findClass_of_methodNamed Bd.named
  have hnm := (name_of_methodNamed Bd.named Bd.method).1
  have X0 : Stand p l e ({ frames := 0, cells := 0, slots := 0, locals := 0 } : Room) s m #[(.ref ob)] below meth c s₁ [] 0 0 := Stand.of_body Bd
  have e0 : s₁.heap = h0 := by rw [← hh, Bd.state]; rfl
  have N_ := Fr.nil n0
  show own_Goes p.tables e below s (Q2r Z ob w h0 n0) ({ frames := 0, cells := 0, slots := 0, locals := 0 } : Room).cells ({ frames := 0, cells := 0, slots := 0, locals := 0 } : Room).slots s₁ (entryFrame m #[(.ref ob)] 1)
  refine own_by (T' := s₁) (g' := (mkF m 0 #[.val (.ref ob)] [])) (fun t k => castTop (ef_2r m ob) k) ?_
  refine own_by (T' := s₁) (g' := (mkF m 1 #[.val (.ref ob)] [(.ref ob)])) (fun t k => XS.aloadN X0.here hx rfl (hb hby d2_0) rfl rfl k) ?_
  obtain ⟨T1, X1, e1, st1⟩ := getF X0 hx hZ hown (host := "") (Or.inl (hw _ (own_m 13 rfl))) Via.refl e0 F_keptOnMatch_ob (g := (mkF m 1 #[.val (.ref ob)] [(.ref ob)])) rfl rfl (hb hby d2_1)
  refine own_by (T' := T1) (g' := (mkF m 4 #[.val (.ref ob)] [(.ref w)])) (fun t k => st1 t k) ?_
  refine own_by (T' := T1) (g' := (mkF m 14 #[.val (.ref ob)] [])) (fun t k => XS.ifnonnullYes X1.here hx rfl (pc0 := 4) (pc' := 14) rfl (hb hby d2_4) rfl (by decide) (by decide) k) ?_
  refine own_by (T' := T1) (g' := (mkF m 15 #[.val (.ref ob)] [(.int 1)])) (fun t k => XS.iconst X1.here hx rfl (hb hby d2_14) k) ?_
  refine own_by (T' := T1) (g' := (mkF m 19 #[.val (.ref ob)] [(.int 1)])) (fun t k => XS.goto X1.here hx rfl (pc0 := 15) (pc' := 19) rfl (hb hby d2_15) (by decide) (by decide) k) ?_
  exact own_retN X1 hx (t := .boolean) Bd.notSynchronized Bd.returns (by simp) (hb hby d2_19) (by decide) (by decide) (by rw [e1]; exact ⟨rfl, N_, rfl⟩)

theorem ef_3n (m : MethodId) (ob : Addr) : entryFrame m #[(.ref ob)] 1 = mkF m 0 #[.val (.ref ob)] [] := by first | (simp [entryFrame, mkF, argsToLocals, Value.category]; done) | rfl
theorem d3_0 : decode prog_20_method_7_code 0 = .ok (.aload_n 0, 1) := by decide +kernel
theorem d3_1 : decode prog_20_method_7_code 1 = .ok (.getfield 54, 3) := by decide +kernel
theorem d3_4 : decode prog_20_method_7_code 4 = .ok (.areturn, 1) := by decide +kernel
def Q3n (Z : State) (ob : Addr) (h0 : Heap) (n0 : Nat) (v : Option Value) (h : Heap) (L : List Loc) : Prop := v = some .null ∧ Fr n0 L ∧ h = h0
set_option maxRecDepth 65536 in
set_option maxHeartbeats 40000000 in
theorem rm3n (l : Launch) (Z : State) (a0 : Array Value) (hw : ∀ d ∈ tables_1, d.before a0 Z = true) (ws : List Jvm.Cond) (ob : Addr) (h0 : Heap) (n0 : Nat) (Zle : n0 ≤ h0.size) (F_keptOnMatch_ob : Fld Z h0 ob "com/example/hermit_crab/hermitcrab/engine/RowLocking" "keptOnMatch" "Lcom/example/hermit_crab/hermitcrab/engine/LockMode;" .null) :
    MetFree l (⟨"com/example/hermit_crab/hermitcrab/engine/RowLocking", "getKeptOnMatch", "()Lcom/example/hermit_crab/hermitcrab/engine/LockMode;"⟩ : MethodName) (head1 (Jvm.Cond.code (⟨"com/example/hermit_crab/hermitcrab/engine/RowLocking", "getKeptOnMatch", "()Lcom/example/hermit_crab/hermitcrab/engine/LockMode;"⟩ : MethodName) prog_20_method_7_code 1 (some (.object "com/example/hermit_crab/hermitcrab/engine/LockMode")) :: ws) ({ frames := 0, cells := 0, slots := 0, locals := 0 } : Room)) (fun a U => a = #[(.ref ob)] ∧ Z.Warmed39 U.vm ∧ U.heap = h0) (fun _ _ _ _ _ => True) (fun _ U o U' => ∃ v L, o = .returned v ∧ Q3n Z ob h0 n0 v U'.heap L ∧ FrameEnd U o U' L ({ frames := 0, cells := 0, slots := 0, locals := 0 } : Room).cells ({ frames := 0, cells := 0, slots := 0, locals := 0 } : Room).slots) := by
  refine MetFree.of_bodySF (plainFor_of_name pn_com_example_hermit_crab_hermitcrab_engine_RowLocking) hisR ?_
  intro p e s m args below meth c s₁ Bd hml0 hP hK
  obtain ⟨rfl, hZ, hh⟩ := hP
  have hx := Bd.exec
  have hby := Bd.bytes
  have hml : c.maxLocals = 1 := hml0
  have hown : s.vm.findClass "com/example/hermit_crab/hermitcrab/engine/RowLocking" = some m.cls := findClass_of_methodNamed Bd.named
  have hnm := (name_of_methodNamed Bd.named Bd.method).1
  have X0 : Stand p l e ({ frames := 0, cells := 0, slots := 0, locals := 0 } : Room) s m #[(.ref ob)] below meth c s₁ [] 0 0 := Stand.of_body Bd
  have e0 : s₁.heap = h0 := by rw [← hh, Bd.state]; rfl
  have N_ := Fr.nil n0
  show own_Goes p.tables e below s (Q3n Z ob h0 n0) ({ frames := 0, cells := 0, slots := 0, locals := 0 } : Room).cells ({ frames := 0, cells := 0, slots := 0, locals := 0 } : Room).slots s₁ (entryFrame m #[(.ref ob)] 1)
  refine own_by (T' := s₁) (g' := (mkF m 0 #[.val (.ref ob)] [])) (fun t k => castTop (ef_3n m ob) k) ?_
  refine own_by (T' := s₁) (g' := (mkF m 1 #[.val (.ref ob)] [(.ref ob)])) (fun t k => XS.aloadN X0.here hx rfl (hb hby d3_0) rfl rfl k) ?_
  obtain ⟨T1, X1, e1, st1⟩ := getF X0 hx hZ hown (host := "") (Or.inl (hw _ (own_m 13 rfl))) Via.refl e0 F_keptOnMatch_ob (g := (mkF m 1 #[.val (.ref ob)] [(.ref ob)])) rfl rfl (hb hby d3_1)
  refine own_by (T' := T1) (g' := (mkF m 4 #[.val (.ref ob)] [.null])) (fun t k => st1 t k) ?_
  exact own_retA X1 hx (t := (.object "com/example/hermit_crab/hermitcrab/engine/LockMode")) Bd.notSynchronized Bd.returns rfl rfl rfl (hb hby d3_4) (by decide) (by decide) (by rw [e1]; exact ⟨rfl, N_, rfl⟩)

theorem ef_3r (m : MethodId) (ob : Addr) : entryFrame m #[(.ref ob)] 1 = mkF m 0 #[.val (.ref ob)] [] := by first | (simp [entryFrame, mkF, argsToLocals, Value.category]; done) | rfl
def Q3r (Z : State) (ob : Addr) (w : Addr) (h0 : Heap) (n0 : Nat) (v : Option Value) (h : Heap) (L : List Loc) : Prop := v = some (.ref w) ∧ Fr n0 L ∧ h = h0
set_option maxRecDepth 65536 in
set_option maxHeartbeats 40000000 in
theorem rm3r (l : Launch) (Z : State) (a0 : Array Value) (hw : ∀ d ∈ tables_1, d.before a0 Z = true) (ws : List Jvm.Cond) (ob : Addr) (w : Addr) (h0 : Heap) (n0 : Nat) (Zle : n0 ≤ h0.size) (F_keptOnMatch_ob : Fld Z h0 ob "com/example/hermit_crab/hermitcrab/engine/RowLocking" "keptOnMatch" "Lcom/example/hermit_crab/hermitcrab/engine/LockMode;" (.ref w)) :
    MetFree l (⟨"com/example/hermit_crab/hermitcrab/engine/RowLocking", "getKeptOnMatch", "()Lcom/example/hermit_crab/hermitcrab/engine/LockMode;"⟩ : MethodName) (head1 (Jvm.Cond.code (⟨"com/example/hermit_crab/hermitcrab/engine/RowLocking", "getKeptOnMatch", "()Lcom/example/hermit_crab/hermitcrab/engine/LockMode;"⟩ : MethodName) prog_20_method_7_code 1 (some (.object "com/example/hermit_crab/hermitcrab/engine/LockMode")) :: ws) ({ frames := 0, cells := 0, slots := 0, locals := 0 } : Room)) (fun a U => a = #[(.ref ob)] ∧ Z.Warmed39 U.vm ∧ U.heap = h0) (fun _ _ _ _ _ => True) (fun _ U o U' => ∃ v L, o = .returned v ∧ Q3r Z ob w h0 n0 v U'.heap L ∧ FrameEnd U o U' L ({ frames := 0, cells := 0, slots := 0, locals := 0 } : Room).cells ({ frames := 0, cells := 0, slots := 0, locals := 0 } : Room).slots) := by
  refine MetFree.of_bodySF (plainFor_of_name pn_com_example_hermit_crab_hermitcrab_engine_RowLocking) hisR ?_
  intro p e s m args below meth c s₁ Bd hml0 hP hK
  obtain ⟨rfl, hZ, hh⟩ := hP
  have hx := Bd.exec
  have hby := Bd.bytes
  have hml : c.maxLocals = 1 := hml0
  have hown : s.vm.findClass "com/example/hermit_crab/hermitcrab/engine/RowLocking" = some m.cls := findClass_of_methodNamed Bd.named
  have hnm := (name_of_methodNamed Bd.named Bd.method).1
  have X0 : Stand p l e ({ frames := 0, cells := 0, slots := 0, locals := 0 } : Room) s m #[(.ref ob)] below meth c s₁ [] 0 0 := Stand.of_body Bd
  have e0 : s₁.heap = h0 := by rw [← hh, Bd.state]; rfl
  have N_ := Fr.nil n0
  show own_Goes p.tables e below s (Q3r Z ob w h0 n0) ({ frames := 0, cells := 0, slots := 0, locals := 0 } : Room).cells ({ frames := 0, cells := 0, slots := 0, locals := 0 } : Room).slots s₁ (entryFrame m #[(.ref ob)] 1)
  refine own_by (T' := s₁) (g' := (mkF m 0 #[.val (.ref ob)] [])) (fun t k => castTop (ef_3r m ob) k) ?_
  refine own_by (T' := s₁) (g' := (mkF m 1 #[.val (.ref ob)] [(.ref ob)])) (fun t k => XS.aloadN X0.here hx rfl (hb hby d3_0) rfl rfl k) ?_
  obtain ⟨T1, X1, e1, st1⟩ := getF X0 hx hZ hown (host := "") (Or.inl (hw _ (own_m 13 rfl))) Via.refl e0 F_keptOnMatch_ob (g := (mkF m 1 #[.val (.ref ob)] [(.ref ob)])) rfl rfl (hb hby d3_1)
  refine own_by (T' := T1) (g' := (mkF m 4 #[.val (.ref ob)] [(.ref w)])) (fun t k => st1 t k) ?_
  exact own_retA X1 hx (t := (.object "com/example/hermit_crab/hermitcrab/engine/LockMode")) Bd.notSynchronized Bd.returns rfl rfl rfl (hb hby d3_4) (by decide) (by decide) (by rw [e1]; exact ⟨rfl, N_, rfl⟩)

theorem ef_4n (m : MethodId) (ob : Addr) : entryFrame m #[(.ref ob)] 1 = mkF m 0 #[.val (.ref ob)] [] := by first | (simp [entryFrame, mkF, argsToLocals, Value.category]; done) | rfl
theorem d4_0 : decode prog_20_method_8_code 0 = .ok (.aload_n 0, 1) := by decide +kernel
theorem d4_1 : decode prog_20_method_8_code 1 = .ok (.getfield 57, 3) := by decide +kernel
theorem d4_4 : decode prog_20_method_8_code 4 = .ok (.areturn, 1) := by decide +kernel
def Q4n (Z : State) (ob : Addr) (h0 : Heap) (n0 : Nat) (v : Option Value) (h : Heap) (L : List Loc) : Prop := v = some .null ∧ Fr n0 L ∧ h = h0
set_option maxRecDepth 65536 in
set_option maxHeartbeats 40000000 in
theorem rm4n (l : Launch) (Z : State) (a0 : Array Value) (hw : ∀ d ∈ tables_1, d.before a0 Z = true) (ws : List Jvm.Cond) (ob : Addr) (h0 : Heap) (n0 : Nat) (Zle : n0 ≤ h0.size) (F_keptOnMiss_ob : Fld Z h0 ob "com/example/hermit_crab/hermitcrab/engine/RowLocking" "keptOnMiss" "Lcom/example/hermit_crab/hermitcrab/engine/LockMode;" .null) :
    MetFree l (⟨"com/example/hermit_crab/hermitcrab/engine/RowLocking", "getKeptOnMiss", "()Lcom/example/hermit_crab/hermitcrab/engine/LockMode;"⟩ : MethodName) (head1 (Jvm.Cond.code (⟨"com/example/hermit_crab/hermitcrab/engine/RowLocking", "getKeptOnMiss", "()Lcom/example/hermit_crab/hermitcrab/engine/LockMode;"⟩ : MethodName) prog_20_method_8_code 1 (some (.object "com/example/hermit_crab/hermitcrab/engine/LockMode")) :: ws) ({ frames := 0, cells := 0, slots := 0, locals := 0 } : Room)) (fun a U => a = #[(.ref ob)] ∧ Z.Warmed39 U.vm ∧ U.heap = h0) (fun _ _ _ _ _ => True) (fun _ U o U' => ∃ v L, o = .returned v ∧ Q4n Z ob h0 n0 v U'.heap L ∧ FrameEnd U o U' L ({ frames := 0, cells := 0, slots := 0, locals := 0 } : Room).cells ({ frames := 0, cells := 0, slots := 0, locals := 0 } : Room).slots) := by
  refine MetFree.of_bodySF (plainFor_of_name pn_com_example_hermit_crab_hermitcrab_engine_RowLocking) hisR ?_
  intro p e s m args below meth c s₁ Bd hml0 hP hK
  obtain ⟨rfl, hZ, hh⟩ := hP
  have hx := Bd.exec
  have hby := Bd.bytes
  have hml : c.maxLocals = 1 := hml0
  have hown : s.vm.findClass "com/example/hermit_crab/hermitcrab/engine/RowLocking" = some m.cls := findClass_of_methodNamed Bd.named
  have hnm := (name_of_methodNamed Bd.named Bd.method).1
  have X0 : Stand p l e ({ frames := 0, cells := 0, slots := 0, locals := 0 } : Room) s m #[(.ref ob)] below meth c s₁ [] 0 0 := Stand.of_body Bd
  have e0 : s₁.heap = h0 := by rw [← hh, Bd.state]; rfl
  have N_ := Fr.nil n0
  show own_Goes p.tables e below s (Q4n Z ob h0 n0) ({ frames := 0, cells := 0, slots := 0, locals := 0 } : Room).cells ({ frames := 0, cells := 0, slots := 0, locals := 0 } : Room).slots s₁ (entryFrame m #[(.ref ob)] 1)
  refine own_by (T' := s₁) (g' := (mkF m 0 #[.val (.ref ob)] [])) (fun t k => castTop (ef_4n m ob) k) ?_
  refine own_by (T' := s₁) (g' := (mkF m 1 #[.val (.ref ob)] [(.ref ob)])) (fun t k => XS.aloadN X0.here hx rfl (hb hby d4_0) rfl rfl k) ?_
  obtain ⟨T1, X1, e1, st1⟩ := getF X0 hx hZ hown (host := "") (Or.inl (hw _ (own_m 15 rfl))) Via.refl e0 F_keptOnMiss_ob (g := (mkF m 1 #[.val (.ref ob)] [(.ref ob)])) rfl rfl (hb hby d4_1)
  refine own_by (T' := T1) (g' := (mkF m 4 #[.val (.ref ob)] [.null])) (fun t k => st1 t k) ?_
  exact own_retA X1 hx (t := (.object "com/example/hermit_crab/hermitcrab/engine/LockMode")) Bd.notSynchronized Bd.returns rfl rfl rfl (hb hby d4_4) (by decide) (by decide) (by rw [e1]; exact ⟨rfl, N_, rfl⟩)

theorem ef_0 (m : MethodId) (x1 : Int32) : entryFrame m #[(.int x1)] maxLocals = mkF m 0 #[.val (.int x1), .unset, .unset, .unset, .unset, .unset] [] := by first | (simp [entryFrame, mkF, argsToLocals, Value.category, maxLocals]; done) | rfl
theorem pd_0 : parseMethodDescriptor "(I)Lcom/example/hermit_crab/hermitcrab/engine/RowLocking;" = some ⟨[.int], some (.object "com/example/hermit_crab/hermitcrab/engine/RowLocking")⟩ := by decide +kernel
theorem pd_1 : parseMethodDescriptor "()Z" = some ⟨[], some .boolean⟩ := by decide +kernel
theorem pd_2 : parseMethodDescriptor "()Lcom/example/hermit_crab/hermitcrab/engine/LockMode;" = some ⟨[], some (.object "com/example/hermit_crab/hermitcrab/engine/LockMode")⟩ := by decide +kernel
def Q0 (Z : State) (x1 : Int32) (r0 : Addr) (r1 : Addr) (r2 : Addr) (r3 : Addr) (r4 : Addr) (r5 : Addr) (r6 : Addr) (r7 : Addr) (r8 : Addr) (lx : Addr) (ls : Addr) (h0 : Heap) (n0 : Nat) (v : Option Value) (h : Heap) (L : List Loc) : Prop := v = some (.int 1) ∧ Fr n0 L
set_option maxRecDepth 65536 in
set_option maxHeartbeats 40000000 in
theorem rm0 (l : Launch) (Z : State) (a0 : Array Value) (hw : ∀ d ∈ tables_1, d.before a0 Z = true) (ws : List Jvm.Cond) (x1 : Int32) (r0 : Addr) (r1 : Addr) (r2 : Addr) (r3 : Addr) (r4 : Addr) (r5 : Addr) (r6 : Addr) (r7 : Addr) (r8 : Addr) (lx : Addr) (ls : Addr) (h0 : Heap) (n0 : Nat) (Zle : n0 ≤ h0.size) (E_r0 : Exa Z h0 r0 "com/example/hermit_crab/hermitcrab/engine/RowLocking") (S_NONE : Sta Z h0 "com/example/hermit_crab/hermitcrab/engine/RowLocking" "NONE" "Lcom/example/hermit_crab/hermitcrab/engine/RowLocking;" (.ref r0)) (E_r3 : Exa Z h0 r3 "com/example/hermit_crab/hermitcrab/engine/RowLocking") (S_SHARED_WHILE_EXAMINED : Sta Z h0 "com/example/hermit_crab/hermitcrab/engine/RowLocking" "SHARED_WHILE_EXAMINED" "Lcom/example/hermit_crab/hermitcrab/engine/RowLocking;" (.ref r3)) (E_r2 : Exa Z h0 r2 "com/example/hermit_crab/hermitcrab/engine/RowLocking") (S_SNAPSHOT_VERSION : Sta Z h0 "com/example/hermit_crab/hermitcrab/engine/RowLocking" "SNAPSHOT_VERSION" "Lcom/example/hermit_crab/hermitcrab/engine/RowLocking;" (.ref r2)) (E_r1 : Exa Z h0 r1 "com/example/hermit_crab/hermitcrab/engine/RowLocking") (S_COMMITTED_VERSION : Sta Z h0 "com/example/hermit_crab/hermitcrab/engine/RowLocking" "COMMITTED_VERSION" "Lcom/example/hermit_crab/hermitcrab/engine/RowLocking;" (.ref r1)) (E_r7 : Exa Z h0 r7 "com/example/hermit_crab/hermitcrab/engine/RowLocking") (S_EXCLUSIVE_ON_SNAPSHOT_MATCH : Sta Z h0 "com/example/hermit_crab/hermitcrab/engine/RowLocking" "EXCLUSIVE_ON_SNAPSHOT_MATCH" "Lcom/example/hermit_crab/hermitcrab/engine/RowLocking;" (.ref r7)) (E_lx : Exa Z h0 lx "com/example/hermit_crab/hermitcrab/engine/LockMode") (S_EXCLUSIVE : Sta Z h0 "com/example/hermit_crab/hermitcrab/engine/LockMode" "EXCLUSIVE" "Lcom/example/hermit_crab/hermitcrab/engine/LockMode;" (.ref lx)) (E_r4 : Exa Z h0 r4 "com/example/hermit_crab/hermitcrab/engine/RowLocking") (S_SHARED_ON_MATCHED : Sta Z h0 "com/example/hermit_crab/hermitcrab/engine/RowLocking" "SHARED_ON_MATCHED" "Lcom/example/hermit_crab/hermitcrab/engine/RowLocking;" (.ref r4)) (E_ls : Exa Z h0 ls "com/example/hermit_crab/hermitcrab/engine/LockMode") (S_SHARED : Sta Z h0 "com/example/hermit_crab/hermitcrab/engine/LockMode" "SHARED" "Lcom/example/hermit_crab/hermitcrab/engine/LockMode;" (.ref ls)) (E_r8 : Exa Z h0 r8 "com/example/hermit_crab/hermitcrab/engine/RowLocking") (S_EXCLUSIVE_WITH_KEY_RANGES : Sta Z h0 "com/example/hermit_crab/hermitcrab/engine/RowLocking" "EXCLUSIVE_WITH_KEY_RANGES" "Lcom/example/hermit_crab/hermitcrab/engine/RowLocking;" (.ref r8)) (E_r6 : Exa Z h0 r6 "com/example/hermit_crab/hermitcrab/engine/RowLocking") (S_EXCLUSIVE_ON_MATCHED : Sta Z h0 "com/example/hermit_crab/hermitcrab/engine/RowLocking" "EXCLUSIVE_ON_MATCHED" "Lcom/example/hermit_crab/hermitcrab/engine/RowLocking;" (.ref r6)) (E_r5 : Exa Z h0 r5 "com/example/hermit_crab/hermitcrab/engine/RowLocking") (S_SHARED_WITH_KEY_RANGES : Sta Z h0 "com/example/hermit_crab/hermitcrab/engine/RowLocking" "SHARED_WITH_KEY_RANGES" "Lcom/example/hermit_crab/hermitcrab/engine/RowLocking;" (.ref r5)) (F_keptOnMatch_r0 : Fld Z h0 r0 "com/example/hermit_crab/hermitcrab/engine/RowLocking" "keptOnMatch" "Lcom/example/hermit_crab/hermitcrab/engine/LockMode;" .null) (F_keptOnMiss_r0 : Fld Z h0 r0 "com/example/hermit_crab/hermitcrab/engine/RowLocking" "keptOnMiss" "Lcom/example/hermit_crab/hermitcrab/engine/LockMode;" .null) (F_keptOnMatch_r3 : Fld Z h0 r3 "com/example/hermit_crab/hermitcrab/engine/RowLocking" "keptOnMatch" "Lcom/example/hermit_crab/hermitcrab/engine/LockMode;" .null) (F_keptOnMiss_r3 : Fld Z h0 r3 "com/example/hermit_crab/hermitcrab/engine/RowLocking" "keptOnMiss" "Lcom/example/hermit_crab/hermitcrab/engine/LockMode;" .null) (F_keptOnMatch_r2 : Fld Z h0 r2 "com/example/hermit_crab/hermitcrab/engine/RowLocking" "keptOnMatch" "Lcom/example/hermit_crab/hermitcrab/engine/LockMode;" .null) (F_keptOnMiss_r2 : Fld Z h0 r2 "com/example/hermit_crab/hermitcrab/engine/RowLocking" "keptOnMiss" "Lcom/example/hermit_crab/hermitcrab/engine/LockMode;" .null) (F_keptOnMatch_r1 : Fld Z h0 r1 "com/example/hermit_crab/hermitcrab/engine/RowLocking" "keptOnMatch" "Lcom/example/hermit_crab/hermitcrab/engine/LockMode;" .null) (F_keptOnMiss_r1 : Fld Z h0 r1 "com/example/hermit_crab/hermitcrab/engine/RowLocking" "keptOnMiss" "Lcom/example/hermit_crab/hermitcrab/engine/LockMode;" .null) (F_keptOnMatch_r7 : Fld Z h0 r7 "com/example/hermit_crab/hermitcrab/engine/RowLocking" "keptOnMatch" "Lcom/example/hermit_crab/hermitcrab/engine/LockMode;" (.ref lx)) (F_keptOnMatch_r4 : Fld Z h0 r4 "com/example/hermit_crab/hermitcrab/engine/RowLocking" "keptOnMatch" "Lcom/example/hermit_crab/hermitcrab/engine/LockMode;" (.ref ls)) (F_keptOnMatch_r8 : Fld Z h0 r8 "com/example/hermit_crab/hermitcrab/engine/RowLocking" "keptOnMatch" "Lcom/example/hermit_crab/hermitcrab/engine/LockMode;" (.ref lx)) (F_keptOnMatch_r6 : Fld Z h0 r6 "com/example/hermit_crab/hermitcrab/engine/RowLocking" "keptOnMatch" "Lcom/example/hermit_crab/hermitcrab/engine/LockMode;" (.ref lx)) (F_keptOnMatch_r5 : Fld Z h0 r5 "com/example/hermit_crab/hermitcrab/engine/RowLocking" "keptOnMatch" "Lcom/example/hermit_crab/hermitcrab/engine/LockMode;" (.ref ls)) (F_keptOnMiss_r7 : Fld Z h0 r7 "com/example/hermit_crab/hermitcrab/engine/RowLocking" "keptOnMiss" "Lcom/example/hermit_crab/hermitcrab/engine/LockMode;" .null) (F_keptOnMiss_r4 : Fld Z h0 r4 "com/example/hermit_crab/hermitcrab/engine/RowLocking" "keptOnMiss" "Lcom/example/hermit_crab/hermitcrab/engine/LockMode;" .null) (F_keptOnMiss_r8 : Fld Z h0 r8 "com/example/hermit_crab/hermitcrab/engine/RowLocking" "keptOnMiss" "Lcom/example/hermit_crab/hermitcrab/engine/LockMode;" (.ref ls)) (F_keptOnMiss_r6 : Fld Z h0 r6 "com/example/hermit_crab/hermitcrab/engine/RowLocking" "keptOnMiss" "Lcom/example/hermit_crab/hermitcrab/engine/LockMode;" .null) (F_keptOnMiss_r5 : Fld Z h0 r5 "com/example/hermit_crab/hermitcrab/engine/RowLocking" "keptOnMiss" "Lcom/example/hermit_crab/hermitcrab/engine/LockMode;" (.ref ls)) :
    MetFree l x (head1 (Jvm.Cond.code x code maxLocals ret :: ws) room_1) (fun a U => a = #[(.int x1)] ∧ Z.Warmed39 U.vm ∧ U.heap = h0) (fun _ _ _ _ _ => True) (fun _ U o U' => ∃ v L, o = .returned v ∧ Q0 Z x1 r0 r1 r2 r3 r4 r5 r6 r7 r8 lx ls h0 n0 v U'.heap L ∧ FrameEnd U o U' L room_1.cells room_1.slots) := by
  refine MetFree.of_bodySF (plainFor_of_name pn_com_example_hermit_crab_hermitcrab_engine_RowLockingKeepsLocksPinLaw) hisR ?_
  intro p e s m args below meth c s₁ Bd hml0 hP hK
  obtain ⟨rfl, hZ, hh⟩ := hP
  have hx := Bd.exec
  have hby := Bd.bytes
  have hml : c.maxLocals = 6 := hml0
  have hown : s.vm.findClass "com/example/hermit_crab/hermitcrab/engine/RowLockingKeepsLocksPinLaw" = some m.cls := findClass_of_methodNamed Bd.named
  have hnm := (name_of_methodNamed Bd.named Bd.method).1
  have X0 : Stand p l e room_1 s m #[(.int x1)] below meth c s₁ [] 0 0 := Stand.of_body Bd
  have e0 : s₁.heap = h0 := by rw [← hh, Bd.state]; rfl
  have N_ := Fr.nil n0
  show own_Goes p.tables e below s (Q0 Z x1 r0 r1 r2 r3 r4 r5 r6 r7 r8 lx ls h0 n0) room_1.cells room_1.slots s₁ (entryFrame m #[(.int x1)] maxLocals)
  refine own_by (T' := s₁) (g' := (mkF m 0 #[.val (.int x1), .unset, .unset, .unset, .unset, .unset] [])) (fun t k => castTop (ef_0 m x1) k) ?_
  refine own_by (T' := s₁) (g' := (mkF m 1 #[.val (.int x1), .unset, .unset, .unset, .unset, .unset] [(.int x1)])) (fun t k => XS.iloadN X0.here hx rfl (hb hby at_0) rfl k) ?_
  refine own_by (T' := s₁) (g' := (mkF m 3 #[.val (.int x1), .unset, .unset, .unset, .unset, .unset] [(.int 2147483647), (.int x1)])) (fun t k => X0.ldcInt hx hown (mvT hZ (hw _ (own_m 0 rfl))) (g := (mkF m 1 #[.val (.int x1), .unset, .unset, .unset, .unset, .unset] [(.int x1)])) rfl (hb hby at_1) _ k) ?_
  refine own_by (T' := s₁) (g' := (mkF m 4 #[.val (.int x1), .unset, .unset, .unset, .unset, .unset] [(.int (x1 &&& (2147483647 : Int32)))])) (fun t k => XS.iand X0.here hx rfl (hb hby at_3) rfl k) ?_
  refine own_by (T' := s₁) (g' := (mkF m 6 #[.val (.int x1), .unset, .unset, .unset, .unset, .unset] [(.int 9), (.int (x1 &&& (2147483647 : Int32)))])) (fun t k => XS.bipush X0.here hx rfl (hb hby at_4) k) ?_
  refine own_by (T' := s₁) (g' := (mkF m 7 #[.val (.int x1), .unset, .unset, .unset, .unset, .unset] [(.int ((x1 &&& (2147483647 : Int32)) % (9 : Int32)))])) (fun t k => iremM X0 hx rfl (hb hby at_6) rfl (by decide) k) ?_
  refine own_by (T' := s₁) (g' := (mkF m 8 #[.val (.int x1), .val (.int ((x1 &&& (2147483647 : Int32)) % (9 : Int32))), .unset, .unset, .unset, .unset] [])) (fun t k => XS.istoreN X0.here hx rfl (hb hby at_7) rfl (l' := #[.val (.int x1), .val (.int ((x1 &&& (2147483647 : Int32)) % (9 : Int32))), .unset, .unset, .unset, .unset]) rfl k) ?_
  rcases own_rem9 x1 with hk | hk | hk | hk | hk | hk | hk | hk | hk
  · rw [hk]
    refine own_by (T' := s₁) (g' := (mkF m 9 #[.val (.int x1), .val (.int 0), .unset, .unset, .unset, .unset] [(.int 0)])) (fun t k => XS.iloadN X0.here hx rfl (hb hby at_8) rfl k) ?_
    obtain ⟨_, _, ⟨T1, L1, k1, n1⟩, -, X1, ⟨Lc1, hQ1, l1, y1, z1⟩, st1⟩ := Jvm.LawKit.callS X0 hx (y := (⟨"com/example/hermit_crab/hermitcrab/engine/RowLockingKeepsLocksPinLaw", "pick", "(I)Lcom/example/hermit_crab/hermitcrab/engine/RowLocking;"⟩ : MethodName)) hown (mvT hZ (hw _ (own_m 1 rfl))) (mvT hZ (hw _ (own_m 2 rfl))) (mvT hZ (hw _ (own_m 3 rfl))) (mvT hZ (hw _ (own_m 4 rfl))) (by decide) (backOf (W := 0) (rm1 l Z a0 hw [] (0 : Int32) r0 r1 r2 r3 r4 r5 r6 r7 r8 h0 n0 Zle S_NONE S_COMMITTED_VERSION S_SNAPSHOT_VERSION S_SHARED_WHILE_EXAMINED S_SHARED_ON_MATCHED S_SHARED_WITH_KEY_RANGES S_EXCLUSIVE_ON_MATCHED S_EXCLUSIVE_ON_SNAPSHOT_MATCH S_EXCLUSIVE_WITH_KEY_RANGES) hZ (hw _ (own_m 4 rfl)) (hw _ (own_m 3 rfl)) (by decide) (by decide)) (g := (mkF m 9 #[.val (.int x1), .val (.int 0), .unset, .unset, .unset, .unset] [(.int 0)])) rfl (by rw [hml]; rfl) (argsL := [(.int 0)]) (rest := []) (lenOf pd_0 rfl) rfl (own_le rfl) (hb hby at_9) (fun _ _ => ⟨rfl, e0, (by decide : 0 + 0 ≤ _), (by decide : 0 + 0 ≤ _)⟩)
    dsimp only [Pt.U, Pt.locs, Pt.cells, Pt.slots] at X1 l1 y1 z1 st1 hQ1
    subst l1 y1 z1
    obtain ⟨rfl, Nq1, e1⟩ := hQ1
    have N_ := Fr.app N_ Nq1
    refine own_by (T' := T1) (g' := (mkF m 12 #[.val (.int x1), .val (.int 0), .unset, .unset, .unset, .unset] [(.ref (own_pick (0 : Int32) r0 r1 r2 r3 r4 r5 r6 r7 r8))])) (fun t k => st1 _ k) ?_
    rw [show (own_pick (0 : Int32) r0 r1 r2 r3 r4 r5 r6 r7 r8) = r0 from by simp [own_pick]]
    refine own_by (T' := T1) (g' := (mkF m 13 #[.val (.int x1), .val (.int 0), .val (.ref r0), .unset, .unset, .unset] [])) (fun t k => XS.astoreN X1.here hx rfl (hb hby at_12) rfl rfl (l' := #[.val (.int x1), .val (.int 0), .val (.ref r0), .unset, .unset, .unset]) rfl k) ?_
    refine own_by (T' := T1) (g' := (mkF m 14 #[.val (.int x1), .val (.int 0), .val (.ref r0), .unset, .unset, .unset] [(.int 0)])) (fun t k => XS.iloadN X1.here hx rfl (hb hby at_13) rfl k) ?_
    refine own_by (T' := T1) (g' := (mkF m 15 #[.val (.int x1), .val (.int 0), .val (.ref r0), .unset, .unset, .unset] [(.int 4), (.int 0)])) (fun t k => XS.iconst X1.here hx rfl (hb hby at_14) k) ?_
    refine own_by (T' := T1) (g' := (mkF m 22 #[.val (.int x1), .val (.int 0), .val (.ref r0), .unset, .unset, .unset] [])) (fun t k => XS.icmpYes X1.here hx rfl (pc0 := 15) (pc' := 22) rfl (hb hby at_15) rfl (tlt (by decide)).1 (by decide) (by decide) k) ?_
    refine own_by (T' := T1) (g' := (mkF m 23 #[.val (.int x1), .val (.int 0), .val (.ref r0), .unset, .unset, .unset] [(.int 0)])) (fun t k => XS.iconst X1.here hx rfl (hb hby at_22) k) ?_
    refine own_by (T' := T1) (g' := (mkF m 24 #[.val (.int x1), .val (.int 0), .val (.ref r0), .val (.int 0), .unset, .unset] [])) (fun t k => XS.istoreN X1.here hx rfl (hb hby at_23) rfl (l' := #[.val (.int x1), .val (.int 0), .val (.ref r0), .val (.int 0), .unset, .unset]) rfl k) ?_
    refine own_by (T' := T1) (g' := (mkF m 25 #[.val (.int x1), .val (.int 0), .val (.ref r0), .val (.int 0), .unset, .unset] [(.ref r0)])) (fun t k => XS.aloadN X1.here hx rfl (hb hby at_24) rfl rfl k) ?_
    obtain ⟨cq2, kq2, q2a, q2b, q2c⟩ := isOf hZ e1 E_r0
    obtain ⟨_, _, ⟨T2, L2, k2, n2⟩, -, X2, ⟨Lc2, hQ2, l2, y2, z2⟩, st2⟩ := X1.virtualBack hx (y := (⟨"com/example/hermit_crab/hermitcrab/engine/RowLocking", "keepsLocks", "()Z"⟩ : MethodName)) (z := (⟨"com/example/hermit_crab/hermitcrab/engine/RowLocking", "keepsLocks", "()Z"⟩ : MethodName)) hown (mvT hZ (hw _ (own_m 8 rfl))) (mvT hZ (hw _ (own_m 9 rfl))) (notFace_of_selects (args := #[]) (mvT hZ (hw _ (own_m 11 rfl)))) (mvT hZ (hw _ (own_m 11 rfl))) (mvT hZ (hw _ (own_m 10 rfl))) (by decide) (backOf (W := 0) (rm2n l Z a0 hw [] r0 h0 n0 Zle F_keptOnMatch_r0 F_keptOnMiss_r0) hZ (hw _ (own_m 12 rfl)) (hw _ (own_m 6 rfl)) (by decide) (by decide)) q2a q2c (g := (mkF m 25 #[.val (.int x1), .val (.int 0), .val (.ref r0), .val (.int 0), .unset, .unset] [(.ref r0)])) rfl (by rw [hml]; rfl) (Steps.refl _) (argsL := []) (rest := []) (lenOf pd_1 rfl) rfl (own_le rfl) (hb hby at_25) (fun _ _ => ⟨rfl, e1, (by decide : 0 + 0 ≤ _), (by decide : 0 + 0 ≤ _)⟩)
    dsimp only [Pt.U, Pt.locs, Pt.cells, Pt.slots] at X2 l2 y2 z2 st2 hQ2
    subst l2 y2 z2
    obtain ⟨rfl, Nq2, e2⟩ := hQ2
    have N_ := Fr.app N_ Nq2
    refine own_by (T' := T2) (g' := (mkF m 28 #[.val (.int x1), .val (.int 0), .val (.ref r0), .val (.int 0), .unset, .unset] [(.int 0)])) (fun t k => st2.trans k) ?_
    refine own_by (T' := T2) (g' := (mkF m 30 #[.val (.int x1), .val (.int 0), .val (.ref r0), .val (.int 0), .val (.int 0), .unset] [])) (fun t k => XS.istore X2.here hx rfl (hb hby at_28) rfl (l' := #[.val (.int x1), .val (.int 0), .val (.ref r0), .val (.int 0), .val (.int 0), .unset]) rfl k) ?_
    refine own_by (T' := T2) (g' := (mkF m 31 #[.val (.int x1), .val (.int 0), .val (.ref r0), .val (.int 0), .val (.int 0), .unset] [(.ref r0)])) (fun t k => XS.aloadN X2.here hx rfl (hb hby at_30) rfl rfl k) ?_
    obtain ⟨cq3, kq3, q3a, q3b, q3c⟩ := isOf hZ e2 E_r0
    obtain ⟨_, _, ⟨T3, L3, k3, n3⟩, -, X3, ⟨Lc3, hQ3, l3, y3, z3⟩, st3⟩ := X2.virtualBack hx (y := (⟨"com/example/hermit_crab/hermitcrab/engine/RowLocking", "getKeptOnMatch", "()Lcom/example/hermit_crab/hermitcrab/engine/LockMode;"⟩ : MethodName)) (z := (⟨"com/example/hermit_crab/hermitcrab/engine/RowLocking", "getKeptOnMatch", "()Lcom/example/hermit_crab/hermitcrab/engine/LockMode;"⟩ : MethodName)) hown (mvT hZ (hw _ (own_m 17 rfl))) (mvT hZ (hw _ (own_m 18 rfl))) (notFace_of_selects (args := #[]) (mvT hZ (hw _ (own_m 20 rfl)))) (mvT hZ (hw _ (own_m 20 rfl))) (mvT hZ (hw _ (own_m 19 rfl))) (by decide) (backOf (W := 0) (rm3n l Z a0 hw [] r0 h0 n0 Zle F_keptOnMatch_r0) hZ (hw _ (own_m 21 rfl)) (hw _ (own_m 6 rfl)) (by decide) (by decide)) q3a q3c (g := (mkF m 31 #[.val (.int x1), .val (.int 0), .val (.ref r0), .val (.int 0), .val (.int 0), .unset] [(.ref r0)])) rfl (by rw [hml]; rfl) (Steps.refl _) (argsL := []) (rest := []) (lenOf pd_2 rfl) rfl (own_le rfl) (hb hby at_31) (fun _ _ => ⟨rfl, e2, (by decide : 0 + 0 ≤ _), (by decide : 0 + 0 ≤ _)⟩)
    dsimp only [Pt.U, Pt.locs, Pt.cells, Pt.slots] at X3 l3 y3 z3 st3 hQ3
    subst l3 y3 z3
    obtain ⟨rfl, Nq3, e3⟩ := hQ3
    have N_ := Fr.app N_ Nq3
    refine own_by (T' := T3) (g' := (mkF m 34 #[.val (.int x1), .val (.int 0), .val (.ref r0), .val (.int 0), .val (.int 0), .unset] [.null])) (fun t k => st3.trans k) ?_
    refine own_by (T' := T3) (g' := (mkF m 37 #[.val (.int x1), .val (.int 0), .val (.ref r0), .val (.int 0), .val (.int 0), .unset] [])) (fun t k => XS.ifnonnullNo X3.here hx rfl (hb hby at_34) rfl k) ?_
    refine own_by (T' := T3) (g' := (mkF m 38 #[.val (.int x1), .val (.int 0), .val (.ref r0), .val (.int 0), .val (.int 0), .unset] [(.ref r0)])) (fun t k => XS.aloadN X3.here hx rfl (hb hby at_37) rfl rfl k) ?_
    obtain ⟨cq4, kq4, q4a, q4b, q4c⟩ := isOf hZ e3 E_r0
    obtain ⟨_, _, ⟨T4, L4, k4, n4⟩, -, X4, ⟨Lc4, hQ4, l4, y4, z4⟩, st4⟩ := X3.virtualBack hx (y := (⟨"com/example/hermit_crab/hermitcrab/engine/RowLocking", "getKeptOnMiss", "()Lcom/example/hermit_crab/hermitcrab/engine/LockMode;"⟩ : MethodName)) (z := (⟨"com/example/hermit_crab/hermitcrab/engine/RowLocking", "getKeptOnMiss", "()Lcom/example/hermit_crab/hermitcrab/engine/LockMode;"⟩ : MethodName)) hown (mvT hZ (hw _ (own_m 22 rfl))) (mvT hZ (hw _ (own_m 23 rfl))) (notFace_of_selects (args := #[]) (mvT hZ (hw _ (own_m 25 rfl)))) (mvT hZ (hw _ (own_m 25 rfl))) (mvT hZ (hw _ (own_m 24 rfl))) (by decide) (backOf (W := 0) (rm4n l Z a0 hw [] r0 h0 n0 Zle F_keptOnMiss_r0) hZ (hw _ (own_m 26 rfl)) (hw _ (own_m 6 rfl)) (by decide) (by decide)) q4a q4c (g := (mkF m 38 #[.val (.int x1), .val (.int 0), .val (.ref r0), .val (.int 0), .val (.int 0), .unset] [(.ref r0)])) rfl (by rw [hml]; rfl) (Steps.refl _) (argsL := []) (rest := []) (lenOf pd_2 rfl) rfl (own_le rfl) (hb hby at_38) (fun _ _ => ⟨rfl, e3, (by decide : 0 + 0 ≤ _), (by decide : 0 + 0 ≤ _)⟩)
    dsimp only [Pt.U, Pt.locs, Pt.cells, Pt.slots] at X4 l4 y4 z4 st4 hQ4
    subst l4 y4 z4
    obtain ⟨rfl, Nq4, e4⟩ := hQ4
    have N_ := Fr.app N_ Nq4
    refine own_by (T' := T4) (g' := (mkF m 41 #[.val (.int x1), .val (.int 0), .val (.ref r0), .val (.int 0), .val (.int 0), .unset] [.null])) (fun t k => st4.trans k) ?_
    refine own_by (T' := T4) (g' := (mkF m 48 #[.val (.int x1), .val (.int 0), .val (.ref r0), .val (.int 0), .val (.int 0), .unset] [])) (fun t k => XS.ifnullYes X4.here hx rfl (pc0 := 41) (pc' := 48) rfl (hb hby at_41) rfl (by decide) (by decide) k) ?_
    refine own_by (T' := T4) (g' := (mkF m 49 #[.val (.int x1), .val (.int 0), .val (.ref r0), .val (.int 0), .val (.int 0), .unset] [(.int 0)])) (fun t k => XS.iconst X4.here hx rfl (hb hby at_48) k) ?_
    refine own_by (T' := T4) (g' := (mkF m 51 #[.val (.int x1), .val (.int 0), .val (.ref r0), .val (.int 0), .val (.int 0), .val (.int 0)] [])) (fun t k => XS.istore X4.here hx rfl (hb hby at_49) rfl (l' := #[.val (.int x1), .val (.int 0), .val (.ref r0), .val (.int 0), .val (.int 0), .val (.int 0)]) rfl k) ?_
    refine own_by (T' := T4) (g' := (mkF m 53 #[.val (.int x1), .val (.int 0), .val (.ref r0), .val (.int 0), .val (.int 0), .val (.int 0)] [(.int 0)])) (fun t k => XS.iload X4.here hx rfl (hb hby at_51) rfl k) ?_
    refine own_by (T' := T4) (g' := (mkF m 54 #[.val (.int x1), .val (.int 0), .val (.ref r0), .val (.int 0), .val (.int 0), .val (.int 0)] [(.int 0), (.int 0)])) (fun t k => XS.iloadN X4.here hx rfl (hb hby at_53) rfl k) ?_
    refine own_by (T' := T4) (g' := (mkF m 57 #[.val (.int x1), .val (.int 0), .val (.ref r0), .val (.int 0), .val (.int 0), .val (.int 0)] [])) (fun t k => XS.icmpNo X4.here hx rfl (hb hby at_54) rfl (teq (by decide)).2 k) ?_
    refine own_by (T' := T4) (g' := (mkF m 59 #[.val (.int x1), .val (.int 0), .val (.ref r0), .val (.int 0), .val (.int 0), .val (.int 0)] [(.int 0)])) (fun t k => XS.iload X4.here hx rfl (hb hby at_57) rfl k) ?_
    refine own_by (T' := T4) (g' := (mkF m 61 #[.val (.int x1), .val (.int 0), .val (.ref r0), .val (.int 0), .val (.int 0), .val (.int 0)] [(.int 0), (.int 0)])) (fun t k => XS.iload X4.here hx rfl (hb hby at_59) rfl k) ?_
    refine own_by (T' := T4) (g' := (mkF m 64 #[.val (.int x1), .val (.int 0), .val (.ref r0), .val (.int 0), .val (.int 0), .val (.int 0)] [])) (fun t k => XS.icmpNo X4.here hx rfl (hb hby at_61) rfl (teq (by decide)).2 k) ?_
    refine own_by (T' := T4) (g' := (mkF m 65 #[.val (.int x1), .val (.int 0), .val (.ref r0), .val (.int 0), .val (.int 0), .val (.int 0)] [(.int 1)])) (fun t k => XS.iconst X4.here hx rfl (hb hby at_64) k) ?_
    refine own_by (T' := T4) (g' := (mkF m 69 #[.val (.int x1), .val (.int 0), .val (.ref r0), .val (.int 0), .val (.int 0), .val (.int 0)] [(.int 1)])) (fun t k => XS.goto X4.here hx rfl (pc0 := 65) (pc' := 69) rfl (hb hby at_65) (by decide) (by decide) k) ?_
    exact own_retN X4 hx (t := .boolean) Bd.notSynchronized Bd.returns (by simp) (hb hby at_69) (by decide) (by decide) (by rw [e4]; exact ⟨rfl, N_⟩)
  · rw [hk]
    refine own_by (T' := s₁) (g' := (mkF m 9 #[.val (.int x1), .val (.int 1), .unset, .unset, .unset, .unset] [(.int 1)])) (fun t k => XS.iloadN X0.here hx rfl (hb hby at_8) rfl k) ?_
    obtain ⟨_, _, ⟨T5, L5, k5, n5⟩, -, X5, ⟨Lc5, hQ5, l5, y5, z5⟩, st5⟩ := Jvm.LawKit.callS X0 hx (y := (⟨"com/example/hermit_crab/hermitcrab/engine/RowLockingKeepsLocksPinLaw", "pick", "(I)Lcom/example/hermit_crab/hermitcrab/engine/RowLocking;"⟩ : MethodName)) hown (mvT hZ (hw _ (own_m 1 rfl))) (mvT hZ (hw _ (own_m 2 rfl))) (mvT hZ (hw _ (own_m 3 rfl))) (mvT hZ (hw _ (own_m 4 rfl))) (by decide) (backOf (W := 0) (rm1 l Z a0 hw [] (1 : Int32) r0 r1 r2 r3 r4 r5 r6 r7 r8 h0 n0 Zle S_NONE S_COMMITTED_VERSION S_SNAPSHOT_VERSION S_SHARED_WHILE_EXAMINED S_SHARED_ON_MATCHED S_SHARED_WITH_KEY_RANGES S_EXCLUSIVE_ON_MATCHED S_EXCLUSIVE_ON_SNAPSHOT_MATCH S_EXCLUSIVE_WITH_KEY_RANGES) hZ (hw _ (own_m 4 rfl)) (hw _ (own_m 3 rfl)) (by decide) (by decide)) (g := (mkF m 9 #[.val (.int x1), .val (.int 1), .unset, .unset, .unset, .unset] [(.int 1)])) rfl (by rw [hml]; rfl) (argsL := [(.int 1)]) (rest := []) (lenOf pd_0 rfl) rfl (own_le rfl) (hb hby at_9) (fun _ _ => ⟨rfl, e0, (by decide : 0 + 0 ≤ _), (by decide : 0 + 0 ≤ _)⟩)
    dsimp only [Pt.U, Pt.locs, Pt.cells, Pt.slots] at X5 l5 y5 z5 st5 hQ5
    subst l5 y5 z5
    obtain ⟨rfl, Nq5, e5⟩ := hQ5
    have N_ := Fr.app N_ Nq5
    refine own_by (T' := T5) (g' := (mkF m 12 #[.val (.int x1), .val (.int 1), .unset, .unset, .unset, .unset] [(.ref (own_pick (1 : Int32) r0 r1 r2 r3 r4 r5 r6 r7 r8))])) (fun t k => st5 _ k) ?_
    rw [show (own_pick (1 : Int32) r0 r1 r2 r3 r4 r5 r6 r7 r8) = r1 from by simp [own_pick]]
    refine own_by (T' := T5) (g' := (mkF m 13 #[.val (.int x1), .val (.int 1), .val (.ref r1), .unset, .unset, .unset] [])) (fun t k => XS.astoreN X5.here hx rfl (hb hby at_12) rfl rfl (l' := #[.val (.int x1), .val (.int 1), .val (.ref r1), .unset, .unset, .unset]) rfl k) ?_
    refine own_by (T' := T5) (g' := (mkF m 14 #[.val (.int x1), .val (.int 1), .val (.ref r1), .unset, .unset, .unset] [(.int 1)])) (fun t k => XS.iloadN X5.here hx rfl (hb hby at_13) rfl k) ?_
    refine own_by (T' := T5) (g' := (mkF m 15 #[.val (.int x1), .val (.int 1), .val (.ref r1), .unset, .unset, .unset] [(.int 4), (.int 1)])) (fun t k => XS.iconst X5.here hx rfl (hb hby at_14) k) ?_
    refine own_by (T' := T5) (g' := (mkF m 22 #[.val (.int x1), .val (.int 1), .val (.ref r1), .unset, .unset, .unset] [])) (fun t k => XS.icmpYes X5.here hx rfl (pc0 := 15) (pc' := 22) rfl (hb hby at_15) rfl (tlt (by decide)).1 (by decide) (by decide) k) ?_
    refine own_by (T' := T5) (g' := (mkF m 23 #[.val (.int x1), .val (.int 1), .val (.ref r1), .unset, .unset, .unset] [(.int 0)])) (fun t k => XS.iconst X5.here hx rfl (hb hby at_22) k) ?_
    refine own_by (T' := T5) (g' := (mkF m 24 #[.val (.int x1), .val (.int 1), .val (.ref r1), .val (.int 0), .unset, .unset] [])) (fun t k => XS.istoreN X5.here hx rfl (hb hby at_23) rfl (l' := #[.val (.int x1), .val (.int 1), .val (.ref r1), .val (.int 0), .unset, .unset]) rfl k) ?_
    refine own_by (T' := T5) (g' := (mkF m 25 #[.val (.int x1), .val (.int 1), .val (.ref r1), .val (.int 0), .unset, .unset] [(.ref r1)])) (fun t k => XS.aloadN X5.here hx rfl (hb hby at_24) rfl rfl k) ?_
    obtain ⟨cq6, kq6, q6a, q6b, q6c⟩ := isOf hZ e5 E_r1
    obtain ⟨_, _, ⟨T6, L6, k6, n6⟩, -, X6, ⟨Lc6, hQ6, l6, y6, z6⟩, st6⟩ := X5.virtualBack hx (y := (⟨"com/example/hermit_crab/hermitcrab/engine/RowLocking", "keepsLocks", "()Z"⟩ : MethodName)) (z := (⟨"com/example/hermit_crab/hermitcrab/engine/RowLocking", "keepsLocks", "()Z"⟩ : MethodName)) hown (mvT hZ (hw _ (own_m 8 rfl))) (mvT hZ (hw _ (own_m 9 rfl))) (notFace_of_selects (args := #[]) (mvT hZ (hw _ (own_m 11 rfl)))) (mvT hZ (hw _ (own_m 11 rfl))) (mvT hZ (hw _ (own_m 10 rfl))) (by decide) (backOf (W := 0) (rm2n l Z a0 hw [] r1 h0 n0 Zle F_keptOnMatch_r1 F_keptOnMiss_r1) hZ (hw _ (own_m 12 rfl)) (hw _ (own_m 6 rfl)) (by decide) (by decide)) q6a q6c (g := (mkF m 25 #[.val (.int x1), .val (.int 1), .val (.ref r1), .val (.int 0), .unset, .unset] [(.ref r1)])) rfl (by rw [hml]; rfl) (Steps.refl _) (argsL := []) (rest := []) (lenOf pd_1 rfl) rfl (own_le rfl) (hb hby at_25) (fun _ _ => ⟨rfl, e5, (by decide : 0 + 0 ≤ _), (by decide : 0 + 0 ≤ _)⟩)
    dsimp only [Pt.U, Pt.locs, Pt.cells, Pt.slots] at X6 l6 y6 z6 st6 hQ6
    subst l6 y6 z6
    obtain ⟨rfl, Nq6, e6⟩ := hQ6
    have N_ := Fr.app N_ Nq6
    refine own_by (T' := T6) (g' := (mkF m 28 #[.val (.int x1), .val (.int 1), .val (.ref r1), .val (.int 0), .unset, .unset] [(.int 0)])) (fun t k => st6.trans k) ?_
    refine own_by (T' := T6) (g' := (mkF m 30 #[.val (.int x1), .val (.int 1), .val (.ref r1), .val (.int 0), .val (.int 0), .unset] [])) (fun t k => XS.istore X6.here hx rfl (hb hby at_28) rfl (l' := #[.val (.int x1), .val (.int 1), .val (.ref r1), .val (.int 0), .val (.int 0), .unset]) rfl k) ?_
    refine own_by (T' := T6) (g' := (mkF m 31 #[.val (.int x1), .val (.int 1), .val (.ref r1), .val (.int 0), .val (.int 0), .unset] [(.ref r1)])) (fun t k => XS.aloadN X6.here hx rfl (hb hby at_30) rfl rfl k) ?_
    obtain ⟨cq7, kq7, q7a, q7b, q7c⟩ := isOf hZ e6 E_r1
    obtain ⟨_, _, ⟨T7, L7, k7, n7⟩, -, X7, ⟨Lc7, hQ7, l7, y7, z7⟩, st7⟩ := X6.virtualBack hx (y := (⟨"com/example/hermit_crab/hermitcrab/engine/RowLocking", "getKeptOnMatch", "()Lcom/example/hermit_crab/hermitcrab/engine/LockMode;"⟩ : MethodName)) (z := (⟨"com/example/hermit_crab/hermitcrab/engine/RowLocking", "getKeptOnMatch", "()Lcom/example/hermit_crab/hermitcrab/engine/LockMode;"⟩ : MethodName)) hown (mvT hZ (hw _ (own_m 17 rfl))) (mvT hZ (hw _ (own_m 18 rfl))) (notFace_of_selects (args := #[]) (mvT hZ (hw _ (own_m 20 rfl)))) (mvT hZ (hw _ (own_m 20 rfl))) (mvT hZ (hw _ (own_m 19 rfl))) (by decide) (backOf (W := 0) (rm3n l Z a0 hw [] r1 h0 n0 Zle F_keptOnMatch_r1) hZ (hw _ (own_m 21 rfl)) (hw _ (own_m 6 rfl)) (by decide) (by decide)) q7a q7c (g := (mkF m 31 #[.val (.int x1), .val (.int 1), .val (.ref r1), .val (.int 0), .val (.int 0), .unset] [(.ref r1)])) rfl (by rw [hml]; rfl) (Steps.refl _) (argsL := []) (rest := []) (lenOf pd_2 rfl) rfl (own_le rfl) (hb hby at_31) (fun _ _ => ⟨rfl, e6, (by decide : 0 + 0 ≤ _), (by decide : 0 + 0 ≤ _)⟩)
    dsimp only [Pt.U, Pt.locs, Pt.cells, Pt.slots] at X7 l7 y7 z7 st7 hQ7
    subst l7 y7 z7
    obtain ⟨rfl, Nq7, e7⟩ := hQ7
    have N_ := Fr.app N_ Nq7
    refine own_by (T' := T7) (g' := (mkF m 34 #[.val (.int x1), .val (.int 1), .val (.ref r1), .val (.int 0), .val (.int 0), .unset] [.null])) (fun t k => st7.trans k) ?_
    refine own_by (T' := T7) (g' := (mkF m 37 #[.val (.int x1), .val (.int 1), .val (.ref r1), .val (.int 0), .val (.int 0), .unset] [])) (fun t k => XS.ifnonnullNo X7.here hx rfl (hb hby at_34) rfl k) ?_
    refine own_by (T' := T7) (g' := (mkF m 38 #[.val (.int x1), .val (.int 1), .val (.ref r1), .val (.int 0), .val (.int 0), .unset] [(.ref r1)])) (fun t k => XS.aloadN X7.here hx rfl (hb hby at_37) rfl rfl k) ?_
    obtain ⟨cq8, kq8, q8a, q8b, q8c⟩ := isOf hZ e7 E_r1
    obtain ⟨_, _, ⟨T8, L8, k8, n8⟩, -, X8, ⟨Lc8, hQ8, l8, y8, z8⟩, st8⟩ := X7.virtualBack hx (y := (⟨"com/example/hermit_crab/hermitcrab/engine/RowLocking", "getKeptOnMiss", "()Lcom/example/hermit_crab/hermitcrab/engine/LockMode;"⟩ : MethodName)) (z := (⟨"com/example/hermit_crab/hermitcrab/engine/RowLocking", "getKeptOnMiss", "()Lcom/example/hermit_crab/hermitcrab/engine/LockMode;"⟩ : MethodName)) hown (mvT hZ (hw _ (own_m 22 rfl))) (mvT hZ (hw _ (own_m 23 rfl))) (notFace_of_selects (args := #[]) (mvT hZ (hw _ (own_m 25 rfl)))) (mvT hZ (hw _ (own_m 25 rfl))) (mvT hZ (hw _ (own_m 24 rfl))) (by decide) (backOf (W := 0) (rm4n l Z a0 hw [] r1 h0 n0 Zle F_keptOnMiss_r1) hZ (hw _ (own_m 26 rfl)) (hw _ (own_m 6 rfl)) (by decide) (by decide)) q8a q8c (g := (mkF m 38 #[.val (.int x1), .val (.int 1), .val (.ref r1), .val (.int 0), .val (.int 0), .unset] [(.ref r1)])) rfl (by rw [hml]; rfl) (Steps.refl _) (argsL := []) (rest := []) (lenOf pd_2 rfl) rfl (own_le rfl) (hb hby at_38) (fun _ _ => ⟨rfl, e7, (by decide : 0 + 0 ≤ _), (by decide : 0 + 0 ≤ _)⟩)
    dsimp only [Pt.U, Pt.locs, Pt.cells, Pt.slots] at X8 l8 y8 z8 st8 hQ8
    subst l8 y8 z8
    obtain ⟨rfl, Nq8, e8⟩ := hQ8
    have N_ := Fr.app N_ Nq8
    refine own_by (T' := T8) (g' := (mkF m 41 #[.val (.int x1), .val (.int 1), .val (.ref r1), .val (.int 0), .val (.int 0), .unset] [.null])) (fun t k => st8.trans k) ?_
    refine own_by (T' := T8) (g' := (mkF m 48 #[.val (.int x1), .val (.int 1), .val (.ref r1), .val (.int 0), .val (.int 0), .unset] [])) (fun t k => XS.ifnullYes X8.here hx rfl (pc0 := 41) (pc' := 48) rfl (hb hby at_41) rfl (by decide) (by decide) k) ?_
    refine own_by (T' := T8) (g' := (mkF m 49 #[.val (.int x1), .val (.int 1), .val (.ref r1), .val (.int 0), .val (.int 0), .unset] [(.int 0)])) (fun t k => XS.iconst X8.here hx rfl (hb hby at_48) k) ?_
    refine own_by (T' := T8) (g' := (mkF m 51 #[.val (.int x1), .val (.int 1), .val (.ref r1), .val (.int 0), .val (.int 0), .val (.int 0)] [])) (fun t k => XS.istore X8.here hx rfl (hb hby at_49) rfl (l' := #[.val (.int x1), .val (.int 1), .val (.ref r1), .val (.int 0), .val (.int 0), .val (.int 0)]) rfl k) ?_
    refine own_by (T' := T8) (g' := (mkF m 53 #[.val (.int x1), .val (.int 1), .val (.ref r1), .val (.int 0), .val (.int 0), .val (.int 0)] [(.int 0)])) (fun t k => XS.iload X8.here hx rfl (hb hby at_51) rfl k) ?_
    refine own_by (T' := T8) (g' := (mkF m 54 #[.val (.int x1), .val (.int 1), .val (.ref r1), .val (.int 0), .val (.int 0), .val (.int 0)] [(.int 0), (.int 0)])) (fun t k => XS.iloadN X8.here hx rfl (hb hby at_53) rfl k) ?_
    refine own_by (T' := T8) (g' := (mkF m 57 #[.val (.int x1), .val (.int 1), .val (.ref r1), .val (.int 0), .val (.int 0), .val (.int 0)] [])) (fun t k => XS.icmpNo X8.here hx rfl (hb hby at_54) rfl (teq (by decide)).2 k) ?_
    refine own_by (T' := T8) (g' := (mkF m 59 #[.val (.int x1), .val (.int 1), .val (.ref r1), .val (.int 0), .val (.int 0), .val (.int 0)] [(.int 0)])) (fun t k => XS.iload X8.here hx rfl (hb hby at_57) rfl k) ?_
    refine own_by (T' := T8) (g' := (mkF m 61 #[.val (.int x1), .val (.int 1), .val (.ref r1), .val (.int 0), .val (.int 0), .val (.int 0)] [(.int 0), (.int 0)])) (fun t k => XS.iload X8.here hx rfl (hb hby at_59) rfl k) ?_
    refine own_by (T' := T8) (g' := (mkF m 64 #[.val (.int x1), .val (.int 1), .val (.ref r1), .val (.int 0), .val (.int 0), .val (.int 0)] [])) (fun t k => XS.icmpNo X8.here hx rfl (hb hby at_61) rfl (teq (by decide)).2 k) ?_
    refine own_by (T' := T8) (g' := (mkF m 65 #[.val (.int x1), .val (.int 1), .val (.ref r1), .val (.int 0), .val (.int 0), .val (.int 0)] [(.int 1)])) (fun t k => XS.iconst X8.here hx rfl (hb hby at_64) k) ?_
    refine own_by (T' := T8) (g' := (mkF m 69 #[.val (.int x1), .val (.int 1), .val (.ref r1), .val (.int 0), .val (.int 0), .val (.int 0)] [(.int 1)])) (fun t k => XS.goto X8.here hx rfl (pc0 := 65) (pc' := 69) rfl (hb hby at_65) (by decide) (by decide) k) ?_
    exact own_retN X8 hx (t := .boolean) Bd.notSynchronized Bd.returns (by simp) (hb hby at_69) (by decide) (by decide) (by rw [e8]; exact ⟨rfl, N_⟩)
  · rw [hk]
    refine own_by (T' := s₁) (g' := (mkF m 9 #[.val (.int x1), .val (.int 2), .unset, .unset, .unset, .unset] [(.int 2)])) (fun t k => XS.iloadN X0.here hx rfl (hb hby at_8) rfl k) ?_
    obtain ⟨_, _, ⟨T9, L9, k9, n9⟩, -, X9, ⟨Lc9, hQ9, l9, y9, z9⟩, st9⟩ := Jvm.LawKit.callS X0 hx (y := (⟨"com/example/hermit_crab/hermitcrab/engine/RowLockingKeepsLocksPinLaw", "pick", "(I)Lcom/example/hermit_crab/hermitcrab/engine/RowLocking;"⟩ : MethodName)) hown (mvT hZ (hw _ (own_m 1 rfl))) (mvT hZ (hw _ (own_m 2 rfl))) (mvT hZ (hw _ (own_m 3 rfl))) (mvT hZ (hw _ (own_m 4 rfl))) (by decide) (backOf (W := 0) (rm1 l Z a0 hw [] (2 : Int32) r0 r1 r2 r3 r4 r5 r6 r7 r8 h0 n0 Zle S_NONE S_COMMITTED_VERSION S_SNAPSHOT_VERSION S_SHARED_WHILE_EXAMINED S_SHARED_ON_MATCHED S_SHARED_WITH_KEY_RANGES S_EXCLUSIVE_ON_MATCHED S_EXCLUSIVE_ON_SNAPSHOT_MATCH S_EXCLUSIVE_WITH_KEY_RANGES) hZ (hw _ (own_m 4 rfl)) (hw _ (own_m 3 rfl)) (by decide) (by decide)) (g := (mkF m 9 #[.val (.int x1), .val (.int 2), .unset, .unset, .unset, .unset] [(.int 2)])) rfl (by rw [hml]; rfl) (argsL := [(.int 2)]) (rest := []) (lenOf pd_0 rfl) rfl (own_le rfl) (hb hby at_9) (fun _ _ => ⟨rfl, e0, (by decide : 0 + 0 ≤ _), (by decide : 0 + 0 ≤ _)⟩)
    dsimp only [Pt.U, Pt.locs, Pt.cells, Pt.slots] at X9 l9 y9 z9 st9 hQ9
    subst l9 y9 z9
    obtain ⟨rfl, Nq9, e9⟩ := hQ9
    have N_ := Fr.app N_ Nq9
    refine own_by (T' := T9) (g' := (mkF m 12 #[.val (.int x1), .val (.int 2), .unset, .unset, .unset, .unset] [(.ref (own_pick (2 : Int32) r0 r1 r2 r3 r4 r5 r6 r7 r8))])) (fun t k => st9 _ k) ?_
    rw [show (own_pick (2 : Int32) r0 r1 r2 r3 r4 r5 r6 r7 r8) = r2 from by simp [own_pick]]
    refine own_by (T' := T9) (g' := (mkF m 13 #[.val (.int x1), .val (.int 2), .val (.ref r2), .unset, .unset, .unset] [])) (fun t k => XS.astoreN X9.here hx rfl (hb hby at_12) rfl rfl (l' := #[.val (.int x1), .val (.int 2), .val (.ref r2), .unset, .unset, .unset]) rfl k) ?_
    refine own_by (T' := T9) (g' := (mkF m 14 #[.val (.int x1), .val (.int 2), .val (.ref r2), .unset, .unset, .unset] [(.int 2)])) (fun t k => XS.iloadN X9.here hx rfl (hb hby at_13) rfl k) ?_
    refine own_by (T' := T9) (g' := (mkF m 15 #[.val (.int x1), .val (.int 2), .val (.ref r2), .unset, .unset, .unset] [(.int 4), (.int 2)])) (fun t k => XS.iconst X9.here hx rfl (hb hby at_14) k) ?_
    refine own_by (T' := T9) (g' := (mkF m 22 #[.val (.int x1), .val (.int 2), .val (.ref r2), .unset, .unset, .unset] [])) (fun t k => XS.icmpYes X9.here hx rfl (pc0 := 15) (pc' := 22) rfl (hb hby at_15) rfl (tlt (by decide)).1 (by decide) (by decide) k) ?_
    refine own_by (T' := T9) (g' := (mkF m 23 #[.val (.int x1), .val (.int 2), .val (.ref r2), .unset, .unset, .unset] [(.int 0)])) (fun t k => XS.iconst X9.here hx rfl (hb hby at_22) k) ?_
    refine own_by (T' := T9) (g' := (mkF m 24 #[.val (.int x1), .val (.int 2), .val (.ref r2), .val (.int 0), .unset, .unset] [])) (fun t k => XS.istoreN X9.here hx rfl (hb hby at_23) rfl (l' := #[.val (.int x1), .val (.int 2), .val (.ref r2), .val (.int 0), .unset, .unset]) rfl k) ?_
    refine own_by (T' := T9) (g' := (mkF m 25 #[.val (.int x1), .val (.int 2), .val (.ref r2), .val (.int 0), .unset, .unset] [(.ref r2)])) (fun t k => XS.aloadN X9.here hx rfl (hb hby at_24) rfl rfl k) ?_
    obtain ⟨cq10, kq10, q10a, q10b, q10c⟩ := isOf hZ e9 E_r2
    obtain ⟨_, _, ⟨T10, L10, k10, n10⟩, -, X10, ⟨Lc10, hQ10, l10, y10, z10⟩, st10⟩ := X9.virtualBack hx (y := (⟨"com/example/hermit_crab/hermitcrab/engine/RowLocking", "keepsLocks", "()Z"⟩ : MethodName)) (z := (⟨"com/example/hermit_crab/hermitcrab/engine/RowLocking", "keepsLocks", "()Z"⟩ : MethodName)) hown (mvT hZ (hw _ (own_m 8 rfl))) (mvT hZ (hw _ (own_m 9 rfl))) (notFace_of_selects (args := #[]) (mvT hZ (hw _ (own_m 11 rfl)))) (mvT hZ (hw _ (own_m 11 rfl))) (mvT hZ (hw _ (own_m 10 rfl))) (by decide) (backOf (W := 0) (rm2n l Z a0 hw [] r2 h0 n0 Zle F_keptOnMatch_r2 F_keptOnMiss_r2) hZ (hw _ (own_m 12 rfl)) (hw _ (own_m 6 rfl)) (by decide) (by decide)) q10a q10c (g := (mkF m 25 #[.val (.int x1), .val (.int 2), .val (.ref r2), .val (.int 0), .unset, .unset] [(.ref r2)])) rfl (by rw [hml]; rfl) (Steps.refl _) (argsL := []) (rest := []) (lenOf pd_1 rfl) rfl (own_le rfl) (hb hby at_25) (fun _ _ => ⟨rfl, e9, (by decide : 0 + 0 ≤ _), (by decide : 0 + 0 ≤ _)⟩)
    dsimp only [Pt.U, Pt.locs, Pt.cells, Pt.slots] at X10 l10 y10 z10 st10 hQ10
    subst l10 y10 z10
    obtain ⟨rfl, Nq10, e10⟩ := hQ10
    have N_ := Fr.app N_ Nq10
    refine own_by (T' := T10) (g' := (mkF m 28 #[.val (.int x1), .val (.int 2), .val (.ref r2), .val (.int 0), .unset, .unset] [(.int 0)])) (fun t k => st10.trans k) ?_
    refine own_by (T' := T10) (g' := (mkF m 30 #[.val (.int x1), .val (.int 2), .val (.ref r2), .val (.int 0), .val (.int 0), .unset] [])) (fun t k => XS.istore X10.here hx rfl (hb hby at_28) rfl (l' := #[.val (.int x1), .val (.int 2), .val (.ref r2), .val (.int 0), .val (.int 0), .unset]) rfl k) ?_
    refine own_by (T' := T10) (g' := (mkF m 31 #[.val (.int x1), .val (.int 2), .val (.ref r2), .val (.int 0), .val (.int 0), .unset] [(.ref r2)])) (fun t k => XS.aloadN X10.here hx rfl (hb hby at_30) rfl rfl k) ?_
    obtain ⟨cq11, kq11, q11a, q11b, q11c⟩ := isOf hZ e10 E_r2
    obtain ⟨_, _, ⟨T11, L11, k11, n11⟩, -, X11, ⟨Lc11, hQ11, l11, y11, z11⟩, st11⟩ := X10.virtualBack hx (y := (⟨"com/example/hermit_crab/hermitcrab/engine/RowLocking", "getKeptOnMatch", "()Lcom/example/hermit_crab/hermitcrab/engine/LockMode;"⟩ : MethodName)) (z := (⟨"com/example/hermit_crab/hermitcrab/engine/RowLocking", "getKeptOnMatch", "()Lcom/example/hermit_crab/hermitcrab/engine/LockMode;"⟩ : MethodName)) hown (mvT hZ (hw _ (own_m 17 rfl))) (mvT hZ (hw _ (own_m 18 rfl))) (notFace_of_selects (args := #[]) (mvT hZ (hw _ (own_m 20 rfl)))) (mvT hZ (hw _ (own_m 20 rfl))) (mvT hZ (hw _ (own_m 19 rfl))) (by decide) (backOf (W := 0) (rm3n l Z a0 hw [] r2 h0 n0 Zle F_keptOnMatch_r2) hZ (hw _ (own_m 21 rfl)) (hw _ (own_m 6 rfl)) (by decide) (by decide)) q11a q11c (g := (mkF m 31 #[.val (.int x1), .val (.int 2), .val (.ref r2), .val (.int 0), .val (.int 0), .unset] [(.ref r2)])) rfl (by rw [hml]; rfl) (Steps.refl _) (argsL := []) (rest := []) (lenOf pd_2 rfl) rfl (own_le rfl) (hb hby at_31) (fun _ _ => ⟨rfl, e10, (by decide : 0 + 0 ≤ _), (by decide : 0 + 0 ≤ _)⟩)
    dsimp only [Pt.U, Pt.locs, Pt.cells, Pt.slots] at X11 l11 y11 z11 st11 hQ11
    subst l11 y11 z11
    obtain ⟨rfl, Nq11, e11⟩ := hQ11
    have N_ := Fr.app N_ Nq11
    refine own_by (T' := T11) (g' := (mkF m 34 #[.val (.int x1), .val (.int 2), .val (.ref r2), .val (.int 0), .val (.int 0), .unset] [.null])) (fun t k => st11.trans k) ?_
    refine own_by (T' := T11) (g' := (mkF m 37 #[.val (.int x1), .val (.int 2), .val (.ref r2), .val (.int 0), .val (.int 0), .unset] [])) (fun t k => XS.ifnonnullNo X11.here hx rfl (hb hby at_34) rfl k) ?_
    refine own_by (T' := T11) (g' := (mkF m 38 #[.val (.int x1), .val (.int 2), .val (.ref r2), .val (.int 0), .val (.int 0), .unset] [(.ref r2)])) (fun t k => XS.aloadN X11.here hx rfl (hb hby at_37) rfl rfl k) ?_
    obtain ⟨cq12, kq12, q12a, q12b, q12c⟩ := isOf hZ e11 E_r2
    obtain ⟨_, _, ⟨T12, L12, k12, n12⟩, -, X12, ⟨Lc12, hQ12, l12, y12, z12⟩, st12⟩ := X11.virtualBack hx (y := (⟨"com/example/hermit_crab/hermitcrab/engine/RowLocking", "getKeptOnMiss", "()Lcom/example/hermit_crab/hermitcrab/engine/LockMode;"⟩ : MethodName)) (z := (⟨"com/example/hermit_crab/hermitcrab/engine/RowLocking", "getKeptOnMiss", "()Lcom/example/hermit_crab/hermitcrab/engine/LockMode;"⟩ : MethodName)) hown (mvT hZ (hw _ (own_m 22 rfl))) (mvT hZ (hw _ (own_m 23 rfl))) (notFace_of_selects (args := #[]) (mvT hZ (hw _ (own_m 25 rfl)))) (mvT hZ (hw _ (own_m 25 rfl))) (mvT hZ (hw _ (own_m 24 rfl))) (by decide) (backOf (W := 0) (rm4n l Z a0 hw [] r2 h0 n0 Zle F_keptOnMiss_r2) hZ (hw _ (own_m 26 rfl)) (hw _ (own_m 6 rfl)) (by decide) (by decide)) q12a q12c (g := (mkF m 38 #[.val (.int x1), .val (.int 2), .val (.ref r2), .val (.int 0), .val (.int 0), .unset] [(.ref r2)])) rfl (by rw [hml]; rfl) (Steps.refl _) (argsL := []) (rest := []) (lenOf pd_2 rfl) rfl (own_le rfl) (hb hby at_38) (fun _ _ => ⟨rfl, e11, (by decide : 0 + 0 ≤ _), (by decide : 0 + 0 ≤ _)⟩)
    dsimp only [Pt.U, Pt.locs, Pt.cells, Pt.slots] at X12 l12 y12 z12 st12 hQ12
    subst l12 y12 z12
    obtain ⟨rfl, Nq12, e12⟩ := hQ12
    have N_ := Fr.app N_ Nq12
    refine own_by (T' := T12) (g' := (mkF m 41 #[.val (.int x1), .val (.int 2), .val (.ref r2), .val (.int 0), .val (.int 0), .unset] [.null])) (fun t k => st12.trans k) ?_
    refine own_by (T' := T12) (g' := (mkF m 48 #[.val (.int x1), .val (.int 2), .val (.ref r2), .val (.int 0), .val (.int 0), .unset] [])) (fun t k => XS.ifnullYes X12.here hx rfl (pc0 := 41) (pc' := 48) rfl (hb hby at_41) rfl (by decide) (by decide) k) ?_
    refine own_by (T' := T12) (g' := (mkF m 49 #[.val (.int x1), .val (.int 2), .val (.ref r2), .val (.int 0), .val (.int 0), .unset] [(.int 0)])) (fun t k => XS.iconst X12.here hx rfl (hb hby at_48) k) ?_
    refine own_by (T' := T12) (g' := (mkF m 51 #[.val (.int x1), .val (.int 2), .val (.ref r2), .val (.int 0), .val (.int 0), .val (.int 0)] [])) (fun t k => XS.istore X12.here hx rfl (hb hby at_49) rfl (l' := #[.val (.int x1), .val (.int 2), .val (.ref r2), .val (.int 0), .val (.int 0), .val (.int 0)]) rfl k) ?_
    refine own_by (T' := T12) (g' := (mkF m 53 #[.val (.int x1), .val (.int 2), .val (.ref r2), .val (.int 0), .val (.int 0), .val (.int 0)] [(.int 0)])) (fun t k => XS.iload X12.here hx rfl (hb hby at_51) rfl k) ?_
    refine own_by (T' := T12) (g' := (mkF m 54 #[.val (.int x1), .val (.int 2), .val (.ref r2), .val (.int 0), .val (.int 0), .val (.int 0)] [(.int 0), (.int 0)])) (fun t k => XS.iloadN X12.here hx rfl (hb hby at_53) rfl k) ?_
    refine own_by (T' := T12) (g' := (mkF m 57 #[.val (.int x1), .val (.int 2), .val (.ref r2), .val (.int 0), .val (.int 0), .val (.int 0)] [])) (fun t k => XS.icmpNo X12.here hx rfl (hb hby at_54) rfl (teq (by decide)).2 k) ?_
    refine own_by (T' := T12) (g' := (mkF m 59 #[.val (.int x1), .val (.int 2), .val (.ref r2), .val (.int 0), .val (.int 0), .val (.int 0)] [(.int 0)])) (fun t k => XS.iload X12.here hx rfl (hb hby at_57) rfl k) ?_
    refine own_by (T' := T12) (g' := (mkF m 61 #[.val (.int x1), .val (.int 2), .val (.ref r2), .val (.int 0), .val (.int 0), .val (.int 0)] [(.int 0), (.int 0)])) (fun t k => XS.iload X12.here hx rfl (hb hby at_59) rfl k) ?_
    refine own_by (T' := T12) (g' := (mkF m 64 #[.val (.int x1), .val (.int 2), .val (.ref r2), .val (.int 0), .val (.int 0), .val (.int 0)] [])) (fun t k => XS.icmpNo X12.here hx rfl (hb hby at_61) rfl (teq (by decide)).2 k) ?_
    refine own_by (T' := T12) (g' := (mkF m 65 #[.val (.int x1), .val (.int 2), .val (.ref r2), .val (.int 0), .val (.int 0), .val (.int 0)] [(.int 1)])) (fun t k => XS.iconst X12.here hx rfl (hb hby at_64) k) ?_
    refine own_by (T' := T12) (g' := (mkF m 69 #[.val (.int x1), .val (.int 2), .val (.ref r2), .val (.int 0), .val (.int 0), .val (.int 0)] [(.int 1)])) (fun t k => XS.goto X12.here hx rfl (pc0 := 65) (pc' := 69) rfl (hb hby at_65) (by decide) (by decide) k) ?_
    exact own_retN X12 hx (t := .boolean) Bd.notSynchronized Bd.returns (by simp) (hb hby at_69) (by decide) (by decide) (by rw [e12]; exact ⟨rfl, N_⟩)
  · rw [hk]
    refine own_by (T' := s₁) (g' := (mkF m 9 #[.val (.int x1), .val (.int 3), .unset, .unset, .unset, .unset] [(.int 3)])) (fun t k => XS.iloadN X0.here hx rfl (hb hby at_8) rfl k) ?_
    obtain ⟨_, _, ⟨T13, L13, k13, n13⟩, -, X13, ⟨Lc13, hQ13, l13, y13, z13⟩, st13⟩ := Jvm.LawKit.callS X0 hx (y := (⟨"com/example/hermit_crab/hermitcrab/engine/RowLockingKeepsLocksPinLaw", "pick", "(I)Lcom/example/hermit_crab/hermitcrab/engine/RowLocking;"⟩ : MethodName)) hown (mvT hZ (hw _ (own_m 1 rfl))) (mvT hZ (hw _ (own_m 2 rfl))) (mvT hZ (hw _ (own_m 3 rfl))) (mvT hZ (hw _ (own_m 4 rfl))) (by decide) (backOf (W := 0) (rm1 l Z a0 hw [] (3 : Int32) r0 r1 r2 r3 r4 r5 r6 r7 r8 h0 n0 Zle S_NONE S_COMMITTED_VERSION S_SNAPSHOT_VERSION S_SHARED_WHILE_EXAMINED S_SHARED_ON_MATCHED S_SHARED_WITH_KEY_RANGES S_EXCLUSIVE_ON_MATCHED S_EXCLUSIVE_ON_SNAPSHOT_MATCH S_EXCLUSIVE_WITH_KEY_RANGES) hZ (hw _ (own_m 4 rfl)) (hw _ (own_m 3 rfl)) (by decide) (by decide)) (g := (mkF m 9 #[.val (.int x1), .val (.int 3), .unset, .unset, .unset, .unset] [(.int 3)])) rfl (by rw [hml]; rfl) (argsL := [(.int 3)]) (rest := []) (lenOf pd_0 rfl) rfl (own_le rfl) (hb hby at_9) (fun _ _ => ⟨rfl, e0, (by decide : 0 + 0 ≤ _), (by decide : 0 + 0 ≤ _)⟩)
    dsimp only [Pt.U, Pt.locs, Pt.cells, Pt.slots] at X13 l13 y13 z13 st13 hQ13
    subst l13 y13 z13
    obtain ⟨rfl, Nq13, e13⟩ := hQ13
    have N_ := Fr.app N_ Nq13
    refine own_by (T' := T13) (g' := (mkF m 12 #[.val (.int x1), .val (.int 3), .unset, .unset, .unset, .unset] [(.ref (own_pick (3 : Int32) r0 r1 r2 r3 r4 r5 r6 r7 r8))])) (fun t k => st13 _ k) ?_
    rw [show (own_pick (3 : Int32) r0 r1 r2 r3 r4 r5 r6 r7 r8) = r3 from by simp [own_pick]]
    refine own_by (T' := T13) (g' := (mkF m 13 #[.val (.int x1), .val (.int 3), .val (.ref r3), .unset, .unset, .unset] [])) (fun t k => XS.astoreN X13.here hx rfl (hb hby at_12) rfl rfl (l' := #[.val (.int x1), .val (.int 3), .val (.ref r3), .unset, .unset, .unset]) rfl k) ?_
    refine own_by (T' := T13) (g' := (mkF m 14 #[.val (.int x1), .val (.int 3), .val (.ref r3), .unset, .unset, .unset] [(.int 3)])) (fun t k => XS.iloadN X13.here hx rfl (hb hby at_13) rfl k) ?_
    refine own_by (T' := T13) (g' := (mkF m 15 #[.val (.int x1), .val (.int 3), .val (.ref r3), .unset, .unset, .unset] [(.int 4), (.int 3)])) (fun t k => XS.iconst X13.here hx rfl (hb hby at_14) k) ?_
    refine own_by (T' := T13) (g' := (mkF m 22 #[.val (.int x1), .val (.int 3), .val (.ref r3), .unset, .unset, .unset] [])) (fun t k => XS.icmpYes X13.here hx rfl (pc0 := 15) (pc' := 22) rfl (hb hby at_15) rfl (tlt (by decide)).1 (by decide) (by decide) k) ?_
    refine own_by (T' := T13) (g' := (mkF m 23 #[.val (.int x1), .val (.int 3), .val (.ref r3), .unset, .unset, .unset] [(.int 0)])) (fun t k => XS.iconst X13.here hx rfl (hb hby at_22) k) ?_
    refine own_by (T' := T13) (g' := (mkF m 24 #[.val (.int x1), .val (.int 3), .val (.ref r3), .val (.int 0), .unset, .unset] [])) (fun t k => XS.istoreN X13.here hx rfl (hb hby at_23) rfl (l' := #[.val (.int x1), .val (.int 3), .val (.ref r3), .val (.int 0), .unset, .unset]) rfl k) ?_
    refine own_by (T' := T13) (g' := (mkF m 25 #[.val (.int x1), .val (.int 3), .val (.ref r3), .val (.int 0), .unset, .unset] [(.ref r3)])) (fun t k => XS.aloadN X13.here hx rfl (hb hby at_24) rfl rfl k) ?_
    obtain ⟨cq14, kq14, q14a, q14b, q14c⟩ := isOf hZ e13 E_r3
    obtain ⟨_, _, ⟨T14, L14, k14, n14⟩, -, X14, ⟨Lc14, hQ14, l14, y14, z14⟩, st14⟩ := X13.virtualBack hx (y := (⟨"com/example/hermit_crab/hermitcrab/engine/RowLocking", "keepsLocks", "()Z"⟩ : MethodName)) (z := (⟨"com/example/hermit_crab/hermitcrab/engine/RowLocking", "keepsLocks", "()Z"⟩ : MethodName)) hown (mvT hZ (hw _ (own_m 8 rfl))) (mvT hZ (hw _ (own_m 9 rfl))) (notFace_of_selects (args := #[]) (mvT hZ (hw _ (own_m 11 rfl)))) (mvT hZ (hw _ (own_m 11 rfl))) (mvT hZ (hw _ (own_m 10 rfl))) (by decide) (backOf (W := 0) (rm2n l Z a0 hw [] r3 h0 n0 Zle F_keptOnMatch_r3 F_keptOnMiss_r3) hZ (hw _ (own_m 12 rfl)) (hw _ (own_m 6 rfl)) (by decide) (by decide)) q14a q14c (g := (mkF m 25 #[.val (.int x1), .val (.int 3), .val (.ref r3), .val (.int 0), .unset, .unset] [(.ref r3)])) rfl (by rw [hml]; rfl) (Steps.refl _) (argsL := []) (rest := []) (lenOf pd_1 rfl) rfl (own_le rfl) (hb hby at_25) (fun _ _ => ⟨rfl, e13, (by decide : 0 + 0 ≤ _), (by decide : 0 + 0 ≤ _)⟩)
    dsimp only [Pt.U, Pt.locs, Pt.cells, Pt.slots] at X14 l14 y14 z14 st14 hQ14
    subst l14 y14 z14
    obtain ⟨rfl, Nq14, e14⟩ := hQ14
    have N_ := Fr.app N_ Nq14
    refine own_by (T' := T14) (g' := (mkF m 28 #[.val (.int x1), .val (.int 3), .val (.ref r3), .val (.int 0), .unset, .unset] [(.int 0)])) (fun t k => st14.trans k) ?_
    refine own_by (T' := T14) (g' := (mkF m 30 #[.val (.int x1), .val (.int 3), .val (.ref r3), .val (.int 0), .val (.int 0), .unset] [])) (fun t k => XS.istore X14.here hx rfl (hb hby at_28) rfl (l' := #[.val (.int x1), .val (.int 3), .val (.ref r3), .val (.int 0), .val (.int 0), .unset]) rfl k) ?_
    refine own_by (T' := T14) (g' := (mkF m 31 #[.val (.int x1), .val (.int 3), .val (.ref r3), .val (.int 0), .val (.int 0), .unset] [(.ref r3)])) (fun t k => XS.aloadN X14.here hx rfl (hb hby at_30) rfl rfl k) ?_
    obtain ⟨cq15, kq15, q15a, q15b, q15c⟩ := isOf hZ e14 E_r3
    obtain ⟨_, _, ⟨T15, L15, k15, n15⟩, -, X15, ⟨Lc15, hQ15, l15, y15, z15⟩, st15⟩ := X14.virtualBack hx (y := (⟨"com/example/hermit_crab/hermitcrab/engine/RowLocking", "getKeptOnMatch", "()Lcom/example/hermit_crab/hermitcrab/engine/LockMode;"⟩ : MethodName)) (z := (⟨"com/example/hermit_crab/hermitcrab/engine/RowLocking", "getKeptOnMatch", "()Lcom/example/hermit_crab/hermitcrab/engine/LockMode;"⟩ : MethodName)) hown (mvT hZ (hw _ (own_m 17 rfl))) (mvT hZ (hw _ (own_m 18 rfl))) (notFace_of_selects (args := #[]) (mvT hZ (hw _ (own_m 20 rfl)))) (mvT hZ (hw _ (own_m 20 rfl))) (mvT hZ (hw _ (own_m 19 rfl))) (by decide) (backOf (W := 0) (rm3n l Z a0 hw [] r3 h0 n0 Zle F_keptOnMatch_r3) hZ (hw _ (own_m 21 rfl)) (hw _ (own_m 6 rfl)) (by decide) (by decide)) q15a q15c (g := (mkF m 31 #[.val (.int x1), .val (.int 3), .val (.ref r3), .val (.int 0), .val (.int 0), .unset] [(.ref r3)])) rfl (by rw [hml]; rfl) (Steps.refl _) (argsL := []) (rest := []) (lenOf pd_2 rfl) rfl (own_le rfl) (hb hby at_31) (fun _ _ => ⟨rfl, e14, (by decide : 0 + 0 ≤ _), (by decide : 0 + 0 ≤ _)⟩)
    dsimp only [Pt.U, Pt.locs, Pt.cells, Pt.slots] at X15 l15 y15 z15 st15 hQ15
    subst l15 y15 z15
    obtain ⟨rfl, Nq15, e15⟩ := hQ15
    have N_ := Fr.app N_ Nq15
    refine own_by (T' := T15) (g' := (mkF m 34 #[.val (.int x1), .val (.int 3), .val (.ref r3), .val (.int 0), .val (.int 0), .unset] [.null])) (fun t k => st15.trans k) ?_
    refine own_by (T' := T15) (g' := (mkF m 37 #[.val (.int x1), .val (.int 3), .val (.ref r3), .val (.int 0), .val (.int 0), .unset] [])) (fun t k => XS.ifnonnullNo X15.here hx rfl (hb hby at_34) rfl k) ?_
    refine own_by (T' := T15) (g' := (mkF m 38 #[.val (.int x1), .val (.int 3), .val (.ref r3), .val (.int 0), .val (.int 0), .unset] [(.ref r3)])) (fun t k => XS.aloadN X15.here hx rfl (hb hby at_37) rfl rfl k) ?_
    obtain ⟨cq16, kq16, q16a, q16b, q16c⟩ := isOf hZ e15 E_r3
    obtain ⟨_, _, ⟨T16, L16, k16, n16⟩, -, X16, ⟨Lc16, hQ16, l16, y16, z16⟩, st16⟩ := X15.virtualBack hx (y := (⟨"com/example/hermit_crab/hermitcrab/engine/RowLocking", "getKeptOnMiss", "()Lcom/example/hermit_crab/hermitcrab/engine/LockMode;"⟩ : MethodName)) (z := (⟨"com/example/hermit_crab/hermitcrab/engine/RowLocking", "getKeptOnMiss", "()Lcom/example/hermit_crab/hermitcrab/engine/LockMode;"⟩ : MethodName)) hown (mvT hZ (hw _ (own_m 22 rfl))) (mvT hZ (hw _ (own_m 23 rfl))) (notFace_of_selects (args := #[]) (mvT hZ (hw _ (own_m 25 rfl)))) (mvT hZ (hw _ (own_m 25 rfl))) (mvT hZ (hw _ (own_m 24 rfl))) (by decide) (backOf (W := 0) (rm4n l Z a0 hw [] r3 h0 n0 Zle F_keptOnMiss_r3) hZ (hw _ (own_m 26 rfl)) (hw _ (own_m 6 rfl)) (by decide) (by decide)) q16a q16c (g := (mkF m 38 #[.val (.int x1), .val (.int 3), .val (.ref r3), .val (.int 0), .val (.int 0), .unset] [(.ref r3)])) rfl (by rw [hml]; rfl) (Steps.refl _) (argsL := []) (rest := []) (lenOf pd_2 rfl) rfl (own_le rfl) (hb hby at_38) (fun _ _ => ⟨rfl, e15, (by decide : 0 + 0 ≤ _), (by decide : 0 + 0 ≤ _)⟩)
    dsimp only [Pt.U, Pt.locs, Pt.cells, Pt.slots] at X16 l16 y16 z16 st16 hQ16
    subst l16 y16 z16
    obtain ⟨rfl, Nq16, e16⟩ := hQ16
    have N_ := Fr.app N_ Nq16
    refine own_by (T' := T16) (g' := (mkF m 41 #[.val (.int x1), .val (.int 3), .val (.ref r3), .val (.int 0), .val (.int 0), .unset] [.null])) (fun t k => st16.trans k) ?_
    refine own_by (T' := T16) (g' := (mkF m 48 #[.val (.int x1), .val (.int 3), .val (.ref r3), .val (.int 0), .val (.int 0), .unset] [])) (fun t k => XS.ifnullYes X16.here hx rfl (pc0 := 41) (pc' := 48) rfl (hb hby at_41) rfl (by decide) (by decide) k) ?_
    refine own_by (T' := T16) (g' := (mkF m 49 #[.val (.int x1), .val (.int 3), .val (.ref r3), .val (.int 0), .val (.int 0), .unset] [(.int 0)])) (fun t k => XS.iconst X16.here hx rfl (hb hby at_48) k) ?_
    refine own_by (T' := T16) (g' := (mkF m 51 #[.val (.int x1), .val (.int 3), .val (.ref r3), .val (.int 0), .val (.int 0), .val (.int 0)] [])) (fun t k => XS.istore X16.here hx rfl (hb hby at_49) rfl (l' := #[.val (.int x1), .val (.int 3), .val (.ref r3), .val (.int 0), .val (.int 0), .val (.int 0)]) rfl k) ?_
    refine own_by (T' := T16) (g' := (mkF m 53 #[.val (.int x1), .val (.int 3), .val (.ref r3), .val (.int 0), .val (.int 0), .val (.int 0)] [(.int 0)])) (fun t k => XS.iload X16.here hx rfl (hb hby at_51) rfl k) ?_
    refine own_by (T' := T16) (g' := (mkF m 54 #[.val (.int x1), .val (.int 3), .val (.ref r3), .val (.int 0), .val (.int 0), .val (.int 0)] [(.int 0), (.int 0)])) (fun t k => XS.iloadN X16.here hx rfl (hb hby at_53) rfl k) ?_
    refine own_by (T' := T16) (g' := (mkF m 57 #[.val (.int x1), .val (.int 3), .val (.ref r3), .val (.int 0), .val (.int 0), .val (.int 0)] [])) (fun t k => XS.icmpNo X16.here hx rfl (hb hby at_54) rfl (teq (by decide)).2 k) ?_
    refine own_by (T' := T16) (g' := (mkF m 59 #[.val (.int x1), .val (.int 3), .val (.ref r3), .val (.int 0), .val (.int 0), .val (.int 0)] [(.int 0)])) (fun t k => XS.iload X16.here hx rfl (hb hby at_57) rfl k) ?_
    refine own_by (T' := T16) (g' := (mkF m 61 #[.val (.int x1), .val (.int 3), .val (.ref r3), .val (.int 0), .val (.int 0), .val (.int 0)] [(.int 0), (.int 0)])) (fun t k => XS.iload X16.here hx rfl (hb hby at_59) rfl k) ?_
    refine own_by (T' := T16) (g' := (mkF m 64 #[.val (.int x1), .val (.int 3), .val (.ref r3), .val (.int 0), .val (.int 0), .val (.int 0)] [])) (fun t k => XS.icmpNo X16.here hx rfl (hb hby at_61) rfl (teq (by decide)).2 k) ?_
    refine own_by (T' := T16) (g' := (mkF m 65 #[.val (.int x1), .val (.int 3), .val (.ref r3), .val (.int 0), .val (.int 0), .val (.int 0)] [(.int 1)])) (fun t k => XS.iconst X16.here hx rfl (hb hby at_64) k) ?_
    refine own_by (T' := T16) (g' := (mkF m 69 #[.val (.int x1), .val (.int 3), .val (.ref r3), .val (.int 0), .val (.int 0), .val (.int 0)] [(.int 1)])) (fun t k => XS.goto X16.here hx rfl (pc0 := 65) (pc' := 69) rfl (hb hby at_65) (by decide) (by decide) k) ?_
    exact own_retN X16 hx (t := .boolean) Bd.notSynchronized Bd.returns (by simp) (hb hby at_69) (by decide) (by decide) (by rw [e16]; exact ⟨rfl, N_⟩)
  · rw [hk]
    refine own_by (T' := s₁) (g' := (mkF m 9 #[.val (.int x1), .val (.int 4), .unset, .unset, .unset, .unset] [(.int 4)])) (fun t k => XS.iloadN X0.here hx rfl (hb hby at_8) rfl k) ?_
    obtain ⟨_, _, ⟨T17, L17, k17, n17⟩, -, X17, ⟨Lc17, hQ17, l17, y17, z17⟩, st17⟩ := Jvm.LawKit.callS X0 hx (y := (⟨"com/example/hermit_crab/hermitcrab/engine/RowLockingKeepsLocksPinLaw", "pick", "(I)Lcom/example/hermit_crab/hermitcrab/engine/RowLocking;"⟩ : MethodName)) hown (mvT hZ (hw _ (own_m 1 rfl))) (mvT hZ (hw _ (own_m 2 rfl))) (mvT hZ (hw _ (own_m 3 rfl))) (mvT hZ (hw _ (own_m 4 rfl))) (by decide) (backOf (W := 0) (rm1 l Z a0 hw [] (4 : Int32) r0 r1 r2 r3 r4 r5 r6 r7 r8 h0 n0 Zle S_NONE S_COMMITTED_VERSION S_SNAPSHOT_VERSION S_SHARED_WHILE_EXAMINED S_SHARED_ON_MATCHED S_SHARED_WITH_KEY_RANGES S_EXCLUSIVE_ON_MATCHED S_EXCLUSIVE_ON_SNAPSHOT_MATCH S_EXCLUSIVE_WITH_KEY_RANGES) hZ (hw _ (own_m 4 rfl)) (hw _ (own_m 3 rfl)) (by decide) (by decide)) (g := (mkF m 9 #[.val (.int x1), .val (.int 4), .unset, .unset, .unset, .unset] [(.int 4)])) rfl (by rw [hml]; rfl) (argsL := [(.int 4)]) (rest := []) (lenOf pd_0 rfl) rfl (own_le rfl) (hb hby at_9) (fun _ _ => ⟨rfl, e0, (by decide : 0 + 0 ≤ _), (by decide : 0 + 0 ≤ _)⟩)
    dsimp only [Pt.U, Pt.locs, Pt.cells, Pt.slots] at X17 l17 y17 z17 st17 hQ17
    subst l17 y17 z17
    obtain ⟨rfl, Nq17, e17⟩ := hQ17
    have N_ := Fr.app N_ Nq17
    refine own_by (T' := T17) (g' := (mkF m 12 #[.val (.int x1), .val (.int 4), .unset, .unset, .unset, .unset] [(.ref (own_pick (4 : Int32) r0 r1 r2 r3 r4 r5 r6 r7 r8))])) (fun t k => st17 _ k) ?_
    rw [show (own_pick (4 : Int32) r0 r1 r2 r3 r4 r5 r6 r7 r8) = r4 from by simp [own_pick]]
    refine own_by (T' := T17) (g' := (mkF m 13 #[.val (.int x1), .val (.int 4), .val (.ref r4), .unset, .unset, .unset] [])) (fun t k => XS.astoreN X17.here hx rfl (hb hby at_12) rfl rfl (l' := #[.val (.int x1), .val (.int 4), .val (.ref r4), .unset, .unset, .unset]) rfl k) ?_
    refine own_by (T' := T17) (g' := (mkF m 14 #[.val (.int x1), .val (.int 4), .val (.ref r4), .unset, .unset, .unset] [(.int 4)])) (fun t k => XS.iloadN X17.here hx rfl (hb hby at_13) rfl k) ?_
    refine own_by (T' := T17) (g' := (mkF m 15 #[.val (.int x1), .val (.int 4), .val (.ref r4), .unset, .unset, .unset] [(.int 4), (.int 4)])) (fun t k => XS.iconst X17.here hx rfl (hb hby at_14) k) ?_
    refine own_by (T' := T17) (g' := (mkF m 18 #[.val (.int x1), .val (.int 4), .val (.ref r4), .unset, .unset, .unset] [])) (fun t k => XS.icmpNo X17.here hx rfl (hb hby at_15) rfl (flt (by decide)).1 k) ?_
    refine own_by (T' := T17) (g' := (mkF m 19 #[.val (.int x1), .val (.int 4), .val (.ref r4), .unset, .unset, .unset] [(.int 1)])) (fun t k => XS.iconst X17.here hx rfl (hb hby at_18) k) ?_
    refine own_by (T' := T17) (g' := (mkF m 23 #[.val (.int x1), .val (.int 4), .val (.ref r4), .unset, .unset, .unset] [(.int 1)])) (fun t k => XS.goto X17.here hx rfl (pc0 := 19) (pc' := 23) rfl (hb hby at_19) (by decide) (by decide) k) ?_
    refine own_by (T' := T17) (g' := (mkF m 24 #[.val (.int x1), .val (.int 4), .val (.ref r4), .val (.int 1), .unset, .unset] [])) (fun t k => XS.istoreN X17.here hx rfl (hb hby at_23) rfl (l' := #[.val (.int x1), .val (.int 4), .val (.ref r4), .val (.int 1), .unset, .unset]) rfl k) ?_
    refine own_by (T' := T17) (g' := (mkF m 25 #[.val (.int x1), .val (.int 4), .val (.ref r4), .val (.int 1), .unset, .unset] [(.ref r4)])) (fun t k => XS.aloadN X17.here hx rfl (hb hby at_24) rfl rfl k) ?_
    obtain ⟨cq18, kq18, q18a, q18b, q18c⟩ := isOf hZ e17 E_r4
    obtain ⟨_, _, ⟨T18, L18, k18, n18⟩, -, X18, ⟨Lc18, hQ18, l18, y18, z18⟩, st18⟩ := X17.virtualBack hx (y := (⟨"com/example/hermit_crab/hermitcrab/engine/RowLocking", "keepsLocks", "()Z"⟩ : MethodName)) (z := (⟨"com/example/hermit_crab/hermitcrab/engine/RowLocking", "keepsLocks", "()Z"⟩ : MethodName)) hown (mvT hZ (hw _ (own_m 8 rfl))) (mvT hZ (hw _ (own_m 9 rfl))) (notFace_of_selects (args := #[]) (mvT hZ (hw _ (own_m 11 rfl)))) (mvT hZ (hw _ (own_m 11 rfl))) (mvT hZ (hw _ (own_m 10 rfl))) (by decide) (backOf (W := 0) (rm2r l Z a0 hw [] r4 ls h0 n0 Zle F_keptOnMatch_r4) hZ (hw _ (own_m 12 rfl)) (hw _ (own_m 6 rfl)) (by decide) (by decide)) q18a q18c (g := (mkF m 25 #[.val (.int x1), .val (.int 4), .val (.ref r4), .val (.int 1), .unset, .unset] [(.ref r4)])) rfl (by rw [hml]; rfl) (Steps.refl _) (argsL := []) (rest := []) (lenOf pd_1 rfl) rfl (own_le rfl) (hb hby at_25) (fun _ _ => ⟨rfl, e17, (by decide : 0 + 0 ≤ _), (by decide : 0 + 0 ≤ _)⟩)
    dsimp only [Pt.U, Pt.locs, Pt.cells, Pt.slots] at X18 l18 y18 z18 st18 hQ18
    subst l18 y18 z18
    obtain ⟨rfl, Nq18, e18⟩ := hQ18
    have N_ := Fr.app N_ Nq18
    refine own_by (T' := T18) (g' := (mkF m 28 #[.val (.int x1), .val (.int 4), .val (.ref r4), .val (.int 1), .unset, .unset] [(.int 1)])) (fun t k => st18.trans k) ?_
    refine own_by (T' := T18) (g' := (mkF m 30 #[.val (.int x1), .val (.int 4), .val (.ref r4), .val (.int 1), .val (.int 1), .unset] [])) (fun t k => XS.istore X18.here hx rfl (hb hby at_28) rfl (l' := #[.val (.int x1), .val (.int 4), .val (.ref r4), .val (.int 1), .val (.int 1), .unset]) rfl k) ?_
    refine own_by (T' := T18) (g' := (mkF m 31 #[.val (.int x1), .val (.int 4), .val (.ref r4), .val (.int 1), .val (.int 1), .unset] [(.ref r4)])) (fun t k => XS.aloadN X18.here hx rfl (hb hby at_30) rfl rfl k) ?_
    obtain ⟨cq19, kq19, q19a, q19b, q19c⟩ := isOf hZ e18 E_r4
    obtain ⟨_, _, ⟨T19, L19, k19, n19⟩, -, X19, ⟨Lc19, hQ19, l19, y19, z19⟩, st19⟩ := X18.virtualBack hx (y := (⟨"com/example/hermit_crab/hermitcrab/engine/RowLocking", "getKeptOnMatch", "()Lcom/example/hermit_crab/hermitcrab/engine/LockMode;"⟩ : MethodName)) (z := (⟨"com/example/hermit_crab/hermitcrab/engine/RowLocking", "getKeptOnMatch", "()Lcom/example/hermit_crab/hermitcrab/engine/LockMode;"⟩ : MethodName)) hown (mvT hZ (hw _ (own_m 17 rfl))) (mvT hZ (hw _ (own_m 18 rfl))) (notFace_of_selects (args := #[]) (mvT hZ (hw _ (own_m 20 rfl)))) (mvT hZ (hw _ (own_m 20 rfl))) (mvT hZ (hw _ (own_m 19 rfl))) (by decide) (backOf (W := 0) (rm3r l Z a0 hw [] r4 ls h0 n0 Zle F_keptOnMatch_r4) hZ (hw _ (own_m 21 rfl)) (hw _ (own_m 6 rfl)) (by decide) (by decide)) q19a q19c (g := (mkF m 31 #[.val (.int x1), .val (.int 4), .val (.ref r4), .val (.int 1), .val (.int 1), .unset] [(.ref r4)])) rfl (by rw [hml]; rfl) (Steps.refl _) (argsL := []) (rest := []) (lenOf pd_2 rfl) rfl (own_le rfl) (hb hby at_31) (fun _ _ => ⟨rfl, e18, (by decide : 0 + 0 ≤ _), (by decide : 0 + 0 ≤ _)⟩)
    dsimp only [Pt.U, Pt.locs, Pt.cells, Pt.slots] at X19 l19 y19 z19 st19 hQ19
    subst l19 y19 z19
    obtain ⟨rfl, Nq19, e19⟩ := hQ19
    have N_ := Fr.app N_ Nq19
    refine own_by (T' := T19) (g' := (mkF m 34 #[.val (.int x1), .val (.int 4), .val (.ref r4), .val (.int 1), .val (.int 1), .unset] [(.ref ls)])) (fun t k => st19.trans k) ?_
    refine own_by (T' := T19) (g' := (mkF m 44 #[.val (.int x1), .val (.int 4), .val (.ref r4), .val (.int 1), .val (.int 1), .unset] [])) (fun t k => XS.ifnonnullYes X19.here hx rfl (pc0 := 34) (pc' := 44) rfl (hb hby at_34) rfl (by decide) (by decide) k) ?_
    refine own_by (T' := T19) (g' := (mkF m 45 #[.val (.int x1), .val (.int 4), .val (.ref r4), .val (.int 1), .val (.int 1), .unset] [(.int 1)])) (fun t k => XS.iconst X19.here hx rfl (hb hby at_44) k) ?_
    refine own_by (T' := T19) (g' := (mkF m 49 #[.val (.int x1), .val (.int 4), .val (.ref r4), .val (.int 1), .val (.int 1), .unset] [(.int 1)])) (fun t k => XS.goto X19.here hx rfl (pc0 := 45) (pc' := 49) rfl (hb hby at_45) (by decide) (by decide) k) ?_
    refine own_by (T' := T19) (g' := (mkF m 51 #[.val (.int x1), .val (.int 4), .val (.ref r4), .val (.int 1), .val (.int 1), .val (.int 1)] [])) (fun t k => XS.istore X19.here hx rfl (hb hby at_49) rfl (l' := #[.val (.int x1), .val (.int 4), .val (.ref r4), .val (.int 1), .val (.int 1), .val (.int 1)]) rfl k) ?_
    refine own_by (T' := T19) (g' := (mkF m 53 #[.val (.int x1), .val (.int 4), .val (.ref r4), .val (.int 1), .val (.int 1), .val (.int 1)] [(.int 1)])) (fun t k => XS.iload X19.here hx rfl (hb hby at_51) rfl k) ?_
    refine own_by (T' := T19) (g' := (mkF m 54 #[.val (.int x1), .val (.int 4), .val (.ref r4), .val (.int 1), .val (.int 1), .val (.int 1)] [(.int 1), (.int 1)])) (fun t k => XS.iloadN X19.here hx rfl (hb hby at_53) rfl k) ?_
    refine own_by (T' := T19) (g' := (mkF m 57 #[.val (.int x1), .val (.int 4), .val (.ref r4), .val (.int 1), .val (.int 1), .val (.int 1)] [])) (fun t k => XS.icmpNo X19.here hx rfl (hb hby at_54) rfl (teq (by decide)).2 k) ?_
    refine own_by (T' := T19) (g' := (mkF m 59 #[.val (.int x1), .val (.int 4), .val (.ref r4), .val (.int 1), .val (.int 1), .val (.int 1)] [(.int 1)])) (fun t k => XS.iload X19.here hx rfl (hb hby at_57) rfl k) ?_
    refine own_by (T' := T19) (g' := (mkF m 61 #[.val (.int x1), .val (.int 4), .val (.ref r4), .val (.int 1), .val (.int 1), .val (.int 1)] [(.int 1), (.int 1)])) (fun t k => XS.iload X19.here hx rfl (hb hby at_59) rfl k) ?_
    refine own_by (T' := T19) (g' := (mkF m 64 #[.val (.int x1), .val (.int 4), .val (.ref r4), .val (.int 1), .val (.int 1), .val (.int 1)] [])) (fun t k => XS.icmpNo X19.here hx rfl (hb hby at_61) rfl (teq (by decide)).2 k) ?_
    refine own_by (T' := T19) (g' := (mkF m 65 #[.val (.int x1), .val (.int 4), .val (.ref r4), .val (.int 1), .val (.int 1), .val (.int 1)] [(.int 1)])) (fun t k => XS.iconst X19.here hx rfl (hb hby at_64) k) ?_
    refine own_by (T' := T19) (g' := (mkF m 69 #[.val (.int x1), .val (.int 4), .val (.ref r4), .val (.int 1), .val (.int 1), .val (.int 1)] [(.int 1)])) (fun t k => XS.goto X19.here hx rfl (pc0 := 65) (pc' := 69) rfl (hb hby at_65) (by decide) (by decide) k) ?_
    exact own_retN X19 hx (t := .boolean) Bd.notSynchronized Bd.returns (by simp) (hb hby at_69) (by decide) (by decide) (by rw [e19]; exact ⟨rfl, N_⟩)
  · rw [hk]
    refine own_by (T' := s₁) (g' := (mkF m 9 #[.val (.int x1), .val (.int 5), .unset, .unset, .unset, .unset] [(.int 5)])) (fun t k => XS.iloadN X0.here hx rfl (hb hby at_8) rfl k) ?_
    obtain ⟨_, _, ⟨T20, L20, k20, n20⟩, -, X20, ⟨Lc20, hQ20, l20, y20, z20⟩, st20⟩ := Jvm.LawKit.callS X0 hx (y := (⟨"com/example/hermit_crab/hermitcrab/engine/RowLockingKeepsLocksPinLaw", "pick", "(I)Lcom/example/hermit_crab/hermitcrab/engine/RowLocking;"⟩ : MethodName)) hown (mvT hZ (hw _ (own_m 1 rfl))) (mvT hZ (hw _ (own_m 2 rfl))) (mvT hZ (hw _ (own_m 3 rfl))) (mvT hZ (hw _ (own_m 4 rfl))) (by decide) (backOf (W := 0) (rm1 l Z a0 hw [] (5 : Int32) r0 r1 r2 r3 r4 r5 r6 r7 r8 h0 n0 Zle S_NONE S_COMMITTED_VERSION S_SNAPSHOT_VERSION S_SHARED_WHILE_EXAMINED S_SHARED_ON_MATCHED S_SHARED_WITH_KEY_RANGES S_EXCLUSIVE_ON_MATCHED S_EXCLUSIVE_ON_SNAPSHOT_MATCH S_EXCLUSIVE_WITH_KEY_RANGES) hZ (hw _ (own_m 4 rfl)) (hw _ (own_m 3 rfl)) (by decide) (by decide)) (g := (mkF m 9 #[.val (.int x1), .val (.int 5), .unset, .unset, .unset, .unset] [(.int 5)])) rfl (by rw [hml]; rfl) (argsL := [(.int 5)]) (rest := []) (lenOf pd_0 rfl) rfl (own_le rfl) (hb hby at_9) (fun _ _ => ⟨rfl, e0, (by decide : 0 + 0 ≤ _), (by decide : 0 + 0 ≤ _)⟩)
    dsimp only [Pt.U, Pt.locs, Pt.cells, Pt.slots] at X20 l20 y20 z20 st20 hQ20
    subst l20 y20 z20
    obtain ⟨rfl, Nq20, e20⟩ := hQ20
    have N_ := Fr.app N_ Nq20
    refine own_by (T' := T20) (g' := (mkF m 12 #[.val (.int x1), .val (.int 5), .unset, .unset, .unset, .unset] [(.ref (own_pick (5 : Int32) r0 r1 r2 r3 r4 r5 r6 r7 r8))])) (fun t k => st20 _ k) ?_
    rw [show (own_pick (5 : Int32) r0 r1 r2 r3 r4 r5 r6 r7 r8) = r5 from by simp [own_pick]]
    refine own_by (T' := T20) (g' := (mkF m 13 #[.val (.int x1), .val (.int 5), .val (.ref r5), .unset, .unset, .unset] [])) (fun t k => XS.astoreN X20.here hx rfl (hb hby at_12) rfl rfl (l' := #[.val (.int x1), .val (.int 5), .val (.ref r5), .unset, .unset, .unset]) rfl k) ?_
    refine own_by (T' := T20) (g' := (mkF m 14 #[.val (.int x1), .val (.int 5), .val (.ref r5), .unset, .unset, .unset] [(.int 5)])) (fun t k => XS.iloadN X20.here hx rfl (hb hby at_13) rfl k) ?_
    refine own_by (T' := T20) (g' := (mkF m 15 #[.val (.int x1), .val (.int 5), .val (.ref r5), .unset, .unset, .unset] [(.int 4), (.int 5)])) (fun t k => XS.iconst X20.here hx rfl (hb hby at_14) k) ?_
    refine own_by (T' := T20) (g' := (mkF m 18 #[.val (.int x1), .val (.int 5), .val (.ref r5), .unset, .unset, .unset] [])) (fun t k => XS.icmpNo X20.here hx rfl (hb hby at_15) rfl (flt (by decide)).1 k) ?_
    refine own_by (T' := T20) (g' := (mkF m 19 #[.val (.int x1), .val (.int 5), .val (.ref r5), .unset, .unset, .unset] [(.int 1)])) (fun t k => XS.iconst X20.here hx rfl (hb hby at_18) k) ?_
    refine own_by (T' := T20) (g' := (mkF m 23 #[.val (.int x1), .val (.int 5), .val (.ref r5), .unset, .unset, .unset] [(.int 1)])) (fun t k => XS.goto X20.here hx rfl (pc0 := 19) (pc' := 23) rfl (hb hby at_19) (by decide) (by decide) k) ?_
    refine own_by (T' := T20) (g' := (mkF m 24 #[.val (.int x1), .val (.int 5), .val (.ref r5), .val (.int 1), .unset, .unset] [])) (fun t k => XS.istoreN X20.here hx rfl (hb hby at_23) rfl (l' := #[.val (.int x1), .val (.int 5), .val (.ref r5), .val (.int 1), .unset, .unset]) rfl k) ?_
    refine own_by (T' := T20) (g' := (mkF m 25 #[.val (.int x1), .val (.int 5), .val (.ref r5), .val (.int 1), .unset, .unset] [(.ref r5)])) (fun t k => XS.aloadN X20.here hx rfl (hb hby at_24) rfl rfl k) ?_
    obtain ⟨cq21, kq21, q21a, q21b, q21c⟩ := isOf hZ e20 E_r5
    obtain ⟨_, _, ⟨T21, L21, k21, n21⟩, -, X21, ⟨Lc21, hQ21, l21, y21, z21⟩, st21⟩ := X20.virtualBack hx (y := (⟨"com/example/hermit_crab/hermitcrab/engine/RowLocking", "keepsLocks", "()Z"⟩ : MethodName)) (z := (⟨"com/example/hermit_crab/hermitcrab/engine/RowLocking", "keepsLocks", "()Z"⟩ : MethodName)) hown (mvT hZ (hw _ (own_m 8 rfl))) (mvT hZ (hw _ (own_m 9 rfl))) (notFace_of_selects (args := #[]) (mvT hZ (hw _ (own_m 11 rfl)))) (mvT hZ (hw _ (own_m 11 rfl))) (mvT hZ (hw _ (own_m 10 rfl))) (by decide) (backOf (W := 0) (rm2r l Z a0 hw [] r5 ls h0 n0 Zle F_keptOnMatch_r5) hZ (hw _ (own_m 12 rfl)) (hw _ (own_m 6 rfl)) (by decide) (by decide)) q21a q21c (g := (mkF m 25 #[.val (.int x1), .val (.int 5), .val (.ref r5), .val (.int 1), .unset, .unset] [(.ref r5)])) rfl (by rw [hml]; rfl) (Steps.refl _) (argsL := []) (rest := []) (lenOf pd_1 rfl) rfl (own_le rfl) (hb hby at_25) (fun _ _ => ⟨rfl, e20, (by decide : 0 + 0 ≤ _), (by decide : 0 + 0 ≤ _)⟩)
    dsimp only [Pt.U, Pt.locs, Pt.cells, Pt.slots] at X21 l21 y21 z21 st21 hQ21
    subst l21 y21 z21
    obtain ⟨rfl, Nq21, e21⟩ := hQ21
    have N_ := Fr.app N_ Nq21
    refine own_by (T' := T21) (g' := (mkF m 28 #[.val (.int x1), .val (.int 5), .val (.ref r5), .val (.int 1), .unset, .unset] [(.int 1)])) (fun t k => st21.trans k) ?_
    refine own_by (T' := T21) (g' := (mkF m 30 #[.val (.int x1), .val (.int 5), .val (.ref r5), .val (.int 1), .val (.int 1), .unset] [])) (fun t k => XS.istore X21.here hx rfl (hb hby at_28) rfl (l' := #[.val (.int x1), .val (.int 5), .val (.ref r5), .val (.int 1), .val (.int 1), .unset]) rfl k) ?_
    refine own_by (T' := T21) (g' := (mkF m 31 #[.val (.int x1), .val (.int 5), .val (.ref r5), .val (.int 1), .val (.int 1), .unset] [(.ref r5)])) (fun t k => XS.aloadN X21.here hx rfl (hb hby at_30) rfl rfl k) ?_
    obtain ⟨cq22, kq22, q22a, q22b, q22c⟩ := isOf hZ e21 E_r5
    obtain ⟨_, _, ⟨T22, L22, k22, n22⟩, -, X22, ⟨Lc22, hQ22, l22, y22, z22⟩, st22⟩ := X21.virtualBack hx (y := (⟨"com/example/hermit_crab/hermitcrab/engine/RowLocking", "getKeptOnMatch", "()Lcom/example/hermit_crab/hermitcrab/engine/LockMode;"⟩ : MethodName)) (z := (⟨"com/example/hermit_crab/hermitcrab/engine/RowLocking", "getKeptOnMatch", "()Lcom/example/hermit_crab/hermitcrab/engine/LockMode;"⟩ : MethodName)) hown (mvT hZ (hw _ (own_m 17 rfl))) (mvT hZ (hw _ (own_m 18 rfl))) (notFace_of_selects (args := #[]) (mvT hZ (hw _ (own_m 20 rfl)))) (mvT hZ (hw _ (own_m 20 rfl))) (mvT hZ (hw _ (own_m 19 rfl))) (by decide) (backOf (W := 0) (rm3r l Z a0 hw [] r5 ls h0 n0 Zle F_keptOnMatch_r5) hZ (hw _ (own_m 21 rfl)) (hw _ (own_m 6 rfl)) (by decide) (by decide)) q22a q22c (g := (mkF m 31 #[.val (.int x1), .val (.int 5), .val (.ref r5), .val (.int 1), .val (.int 1), .unset] [(.ref r5)])) rfl (by rw [hml]; rfl) (Steps.refl _) (argsL := []) (rest := []) (lenOf pd_2 rfl) rfl (own_le rfl) (hb hby at_31) (fun _ _ => ⟨rfl, e21, (by decide : 0 + 0 ≤ _), (by decide : 0 + 0 ≤ _)⟩)
    dsimp only [Pt.U, Pt.locs, Pt.cells, Pt.slots] at X22 l22 y22 z22 st22 hQ22
    subst l22 y22 z22
    obtain ⟨rfl, Nq22, e22⟩ := hQ22
    have N_ := Fr.app N_ Nq22
    refine own_by (T' := T22) (g' := (mkF m 34 #[.val (.int x1), .val (.int 5), .val (.ref r5), .val (.int 1), .val (.int 1), .unset] [(.ref ls)])) (fun t k => st22.trans k) ?_
    refine own_by (T' := T22) (g' := (mkF m 44 #[.val (.int x1), .val (.int 5), .val (.ref r5), .val (.int 1), .val (.int 1), .unset] [])) (fun t k => XS.ifnonnullYes X22.here hx rfl (pc0 := 34) (pc' := 44) rfl (hb hby at_34) rfl (by decide) (by decide) k) ?_
    refine own_by (T' := T22) (g' := (mkF m 45 #[.val (.int x1), .val (.int 5), .val (.ref r5), .val (.int 1), .val (.int 1), .unset] [(.int 1)])) (fun t k => XS.iconst X22.here hx rfl (hb hby at_44) k) ?_
    refine own_by (T' := T22) (g' := (mkF m 49 #[.val (.int x1), .val (.int 5), .val (.ref r5), .val (.int 1), .val (.int 1), .unset] [(.int 1)])) (fun t k => XS.goto X22.here hx rfl (pc0 := 45) (pc' := 49) rfl (hb hby at_45) (by decide) (by decide) k) ?_
    refine own_by (T' := T22) (g' := (mkF m 51 #[.val (.int x1), .val (.int 5), .val (.ref r5), .val (.int 1), .val (.int 1), .val (.int 1)] [])) (fun t k => XS.istore X22.here hx rfl (hb hby at_49) rfl (l' := #[.val (.int x1), .val (.int 5), .val (.ref r5), .val (.int 1), .val (.int 1), .val (.int 1)]) rfl k) ?_
    refine own_by (T' := T22) (g' := (mkF m 53 #[.val (.int x1), .val (.int 5), .val (.ref r5), .val (.int 1), .val (.int 1), .val (.int 1)] [(.int 1)])) (fun t k => XS.iload X22.here hx rfl (hb hby at_51) rfl k) ?_
    refine own_by (T' := T22) (g' := (mkF m 54 #[.val (.int x1), .val (.int 5), .val (.ref r5), .val (.int 1), .val (.int 1), .val (.int 1)] [(.int 1), (.int 1)])) (fun t k => XS.iloadN X22.here hx rfl (hb hby at_53) rfl k) ?_
    refine own_by (T' := T22) (g' := (mkF m 57 #[.val (.int x1), .val (.int 5), .val (.ref r5), .val (.int 1), .val (.int 1), .val (.int 1)] [])) (fun t k => XS.icmpNo X22.here hx rfl (hb hby at_54) rfl (teq (by decide)).2 k) ?_
    refine own_by (T' := T22) (g' := (mkF m 59 #[.val (.int x1), .val (.int 5), .val (.ref r5), .val (.int 1), .val (.int 1), .val (.int 1)] [(.int 1)])) (fun t k => XS.iload X22.here hx rfl (hb hby at_57) rfl k) ?_
    refine own_by (T' := T22) (g' := (mkF m 61 #[.val (.int x1), .val (.int 5), .val (.ref r5), .val (.int 1), .val (.int 1), .val (.int 1)] [(.int 1), (.int 1)])) (fun t k => XS.iload X22.here hx rfl (hb hby at_59) rfl k) ?_
    refine own_by (T' := T22) (g' := (mkF m 64 #[.val (.int x1), .val (.int 5), .val (.ref r5), .val (.int 1), .val (.int 1), .val (.int 1)] [])) (fun t k => XS.icmpNo X22.here hx rfl (hb hby at_61) rfl (teq (by decide)).2 k) ?_
    refine own_by (T' := T22) (g' := (mkF m 65 #[.val (.int x1), .val (.int 5), .val (.ref r5), .val (.int 1), .val (.int 1), .val (.int 1)] [(.int 1)])) (fun t k => XS.iconst X22.here hx rfl (hb hby at_64) k) ?_
    refine own_by (T' := T22) (g' := (mkF m 69 #[.val (.int x1), .val (.int 5), .val (.ref r5), .val (.int 1), .val (.int 1), .val (.int 1)] [(.int 1)])) (fun t k => XS.goto X22.here hx rfl (pc0 := 65) (pc' := 69) rfl (hb hby at_65) (by decide) (by decide) k) ?_
    exact own_retN X22 hx (t := .boolean) Bd.notSynchronized Bd.returns (by simp) (hb hby at_69) (by decide) (by decide) (by rw [e22]; exact ⟨rfl, N_⟩)
  · rw [hk]
    refine own_by (T' := s₁) (g' := (mkF m 9 #[.val (.int x1), .val (.int 6), .unset, .unset, .unset, .unset] [(.int 6)])) (fun t k => XS.iloadN X0.here hx rfl (hb hby at_8) rfl k) ?_
    obtain ⟨_, _, ⟨T23, L23, k23, n23⟩, -, X23, ⟨Lc23, hQ23, l23, y23, z23⟩, st23⟩ := Jvm.LawKit.callS X0 hx (y := (⟨"com/example/hermit_crab/hermitcrab/engine/RowLockingKeepsLocksPinLaw", "pick", "(I)Lcom/example/hermit_crab/hermitcrab/engine/RowLocking;"⟩ : MethodName)) hown (mvT hZ (hw _ (own_m 1 rfl))) (mvT hZ (hw _ (own_m 2 rfl))) (mvT hZ (hw _ (own_m 3 rfl))) (mvT hZ (hw _ (own_m 4 rfl))) (by decide) (backOf (W := 0) (rm1 l Z a0 hw [] (6 : Int32) r0 r1 r2 r3 r4 r5 r6 r7 r8 h0 n0 Zle S_NONE S_COMMITTED_VERSION S_SNAPSHOT_VERSION S_SHARED_WHILE_EXAMINED S_SHARED_ON_MATCHED S_SHARED_WITH_KEY_RANGES S_EXCLUSIVE_ON_MATCHED S_EXCLUSIVE_ON_SNAPSHOT_MATCH S_EXCLUSIVE_WITH_KEY_RANGES) hZ (hw _ (own_m 4 rfl)) (hw _ (own_m 3 rfl)) (by decide) (by decide)) (g := (mkF m 9 #[.val (.int x1), .val (.int 6), .unset, .unset, .unset, .unset] [(.int 6)])) rfl (by rw [hml]; rfl) (argsL := [(.int 6)]) (rest := []) (lenOf pd_0 rfl) rfl (own_le rfl) (hb hby at_9) (fun _ _ => ⟨rfl, e0, (by decide : 0 + 0 ≤ _), (by decide : 0 + 0 ≤ _)⟩)
    dsimp only [Pt.U, Pt.locs, Pt.cells, Pt.slots] at X23 l23 y23 z23 st23 hQ23
    subst l23 y23 z23
    obtain ⟨rfl, Nq23, e23⟩ := hQ23
    have N_ := Fr.app N_ Nq23
    refine own_by (T' := T23) (g' := (mkF m 12 #[.val (.int x1), .val (.int 6), .unset, .unset, .unset, .unset] [(.ref (own_pick (6 : Int32) r0 r1 r2 r3 r4 r5 r6 r7 r8))])) (fun t k => st23 _ k) ?_
    rw [show (own_pick (6 : Int32) r0 r1 r2 r3 r4 r5 r6 r7 r8) = r6 from by simp [own_pick]]
    refine own_by (T' := T23) (g' := (mkF m 13 #[.val (.int x1), .val (.int 6), .val (.ref r6), .unset, .unset, .unset] [])) (fun t k => XS.astoreN X23.here hx rfl (hb hby at_12) rfl rfl (l' := #[.val (.int x1), .val (.int 6), .val (.ref r6), .unset, .unset, .unset]) rfl k) ?_
    refine own_by (T' := T23) (g' := (mkF m 14 #[.val (.int x1), .val (.int 6), .val (.ref r6), .unset, .unset, .unset] [(.int 6)])) (fun t k => XS.iloadN X23.here hx rfl (hb hby at_13) rfl k) ?_
    refine own_by (T' := T23) (g' := (mkF m 15 #[.val (.int x1), .val (.int 6), .val (.ref r6), .unset, .unset, .unset] [(.int 4), (.int 6)])) (fun t k => XS.iconst X23.here hx rfl (hb hby at_14) k) ?_
    refine own_by (T' := T23) (g' := (mkF m 18 #[.val (.int x1), .val (.int 6), .val (.ref r6), .unset, .unset, .unset] [])) (fun t k => XS.icmpNo X23.here hx rfl (hb hby at_15) rfl (flt (by decide)).1 k) ?_
    refine own_by (T' := T23) (g' := (mkF m 19 #[.val (.int x1), .val (.int 6), .val (.ref r6), .unset, .unset, .unset] [(.int 1)])) (fun t k => XS.iconst X23.here hx rfl (hb hby at_18) k) ?_
    refine own_by (T' := T23) (g' := (mkF m 23 #[.val (.int x1), .val (.int 6), .val (.ref r6), .unset, .unset, .unset] [(.int 1)])) (fun t k => XS.goto X23.here hx rfl (pc0 := 19) (pc' := 23) rfl (hb hby at_19) (by decide) (by decide) k) ?_
    refine own_by (T' := T23) (g' := (mkF m 24 #[.val (.int x1), .val (.int 6), .val (.ref r6), .val (.int 1), .unset, .unset] [])) (fun t k => XS.istoreN X23.here hx rfl (hb hby at_23) rfl (l' := #[.val (.int x1), .val (.int 6), .val (.ref r6), .val (.int 1), .unset, .unset]) rfl k) ?_
    refine own_by (T' := T23) (g' := (mkF m 25 #[.val (.int x1), .val (.int 6), .val (.ref r6), .val (.int 1), .unset, .unset] [(.ref r6)])) (fun t k => XS.aloadN X23.here hx rfl (hb hby at_24) rfl rfl k) ?_
    obtain ⟨cq24, kq24, q24a, q24b, q24c⟩ := isOf hZ e23 E_r6
    obtain ⟨_, _, ⟨T24, L24, k24, n24⟩, -, X24, ⟨Lc24, hQ24, l24, y24, z24⟩, st24⟩ := X23.virtualBack hx (y := (⟨"com/example/hermit_crab/hermitcrab/engine/RowLocking", "keepsLocks", "()Z"⟩ : MethodName)) (z := (⟨"com/example/hermit_crab/hermitcrab/engine/RowLocking", "keepsLocks", "()Z"⟩ : MethodName)) hown (mvT hZ (hw _ (own_m 8 rfl))) (mvT hZ (hw _ (own_m 9 rfl))) (notFace_of_selects (args := #[]) (mvT hZ (hw _ (own_m 11 rfl)))) (mvT hZ (hw _ (own_m 11 rfl))) (mvT hZ (hw _ (own_m 10 rfl))) (by decide) (backOf (W := 0) (rm2r l Z a0 hw [] r6 lx h0 n0 Zle F_keptOnMatch_r6) hZ (hw _ (own_m 12 rfl)) (hw _ (own_m 6 rfl)) (by decide) (by decide)) q24a q24c (g := (mkF m 25 #[.val (.int x1), .val (.int 6), .val (.ref r6), .val (.int 1), .unset, .unset] [(.ref r6)])) rfl (by rw [hml]; rfl) (Steps.refl _) (argsL := []) (rest := []) (lenOf pd_1 rfl) rfl (own_le rfl) (hb hby at_25) (fun _ _ => ⟨rfl, e23, (by decide : 0 + 0 ≤ _), (by decide : 0 + 0 ≤ _)⟩)
    dsimp only [Pt.U, Pt.locs, Pt.cells, Pt.slots] at X24 l24 y24 z24 st24 hQ24
    subst l24 y24 z24
    obtain ⟨rfl, Nq24, e24⟩ := hQ24
    have N_ := Fr.app N_ Nq24
    refine own_by (T' := T24) (g' := (mkF m 28 #[.val (.int x1), .val (.int 6), .val (.ref r6), .val (.int 1), .unset, .unset] [(.int 1)])) (fun t k => st24.trans k) ?_
    refine own_by (T' := T24) (g' := (mkF m 30 #[.val (.int x1), .val (.int 6), .val (.ref r6), .val (.int 1), .val (.int 1), .unset] [])) (fun t k => XS.istore X24.here hx rfl (hb hby at_28) rfl (l' := #[.val (.int x1), .val (.int 6), .val (.ref r6), .val (.int 1), .val (.int 1), .unset]) rfl k) ?_
    refine own_by (T' := T24) (g' := (mkF m 31 #[.val (.int x1), .val (.int 6), .val (.ref r6), .val (.int 1), .val (.int 1), .unset] [(.ref r6)])) (fun t k => XS.aloadN X24.here hx rfl (hb hby at_30) rfl rfl k) ?_
    obtain ⟨cq25, kq25, q25a, q25b, q25c⟩ := isOf hZ e24 E_r6
    obtain ⟨_, _, ⟨T25, L25, k25, n25⟩, -, X25, ⟨Lc25, hQ25, l25, y25, z25⟩, st25⟩ := X24.virtualBack hx (y := (⟨"com/example/hermit_crab/hermitcrab/engine/RowLocking", "getKeptOnMatch", "()Lcom/example/hermit_crab/hermitcrab/engine/LockMode;"⟩ : MethodName)) (z := (⟨"com/example/hermit_crab/hermitcrab/engine/RowLocking", "getKeptOnMatch", "()Lcom/example/hermit_crab/hermitcrab/engine/LockMode;"⟩ : MethodName)) hown (mvT hZ (hw _ (own_m 17 rfl))) (mvT hZ (hw _ (own_m 18 rfl))) (notFace_of_selects (args := #[]) (mvT hZ (hw _ (own_m 20 rfl)))) (mvT hZ (hw _ (own_m 20 rfl))) (mvT hZ (hw _ (own_m 19 rfl))) (by decide) (backOf (W := 0) (rm3r l Z a0 hw [] r6 lx h0 n0 Zle F_keptOnMatch_r6) hZ (hw _ (own_m 21 rfl)) (hw _ (own_m 6 rfl)) (by decide) (by decide)) q25a q25c (g := (mkF m 31 #[.val (.int x1), .val (.int 6), .val (.ref r6), .val (.int 1), .val (.int 1), .unset] [(.ref r6)])) rfl (by rw [hml]; rfl) (Steps.refl _) (argsL := []) (rest := []) (lenOf pd_2 rfl) rfl (own_le rfl) (hb hby at_31) (fun _ _ => ⟨rfl, e24, (by decide : 0 + 0 ≤ _), (by decide : 0 + 0 ≤ _)⟩)
    dsimp only [Pt.U, Pt.locs, Pt.cells, Pt.slots] at X25 l25 y25 z25 st25 hQ25
    subst l25 y25 z25
    obtain ⟨rfl, Nq25, e25⟩ := hQ25
    have N_ := Fr.app N_ Nq25
    refine own_by (T' := T25) (g' := (mkF m 34 #[.val (.int x1), .val (.int 6), .val (.ref r6), .val (.int 1), .val (.int 1), .unset] [(.ref lx)])) (fun t k => st25.trans k) ?_
    refine own_by (T' := T25) (g' := (mkF m 44 #[.val (.int x1), .val (.int 6), .val (.ref r6), .val (.int 1), .val (.int 1), .unset] [])) (fun t k => XS.ifnonnullYes X25.here hx rfl (pc0 := 34) (pc' := 44) rfl (hb hby at_34) rfl (by decide) (by decide) k) ?_
    refine own_by (T' := T25) (g' := (mkF m 45 #[.val (.int x1), .val (.int 6), .val (.ref r6), .val (.int 1), .val (.int 1), .unset] [(.int 1)])) (fun t k => XS.iconst X25.here hx rfl (hb hby at_44) k) ?_
    refine own_by (T' := T25) (g' := (mkF m 49 #[.val (.int x1), .val (.int 6), .val (.ref r6), .val (.int 1), .val (.int 1), .unset] [(.int 1)])) (fun t k => XS.goto X25.here hx rfl (pc0 := 45) (pc' := 49) rfl (hb hby at_45) (by decide) (by decide) k) ?_
    refine own_by (T' := T25) (g' := (mkF m 51 #[.val (.int x1), .val (.int 6), .val (.ref r6), .val (.int 1), .val (.int 1), .val (.int 1)] [])) (fun t k => XS.istore X25.here hx rfl (hb hby at_49) rfl (l' := #[.val (.int x1), .val (.int 6), .val (.ref r6), .val (.int 1), .val (.int 1), .val (.int 1)]) rfl k) ?_
    refine own_by (T' := T25) (g' := (mkF m 53 #[.val (.int x1), .val (.int 6), .val (.ref r6), .val (.int 1), .val (.int 1), .val (.int 1)] [(.int 1)])) (fun t k => XS.iload X25.here hx rfl (hb hby at_51) rfl k) ?_
    refine own_by (T' := T25) (g' := (mkF m 54 #[.val (.int x1), .val (.int 6), .val (.ref r6), .val (.int 1), .val (.int 1), .val (.int 1)] [(.int 1), (.int 1)])) (fun t k => XS.iloadN X25.here hx rfl (hb hby at_53) rfl k) ?_
    refine own_by (T' := T25) (g' := (mkF m 57 #[.val (.int x1), .val (.int 6), .val (.ref r6), .val (.int 1), .val (.int 1), .val (.int 1)] [])) (fun t k => XS.icmpNo X25.here hx rfl (hb hby at_54) rfl (teq (by decide)).2 k) ?_
    refine own_by (T' := T25) (g' := (mkF m 59 #[.val (.int x1), .val (.int 6), .val (.ref r6), .val (.int 1), .val (.int 1), .val (.int 1)] [(.int 1)])) (fun t k => XS.iload X25.here hx rfl (hb hby at_57) rfl k) ?_
    refine own_by (T' := T25) (g' := (mkF m 61 #[.val (.int x1), .val (.int 6), .val (.ref r6), .val (.int 1), .val (.int 1), .val (.int 1)] [(.int 1), (.int 1)])) (fun t k => XS.iload X25.here hx rfl (hb hby at_59) rfl k) ?_
    refine own_by (T' := T25) (g' := (mkF m 64 #[.val (.int x1), .val (.int 6), .val (.ref r6), .val (.int 1), .val (.int 1), .val (.int 1)] [])) (fun t k => XS.icmpNo X25.here hx rfl (hb hby at_61) rfl (teq (by decide)).2 k) ?_
    refine own_by (T' := T25) (g' := (mkF m 65 #[.val (.int x1), .val (.int 6), .val (.ref r6), .val (.int 1), .val (.int 1), .val (.int 1)] [(.int 1)])) (fun t k => XS.iconst X25.here hx rfl (hb hby at_64) k) ?_
    refine own_by (T' := T25) (g' := (mkF m 69 #[.val (.int x1), .val (.int 6), .val (.ref r6), .val (.int 1), .val (.int 1), .val (.int 1)] [(.int 1)])) (fun t k => XS.goto X25.here hx rfl (pc0 := 65) (pc' := 69) rfl (hb hby at_65) (by decide) (by decide) k) ?_
    exact own_retN X25 hx (t := .boolean) Bd.notSynchronized Bd.returns (by simp) (hb hby at_69) (by decide) (by decide) (by rw [e25]; exact ⟨rfl, N_⟩)
  · rw [hk]
    refine own_by (T' := s₁) (g' := (mkF m 9 #[.val (.int x1), .val (.int 7), .unset, .unset, .unset, .unset] [(.int 7)])) (fun t k => XS.iloadN X0.here hx rfl (hb hby at_8) rfl k) ?_
    obtain ⟨_, _, ⟨T26, L26, k26, n26⟩, -, X26, ⟨Lc26, hQ26, l26, y26, z26⟩, st26⟩ := Jvm.LawKit.callS X0 hx (y := (⟨"com/example/hermit_crab/hermitcrab/engine/RowLockingKeepsLocksPinLaw", "pick", "(I)Lcom/example/hermit_crab/hermitcrab/engine/RowLocking;"⟩ : MethodName)) hown (mvT hZ (hw _ (own_m 1 rfl))) (mvT hZ (hw _ (own_m 2 rfl))) (mvT hZ (hw _ (own_m 3 rfl))) (mvT hZ (hw _ (own_m 4 rfl))) (by decide) (backOf (W := 0) (rm1 l Z a0 hw [] (7 : Int32) r0 r1 r2 r3 r4 r5 r6 r7 r8 h0 n0 Zle S_NONE S_COMMITTED_VERSION S_SNAPSHOT_VERSION S_SHARED_WHILE_EXAMINED S_SHARED_ON_MATCHED S_SHARED_WITH_KEY_RANGES S_EXCLUSIVE_ON_MATCHED S_EXCLUSIVE_ON_SNAPSHOT_MATCH S_EXCLUSIVE_WITH_KEY_RANGES) hZ (hw _ (own_m 4 rfl)) (hw _ (own_m 3 rfl)) (by decide) (by decide)) (g := (mkF m 9 #[.val (.int x1), .val (.int 7), .unset, .unset, .unset, .unset] [(.int 7)])) rfl (by rw [hml]; rfl) (argsL := [(.int 7)]) (rest := []) (lenOf pd_0 rfl) rfl (own_le rfl) (hb hby at_9) (fun _ _ => ⟨rfl, e0, (by decide : 0 + 0 ≤ _), (by decide : 0 + 0 ≤ _)⟩)
    dsimp only [Pt.U, Pt.locs, Pt.cells, Pt.slots] at X26 l26 y26 z26 st26 hQ26
    subst l26 y26 z26
    obtain ⟨rfl, Nq26, e26⟩ := hQ26
    have N_ := Fr.app N_ Nq26
    refine own_by (T' := T26) (g' := (mkF m 12 #[.val (.int x1), .val (.int 7), .unset, .unset, .unset, .unset] [(.ref (own_pick (7 : Int32) r0 r1 r2 r3 r4 r5 r6 r7 r8))])) (fun t k => st26 _ k) ?_
    rw [show (own_pick (7 : Int32) r0 r1 r2 r3 r4 r5 r6 r7 r8) = r7 from by simp [own_pick]]
    refine own_by (T' := T26) (g' := (mkF m 13 #[.val (.int x1), .val (.int 7), .val (.ref r7), .unset, .unset, .unset] [])) (fun t k => XS.astoreN X26.here hx rfl (hb hby at_12) rfl rfl (l' := #[.val (.int x1), .val (.int 7), .val (.ref r7), .unset, .unset, .unset]) rfl k) ?_
    refine own_by (T' := T26) (g' := (mkF m 14 #[.val (.int x1), .val (.int 7), .val (.ref r7), .unset, .unset, .unset] [(.int 7)])) (fun t k => XS.iloadN X26.here hx rfl (hb hby at_13) rfl k) ?_
    refine own_by (T' := T26) (g' := (mkF m 15 #[.val (.int x1), .val (.int 7), .val (.ref r7), .unset, .unset, .unset] [(.int 4), (.int 7)])) (fun t k => XS.iconst X26.here hx rfl (hb hby at_14) k) ?_
    refine own_by (T' := T26) (g' := (mkF m 18 #[.val (.int x1), .val (.int 7), .val (.ref r7), .unset, .unset, .unset] [])) (fun t k => XS.icmpNo X26.here hx rfl (hb hby at_15) rfl (flt (by decide)).1 k) ?_
    refine own_by (T' := T26) (g' := (mkF m 19 #[.val (.int x1), .val (.int 7), .val (.ref r7), .unset, .unset, .unset] [(.int 1)])) (fun t k => XS.iconst X26.here hx rfl (hb hby at_18) k) ?_
    refine own_by (T' := T26) (g' := (mkF m 23 #[.val (.int x1), .val (.int 7), .val (.ref r7), .unset, .unset, .unset] [(.int 1)])) (fun t k => XS.goto X26.here hx rfl (pc0 := 19) (pc' := 23) rfl (hb hby at_19) (by decide) (by decide) k) ?_
    refine own_by (T' := T26) (g' := (mkF m 24 #[.val (.int x1), .val (.int 7), .val (.ref r7), .val (.int 1), .unset, .unset] [])) (fun t k => XS.istoreN X26.here hx rfl (hb hby at_23) rfl (l' := #[.val (.int x1), .val (.int 7), .val (.ref r7), .val (.int 1), .unset, .unset]) rfl k) ?_
    refine own_by (T' := T26) (g' := (mkF m 25 #[.val (.int x1), .val (.int 7), .val (.ref r7), .val (.int 1), .unset, .unset] [(.ref r7)])) (fun t k => XS.aloadN X26.here hx rfl (hb hby at_24) rfl rfl k) ?_
    obtain ⟨cq27, kq27, q27a, q27b, q27c⟩ := isOf hZ e26 E_r7
    obtain ⟨_, _, ⟨T27, L27, k27, n27⟩, -, X27, ⟨Lc27, hQ27, l27, y27, z27⟩, st27⟩ := X26.virtualBack hx (y := (⟨"com/example/hermit_crab/hermitcrab/engine/RowLocking", "keepsLocks", "()Z"⟩ : MethodName)) (z := (⟨"com/example/hermit_crab/hermitcrab/engine/RowLocking", "keepsLocks", "()Z"⟩ : MethodName)) hown (mvT hZ (hw _ (own_m 8 rfl))) (mvT hZ (hw _ (own_m 9 rfl))) (notFace_of_selects (args := #[]) (mvT hZ (hw _ (own_m 11 rfl)))) (mvT hZ (hw _ (own_m 11 rfl))) (mvT hZ (hw _ (own_m 10 rfl))) (by decide) (backOf (W := 0) (rm2r l Z a0 hw [] r7 lx h0 n0 Zle F_keptOnMatch_r7) hZ (hw _ (own_m 12 rfl)) (hw _ (own_m 6 rfl)) (by decide) (by decide)) q27a q27c (g := (mkF m 25 #[.val (.int x1), .val (.int 7), .val (.ref r7), .val (.int 1), .unset, .unset] [(.ref r7)])) rfl (by rw [hml]; rfl) (Steps.refl _) (argsL := []) (rest := []) (lenOf pd_1 rfl) rfl (own_le rfl) (hb hby at_25) (fun _ _ => ⟨rfl, e26, (by decide : 0 + 0 ≤ _), (by decide : 0 + 0 ≤ _)⟩)
    dsimp only [Pt.U, Pt.locs, Pt.cells, Pt.slots] at X27 l27 y27 z27 st27 hQ27
    subst l27 y27 z27
    obtain ⟨rfl, Nq27, e27⟩ := hQ27
    have N_ := Fr.app N_ Nq27
    refine own_by (T' := T27) (g' := (mkF m 28 #[.val (.int x1), .val (.int 7), .val (.ref r7), .val (.int 1), .unset, .unset] [(.int 1)])) (fun t k => st27.trans k) ?_
    refine own_by (T' := T27) (g' := (mkF m 30 #[.val (.int x1), .val (.int 7), .val (.ref r7), .val (.int 1), .val (.int 1), .unset] [])) (fun t k => XS.istore X27.here hx rfl (hb hby at_28) rfl (l' := #[.val (.int x1), .val (.int 7), .val (.ref r7), .val (.int 1), .val (.int 1), .unset]) rfl k) ?_
    refine own_by (T' := T27) (g' := (mkF m 31 #[.val (.int x1), .val (.int 7), .val (.ref r7), .val (.int 1), .val (.int 1), .unset] [(.ref r7)])) (fun t k => XS.aloadN X27.here hx rfl (hb hby at_30) rfl rfl k) ?_
    obtain ⟨cq28, kq28, q28a, q28b, q28c⟩ := isOf hZ e27 E_r7
    obtain ⟨_, _, ⟨T28, L28, k28, n28⟩, -, X28, ⟨Lc28, hQ28, l28, y28, z28⟩, st28⟩ := X27.virtualBack hx (y := (⟨"com/example/hermit_crab/hermitcrab/engine/RowLocking", "getKeptOnMatch", "()Lcom/example/hermit_crab/hermitcrab/engine/LockMode;"⟩ : MethodName)) (z := (⟨"com/example/hermit_crab/hermitcrab/engine/RowLocking", "getKeptOnMatch", "()Lcom/example/hermit_crab/hermitcrab/engine/LockMode;"⟩ : MethodName)) hown (mvT hZ (hw _ (own_m 17 rfl))) (mvT hZ (hw _ (own_m 18 rfl))) (notFace_of_selects (args := #[]) (mvT hZ (hw _ (own_m 20 rfl)))) (mvT hZ (hw _ (own_m 20 rfl))) (mvT hZ (hw _ (own_m 19 rfl))) (by decide) (backOf (W := 0) (rm3r l Z a0 hw [] r7 lx h0 n0 Zle F_keptOnMatch_r7) hZ (hw _ (own_m 21 rfl)) (hw _ (own_m 6 rfl)) (by decide) (by decide)) q28a q28c (g := (mkF m 31 #[.val (.int x1), .val (.int 7), .val (.ref r7), .val (.int 1), .val (.int 1), .unset] [(.ref r7)])) rfl (by rw [hml]; rfl) (Steps.refl _) (argsL := []) (rest := []) (lenOf pd_2 rfl) rfl (own_le rfl) (hb hby at_31) (fun _ _ => ⟨rfl, e27, (by decide : 0 + 0 ≤ _), (by decide : 0 + 0 ≤ _)⟩)
    dsimp only [Pt.U, Pt.locs, Pt.cells, Pt.slots] at X28 l28 y28 z28 st28 hQ28
    subst l28 y28 z28
    obtain ⟨rfl, Nq28, e28⟩ := hQ28
    have N_ := Fr.app N_ Nq28
    refine own_by (T' := T28) (g' := (mkF m 34 #[.val (.int x1), .val (.int 7), .val (.ref r7), .val (.int 1), .val (.int 1), .unset] [(.ref lx)])) (fun t k => st28.trans k) ?_
    refine own_by (T' := T28) (g' := (mkF m 44 #[.val (.int x1), .val (.int 7), .val (.ref r7), .val (.int 1), .val (.int 1), .unset] [])) (fun t k => XS.ifnonnullYes X28.here hx rfl (pc0 := 34) (pc' := 44) rfl (hb hby at_34) rfl (by decide) (by decide) k) ?_
    refine own_by (T' := T28) (g' := (mkF m 45 #[.val (.int x1), .val (.int 7), .val (.ref r7), .val (.int 1), .val (.int 1), .unset] [(.int 1)])) (fun t k => XS.iconst X28.here hx rfl (hb hby at_44) k) ?_
    refine own_by (T' := T28) (g' := (mkF m 49 #[.val (.int x1), .val (.int 7), .val (.ref r7), .val (.int 1), .val (.int 1), .unset] [(.int 1)])) (fun t k => XS.goto X28.here hx rfl (pc0 := 45) (pc' := 49) rfl (hb hby at_45) (by decide) (by decide) k) ?_
    refine own_by (T' := T28) (g' := (mkF m 51 #[.val (.int x1), .val (.int 7), .val (.ref r7), .val (.int 1), .val (.int 1), .val (.int 1)] [])) (fun t k => XS.istore X28.here hx rfl (hb hby at_49) rfl (l' := #[.val (.int x1), .val (.int 7), .val (.ref r7), .val (.int 1), .val (.int 1), .val (.int 1)]) rfl k) ?_
    refine own_by (T' := T28) (g' := (mkF m 53 #[.val (.int x1), .val (.int 7), .val (.ref r7), .val (.int 1), .val (.int 1), .val (.int 1)] [(.int 1)])) (fun t k => XS.iload X28.here hx rfl (hb hby at_51) rfl k) ?_
    refine own_by (T' := T28) (g' := (mkF m 54 #[.val (.int x1), .val (.int 7), .val (.ref r7), .val (.int 1), .val (.int 1), .val (.int 1)] [(.int 1), (.int 1)])) (fun t k => XS.iloadN X28.here hx rfl (hb hby at_53) rfl k) ?_
    refine own_by (T' := T28) (g' := (mkF m 57 #[.val (.int x1), .val (.int 7), .val (.ref r7), .val (.int 1), .val (.int 1), .val (.int 1)] [])) (fun t k => XS.icmpNo X28.here hx rfl (hb hby at_54) rfl (teq (by decide)).2 k) ?_
    refine own_by (T' := T28) (g' := (mkF m 59 #[.val (.int x1), .val (.int 7), .val (.ref r7), .val (.int 1), .val (.int 1), .val (.int 1)] [(.int 1)])) (fun t k => XS.iload X28.here hx rfl (hb hby at_57) rfl k) ?_
    refine own_by (T' := T28) (g' := (mkF m 61 #[.val (.int x1), .val (.int 7), .val (.ref r7), .val (.int 1), .val (.int 1), .val (.int 1)] [(.int 1), (.int 1)])) (fun t k => XS.iload X28.here hx rfl (hb hby at_59) rfl k) ?_
    refine own_by (T' := T28) (g' := (mkF m 64 #[.val (.int x1), .val (.int 7), .val (.ref r7), .val (.int 1), .val (.int 1), .val (.int 1)] [])) (fun t k => XS.icmpNo X28.here hx rfl (hb hby at_61) rfl (teq (by decide)).2 k) ?_
    refine own_by (T' := T28) (g' := (mkF m 65 #[.val (.int x1), .val (.int 7), .val (.ref r7), .val (.int 1), .val (.int 1), .val (.int 1)] [(.int 1)])) (fun t k => XS.iconst X28.here hx rfl (hb hby at_64) k) ?_
    refine own_by (T' := T28) (g' := (mkF m 69 #[.val (.int x1), .val (.int 7), .val (.ref r7), .val (.int 1), .val (.int 1), .val (.int 1)] [(.int 1)])) (fun t k => XS.goto X28.here hx rfl (pc0 := 65) (pc' := 69) rfl (hb hby at_65) (by decide) (by decide) k) ?_
    exact own_retN X28 hx (t := .boolean) Bd.notSynchronized Bd.returns (by simp) (hb hby at_69) (by decide) (by decide) (by rw [e28]; exact ⟨rfl, N_⟩)
  · rw [hk]
    refine own_by (T' := s₁) (g' := (mkF m 9 #[.val (.int x1), .val (.int 8), .unset, .unset, .unset, .unset] [(.int 8)])) (fun t k => XS.iloadN X0.here hx rfl (hb hby at_8) rfl k) ?_
    obtain ⟨_, _, ⟨T29, L29, k29, n29⟩, -, X29, ⟨Lc29, hQ29, l29, y29, z29⟩, st29⟩ := Jvm.LawKit.callS X0 hx (y := (⟨"com/example/hermit_crab/hermitcrab/engine/RowLockingKeepsLocksPinLaw", "pick", "(I)Lcom/example/hermit_crab/hermitcrab/engine/RowLocking;"⟩ : MethodName)) hown (mvT hZ (hw _ (own_m 1 rfl))) (mvT hZ (hw _ (own_m 2 rfl))) (mvT hZ (hw _ (own_m 3 rfl))) (mvT hZ (hw _ (own_m 4 rfl))) (by decide) (backOf (W := 0) (rm1 l Z a0 hw [] (8 : Int32) r0 r1 r2 r3 r4 r5 r6 r7 r8 h0 n0 Zle S_NONE S_COMMITTED_VERSION S_SNAPSHOT_VERSION S_SHARED_WHILE_EXAMINED S_SHARED_ON_MATCHED S_SHARED_WITH_KEY_RANGES S_EXCLUSIVE_ON_MATCHED S_EXCLUSIVE_ON_SNAPSHOT_MATCH S_EXCLUSIVE_WITH_KEY_RANGES) hZ (hw _ (own_m 4 rfl)) (hw _ (own_m 3 rfl)) (by decide) (by decide)) (g := (mkF m 9 #[.val (.int x1), .val (.int 8), .unset, .unset, .unset, .unset] [(.int 8)])) rfl (by rw [hml]; rfl) (argsL := [(.int 8)]) (rest := []) (lenOf pd_0 rfl) rfl (own_le rfl) (hb hby at_9) (fun _ _ => ⟨rfl, e0, (by decide : 0 + 0 ≤ _), (by decide : 0 + 0 ≤ _)⟩)
    dsimp only [Pt.U, Pt.locs, Pt.cells, Pt.slots] at X29 l29 y29 z29 st29 hQ29
    subst l29 y29 z29
    obtain ⟨rfl, Nq29, e29⟩ := hQ29
    have N_ := Fr.app N_ Nq29
    refine own_by (T' := T29) (g' := (mkF m 12 #[.val (.int x1), .val (.int 8), .unset, .unset, .unset, .unset] [(.ref (own_pick (8 : Int32) r0 r1 r2 r3 r4 r5 r6 r7 r8))])) (fun t k => st29 _ k) ?_
    rw [show (own_pick (8 : Int32) r0 r1 r2 r3 r4 r5 r6 r7 r8) = r8 from by simp [own_pick]]
    refine own_by (T' := T29) (g' := (mkF m 13 #[.val (.int x1), .val (.int 8), .val (.ref r8), .unset, .unset, .unset] [])) (fun t k => XS.astoreN X29.here hx rfl (hb hby at_12) rfl rfl (l' := #[.val (.int x1), .val (.int 8), .val (.ref r8), .unset, .unset, .unset]) rfl k) ?_
    refine own_by (T' := T29) (g' := (mkF m 14 #[.val (.int x1), .val (.int 8), .val (.ref r8), .unset, .unset, .unset] [(.int 8)])) (fun t k => XS.iloadN X29.here hx rfl (hb hby at_13) rfl k) ?_
    refine own_by (T' := T29) (g' := (mkF m 15 #[.val (.int x1), .val (.int 8), .val (.ref r8), .unset, .unset, .unset] [(.int 4), (.int 8)])) (fun t k => XS.iconst X29.here hx rfl (hb hby at_14) k) ?_
    refine own_by (T' := T29) (g' := (mkF m 18 #[.val (.int x1), .val (.int 8), .val (.ref r8), .unset, .unset, .unset] [])) (fun t k => XS.icmpNo X29.here hx rfl (hb hby at_15) rfl (flt (by decide)).1 k) ?_
    refine own_by (T' := T29) (g' := (mkF m 19 #[.val (.int x1), .val (.int 8), .val (.ref r8), .unset, .unset, .unset] [(.int 1)])) (fun t k => XS.iconst X29.here hx rfl (hb hby at_18) k) ?_
    refine own_by (T' := T29) (g' := (mkF m 23 #[.val (.int x1), .val (.int 8), .val (.ref r8), .unset, .unset, .unset] [(.int 1)])) (fun t k => XS.goto X29.here hx rfl (pc0 := 19) (pc' := 23) rfl (hb hby at_19) (by decide) (by decide) k) ?_
    refine own_by (T' := T29) (g' := (mkF m 24 #[.val (.int x1), .val (.int 8), .val (.ref r8), .val (.int 1), .unset, .unset] [])) (fun t k => XS.istoreN X29.here hx rfl (hb hby at_23) rfl (l' := #[.val (.int x1), .val (.int 8), .val (.ref r8), .val (.int 1), .unset, .unset]) rfl k) ?_
    refine own_by (T' := T29) (g' := (mkF m 25 #[.val (.int x1), .val (.int 8), .val (.ref r8), .val (.int 1), .unset, .unset] [(.ref r8)])) (fun t k => XS.aloadN X29.here hx rfl (hb hby at_24) rfl rfl k) ?_
    obtain ⟨cq30, kq30, q30a, q30b, q30c⟩ := isOf hZ e29 E_r8
    obtain ⟨_, _, ⟨T30, L30, k30, n30⟩, -, X30, ⟨Lc30, hQ30, l30, y30, z30⟩, st30⟩ := X29.virtualBack hx (y := (⟨"com/example/hermit_crab/hermitcrab/engine/RowLocking", "keepsLocks", "()Z"⟩ : MethodName)) (z := (⟨"com/example/hermit_crab/hermitcrab/engine/RowLocking", "keepsLocks", "()Z"⟩ : MethodName)) hown (mvT hZ (hw _ (own_m 8 rfl))) (mvT hZ (hw _ (own_m 9 rfl))) (notFace_of_selects (args := #[]) (mvT hZ (hw _ (own_m 11 rfl)))) (mvT hZ (hw _ (own_m 11 rfl))) (mvT hZ (hw _ (own_m 10 rfl))) (by decide) (backOf (W := 0) (rm2r l Z a0 hw [] r8 lx h0 n0 Zle F_keptOnMatch_r8) hZ (hw _ (own_m 12 rfl)) (hw _ (own_m 6 rfl)) (by decide) (by decide)) q30a q30c (g := (mkF m 25 #[.val (.int x1), .val (.int 8), .val (.ref r8), .val (.int 1), .unset, .unset] [(.ref r8)])) rfl (by rw [hml]; rfl) (Steps.refl _) (argsL := []) (rest := []) (lenOf pd_1 rfl) rfl (own_le rfl) (hb hby at_25) (fun _ _ => ⟨rfl, e29, (by decide : 0 + 0 ≤ _), (by decide : 0 + 0 ≤ _)⟩)
    dsimp only [Pt.U, Pt.locs, Pt.cells, Pt.slots] at X30 l30 y30 z30 st30 hQ30
    subst l30 y30 z30
    obtain ⟨rfl, Nq30, e30⟩ := hQ30
    have N_ := Fr.app N_ Nq30
    refine own_by (T' := T30) (g' := (mkF m 28 #[.val (.int x1), .val (.int 8), .val (.ref r8), .val (.int 1), .unset, .unset] [(.int 1)])) (fun t k => st30.trans k) ?_
    refine own_by (T' := T30) (g' := (mkF m 30 #[.val (.int x1), .val (.int 8), .val (.ref r8), .val (.int 1), .val (.int 1), .unset] [])) (fun t k => XS.istore X30.here hx rfl (hb hby at_28) rfl (l' := #[.val (.int x1), .val (.int 8), .val (.ref r8), .val (.int 1), .val (.int 1), .unset]) rfl k) ?_
    refine own_by (T' := T30) (g' := (mkF m 31 #[.val (.int x1), .val (.int 8), .val (.ref r8), .val (.int 1), .val (.int 1), .unset] [(.ref r8)])) (fun t k => XS.aloadN X30.here hx rfl (hb hby at_30) rfl rfl k) ?_
    obtain ⟨cq31, kq31, q31a, q31b, q31c⟩ := isOf hZ e30 E_r8
    obtain ⟨_, _, ⟨T31, L31, k31, n31⟩, -, X31, ⟨Lc31, hQ31, l31, y31, z31⟩, st31⟩ := X30.virtualBack hx (y := (⟨"com/example/hermit_crab/hermitcrab/engine/RowLocking", "getKeptOnMatch", "()Lcom/example/hermit_crab/hermitcrab/engine/LockMode;"⟩ : MethodName)) (z := (⟨"com/example/hermit_crab/hermitcrab/engine/RowLocking", "getKeptOnMatch", "()Lcom/example/hermit_crab/hermitcrab/engine/LockMode;"⟩ : MethodName)) hown (mvT hZ (hw _ (own_m 17 rfl))) (mvT hZ (hw _ (own_m 18 rfl))) (notFace_of_selects (args := #[]) (mvT hZ (hw _ (own_m 20 rfl)))) (mvT hZ (hw _ (own_m 20 rfl))) (mvT hZ (hw _ (own_m 19 rfl))) (by decide) (backOf (W := 0) (rm3r l Z a0 hw [] r8 lx h0 n0 Zle F_keptOnMatch_r8) hZ (hw _ (own_m 21 rfl)) (hw _ (own_m 6 rfl)) (by decide) (by decide)) q31a q31c (g := (mkF m 31 #[.val (.int x1), .val (.int 8), .val (.ref r8), .val (.int 1), .val (.int 1), .unset] [(.ref r8)])) rfl (by rw [hml]; rfl) (Steps.refl _) (argsL := []) (rest := []) (lenOf pd_2 rfl) rfl (own_le rfl) (hb hby at_31) (fun _ _ => ⟨rfl, e30, (by decide : 0 + 0 ≤ _), (by decide : 0 + 0 ≤ _)⟩)
    dsimp only [Pt.U, Pt.locs, Pt.cells, Pt.slots] at X31 l31 y31 z31 st31 hQ31
    subst l31 y31 z31
    obtain ⟨rfl, Nq31, e31⟩ := hQ31
    have N_ := Fr.app N_ Nq31
    refine own_by (T' := T31) (g' := (mkF m 34 #[.val (.int x1), .val (.int 8), .val (.ref r8), .val (.int 1), .val (.int 1), .unset] [(.ref lx)])) (fun t k => st31.trans k) ?_
    refine own_by (T' := T31) (g' := (mkF m 44 #[.val (.int x1), .val (.int 8), .val (.ref r8), .val (.int 1), .val (.int 1), .unset] [])) (fun t k => XS.ifnonnullYes X31.here hx rfl (pc0 := 34) (pc' := 44) rfl (hb hby at_34) rfl (by decide) (by decide) k) ?_
    refine own_by (T' := T31) (g' := (mkF m 45 #[.val (.int x1), .val (.int 8), .val (.ref r8), .val (.int 1), .val (.int 1), .unset] [(.int 1)])) (fun t k => XS.iconst X31.here hx rfl (hb hby at_44) k) ?_
    refine own_by (T' := T31) (g' := (mkF m 49 #[.val (.int x1), .val (.int 8), .val (.ref r8), .val (.int 1), .val (.int 1), .unset] [(.int 1)])) (fun t k => XS.goto X31.here hx rfl (pc0 := 45) (pc' := 49) rfl (hb hby at_45) (by decide) (by decide) k) ?_
    refine own_by (T' := T31) (g' := (mkF m 51 #[.val (.int x1), .val (.int 8), .val (.ref r8), .val (.int 1), .val (.int 1), .val (.int 1)] [])) (fun t k => XS.istore X31.here hx rfl (hb hby at_49) rfl (l' := #[.val (.int x1), .val (.int 8), .val (.ref r8), .val (.int 1), .val (.int 1), .val (.int 1)]) rfl k) ?_
    refine own_by (T' := T31) (g' := (mkF m 53 #[.val (.int x1), .val (.int 8), .val (.ref r8), .val (.int 1), .val (.int 1), .val (.int 1)] [(.int 1)])) (fun t k => XS.iload X31.here hx rfl (hb hby at_51) rfl k) ?_
    refine own_by (T' := T31) (g' := (mkF m 54 #[.val (.int x1), .val (.int 8), .val (.ref r8), .val (.int 1), .val (.int 1), .val (.int 1)] [(.int 1), (.int 1)])) (fun t k => XS.iloadN X31.here hx rfl (hb hby at_53) rfl k) ?_
    refine own_by (T' := T31) (g' := (mkF m 57 #[.val (.int x1), .val (.int 8), .val (.ref r8), .val (.int 1), .val (.int 1), .val (.int 1)] [])) (fun t k => XS.icmpNo X31.here hx rfl (hb hby at_54) rfl (teq (by decide)).2 k) ?_
    refine own_by (T' := T31) (g' := (mkF m 59 #[.val (.int x1), .val (.int 8), .val (.ref r8), .val (.int 1), .val (.int 1), .val (.int 1)] [(.int 1)])) (fun t k => XS.iload X31.here hx rfl (hb hby at_57) rfl k) ?_
    refine own_by (T' := T31) (g' := (mkF m 61 #[.val (.int x1), .val (.int 8), .val (.ref r8), .val (.int 1), .val (.int 1), .val (.int 1)] [(.int 1), (.int 1)])) (fun t k => XS.iload X31.here hx rfl (hb hby at_59) rfl k) ?_
    refine own_by (T' := T31) (g' := (mkF m 64 #[.val (.int x1), .val (.int 8), .val (.ref r8), .val (.int 1), .val (.int 1), .val (.int 1)] [])) (fun t k => XS.icmpNo X31.here hx rfl (hb hby at_61) rfl (teq (by decide)).2 k) ?_
    refine own_by (T' := T31) (g' := (mkF m 65 #[.val (.int x1), .val (.int 8), .val (.ref r8), .val (.int 1), .val (.int 1), .val (.int 1)] [(.int 1)])) (fun t k => XS.iconst X31.here hx rfl (hb hby at_64) k) ?_
    refine own_by (T' := T31) (g' := (mkF m 69 #[.val (.int x1), .val (.int 8), .val (.ref r8), .val (.int 1), .val (.int 1), .val (.int 1)] [(.int 1)])) (fun t k => XS.goto X31.here hx rfl (pc0 := 65) (pc' := 69) rfl (hb hby at_65) (by decide) (by decide) k) ?_
    exact own_retN X31 hx (t := .boolean) Bd.notSynchronized Bd.returns (by simp) (hb hby at_69) (by decide) (by decide) (by rw [e31]; exact ⟨rfl, N_⟩)

set_option maxRecDepth 65536 in
set_option maxHeartbeats 40000000 in
theorem comes_1 {Post : Tables → Env → Array Value → State → Outcome → State → Prop} (hpost : ∀ tb e args s v u, (limb_1_1.after args s (.returned v) u = true ∧ limb_1_2.after args s (.returned v) u = true ∧ True) → FrameEnd s (.returned v) u (Jvm.fieldLocs frame_1_writes args s ++ Jvm.arrayLocs frame_1_arrays args s ++ Jvm.staticLocs frame_1_statics s) 0 0 → Post tb e args s (.returned v) u) :
    ArmFor flags0 classFile x code maxLocals ret World_1 tables_1 room_1 Calls_1 rest_1 Pre_1 Post := by
  intro l hfl _ _ p e ha hc hk s m args below hf hA hF happ hP
  obtain ⟨hcalls, hrest, hpre⟩ := hP
  obtain ⟨-, -, -, hnamed, -, -, -, hat⟩ := (Spec.applies_iff hf).mp happ
  obtain ⟨hg, hn⟩ := and_e (Cond.before_iff.mp (show (Jvm.Cond.and given_1 narrow_1).before args s = true from hpre))
  obtain ⟨hcount, g0⟩ := and_e hg
  obtain ⟨w0, rfl⟩ : ∃ w0 : Value, args = #[w0] := by
    have hs : args.size = 1 := by simpa [Cond.value, given_1] using hcount
    obtain ⟨L⟩ := args
    match L, hs with
    | [w0], _ => exact ⟨w0, rfl⟩
  have hw := fun d (hd : d ∈ tables_1) => atoms_spec (ws := Jvm.Cond.code x code maxLocals ret :: tables_1) hat d (List.mem_cons_of_mem _ hd)
  have hfit : Fit s := fun {y c} hc i hi => by
    obtain ⟨ha, rfl⟩ := Array.getElem?_eq_some_iff.mp hc
    have q := List.all_eq_true.mp ((Array.all_eq_true_iff_forall_mem.mp hF) _ (Array.getElem_mem ha)) i (List.mem_range.mpr hi)
    simpa [Array.getElem?_eq_getElem hi] using q
  obtain ⟨i0, ei0⟩ := is_v g0
  obtain rfl : w0 = (.int i0) := Option.some.inj ei0
  obtain ⟨na0, nb0⟩ := and_e hn
  obtain ⟨na1, nb1⟩ := and_e nb0
  obtain ⟨na2, nb2⟩ := and_e nb1
  obtain ⟨na3, nb3⟩ := and_e nb2
  obtain ⟨na4, nb4⟩ := and_e nb3
  obtain ⟨na5, nb5⟩ := and_e nb4
  obtain ⟨na6, nb6⟩ := and_e nb5
  obtain ⟨na7, nb7⟩ := and_e nb6
  obtain ⟨na8, nb8⟩ := and_e nb7
  obtain ⟨na9, nb9⟩ := and_e nb8
  obtain ⟨na10, nb10⟩ := and_e nb9
  obtain ⟨na11, nb11⟩ := and_e nb10
  obtain ⟨na12, nb12⟩ := and_e nb11
  obtain ⟨na13, nb13⟩ := and_e nb12
  obtain ⟨na14, nb14⟩ := and_e nb13
  obtain ⟨na15, nb15⟩ := and_e nb14
  obtain ⟨na16, nb16⟩ := and_e nb15
  obtain ⟨na17, nb17⟩ := and_e nb16
  obtain ⟨na18, nb18⟩ := and_e nb17
  obtain ⟨na19, nb19⟩ := and_e nb18
  obtain ⟨na20, nb20⟩ := and_e nb19
  obtain ⟨na21, nb21⟩ := and_e nb20
  obtain ⟨na22, nb22⟩ := and_e nb21
  obtain ⟨na23, nb23⟩ := and_e nb22
  obtain ⟨na24, nb24⟩ := and_e nb23
  obtain ⟨na25, nb25⟩ := and_e nb24
  obtain ⟨na26, nb26⟩ := and_e nb25
  obtain ⟨na27, nb27⟩ := and_e nb26
  obtain ⟨r0, ev_r0⟩ := exa_v na0
  have E_r0 := Exa.start ev_r0 na0
  have S_NONE := Sta.start ev_r0 (Or.inr ⟨(hw _ (own_m 6 rfl)), (hw _ (own_m 7 rfl))⟩)
  obtain ⟨r3, ev_r3⟩ := exa_v na3
  have E_r3 := Exa.start ev_r3 na3
  have S_SHARED_WHILE_EXAMINED := Sta.start ev_r3 (Or.inr ⟨(hw _ (own_m 6 rfl)), (hw _ (own_m 28 rfl))⟩)
  obtain ⟨r2, ev_r2⟩ := exa_v na6
  have E_r2 := Exa.start ev_r2 na6
  have S_SNAPSHOT_VERSION := Sta.start ev_r2 (Or.inr ⟨(hw _ (own_m 6 rfl)), (hw _ (own_m 30 rfl))⟩)
  obtain ⟨r1, ev_r1⟩ := exa_v na9
  have E_r1 := Exa.start ev_r1 na9
  have S_COMMITTED_VERSION := Sta.start ev_r1 (Or.inr ⟨(hw _ (own_m 6 rfl)), (hw _ (own_m 32 rfl))⟩)
  obtain ⟨r7, ev_r7⟩ := exa_v na12
  have E_r7 := Exa.start ev_r7 na12
  have S_EXCLUSIVE_ON_SNAPSHOT_MATCH := Sta.start ev_r7 (Or.inr ⟨(hw _ (own_m 6 rfl)), (hw _ (own_m 34 rfl))⟩)
  obtain ⟨lx, ev_lx⟩ := exa_v na13
  have E_lx := Exa.start ev_lx na13
  have S_EXCLUSIVE := Sta.start ev_lx (Or.inr ⟨(hw _ (own_m 35 rfl)), (hw _ (own_m 36 rfl))⟩)
  obtain ⟨r4, ev_r4⟩ := exa_v na15
  have E_r4 := Exa.start ev_r4 na15
  have S_SHARED_ON_MATCHED := Sta.start ev_r4 (Or.inr ⟨(hw _ (own_m 6 rfl)), (hw _ (own_m 38 rfl))⟩)
  obtain ⟨ls, ev_ls⟩ := exa_v na16
  have E_ls := Exa.start ev_ls na16
  have S_SHARED := Sta.start ev_ls (Or.inr ⟨(hw _ (own_m 35 rfl)), (hw _ (own_m 39 rfl))⟩)
  obtain ⟨r8, ev_r8⟩ := exa_v na18
  have E_r8 := Exa.start ev_r8 na18
  have S_EXCLUSIVE_WITH_KEY_RANGES := Sta.start ev_r8 (Or.inr ⟨(hw _ (own_m 6 rfl)), (hw _ (own_m 41 rfl))⟩)
  obtain ⟨r6, ev_r6⟩ := exa_v na20
  have E_r6 := Exa.start ev_r6 na20
  have S_EXCLUSIVE_ON_MATCHED := Sta.start ev_r6 (Or.inr ⟨(hw _ (own_m 6 rfl)), (hw _ (own_m 43 rfl))⟩)
  obtain ⟨r5, ev_r5⟩ := exa_v na22
  have E_r5 := Exa.start ev_r5 na22
  have S_SHARED_WITH_KEY_RANGES := Sta.start ev_r5 (Or.inr ⟨(hw _ (own_m 6 rfl)), (hw _ (own_m 45 rfl))⟩)
  have F_keptOnMatch_r0 := Fld.start ((fld_at ev_r0).symm.trans (null_v na1))
  have F_keptOnMiss_r0 := Fld.start ((fld_at ev_r0).symm.trans (null_v na2))
  have F_keptOnMatch_r3 := Fld.start ((fld_at ev_r3).symm.trans (null_v na4))
  have F_keptOnMiss_r3 := Fld.start ((fld_at ev_r3).symm.trans (null_v na5))
  have F_keptOnMatch_r2 := Fld.start ((fld_at ev_r2).symm.trans (null_v na7))
  have F_keptOnMiss_r2 := Fld.start ((fld_at ev_r2).symm.trans (null_v na8))
  have F_keptOnMatch_r1 := Fld.start ((fld_at ev_r1).symm.trans (null_v na10))
  have F_keptOnMiss_r1 := Fld.start ((fld_at ev_r1).symm.trans (null_v na11))
  have F_keptOnMatch_r7 := Fld.start ((fld_at ev_r7).symm.trans (own_eq_ref na14 ev_lx))
  have F_keptOnMatch_r4 := Fld.start ((fld_at ev_r4).symm.trans (own_eq_ref na17 ev_ls))
  have F_keptOnMatch_r8 := Fld.start ((fld_at ev_r8).symm.trans (own_eq_ref na19 ev_lx))
  have F_keptOnMatch_r6 := Fld.start ((fld_at ev_r6).symm.trans (own_eq_ref na21 ev_lx))
  have F_keptOnMatch_r5 := Fld.start ((fld_at ev_r5).symm.trans (own_eq_ref na23 ev_ls))
  have F_keptOnMiss_r7 := Fld.start ((fld_at ev_r7).symm.trans (null_v na24))
  have F_keptOnMiss_r4 := Fld.start ((fld_at ev_r4).symm.trans (null_v na25))
  have F_keptOnMiss_r8 := Fld.start ((fld_at ev_r8).symm.trans (own_eq_ref na26 ev_ls))
  have F_keptOnMiss_r6 := Fld.start ((fld_at ev_r6).symm.trans (null_v na27))
  have F_keptOnMiss_r5 := Fld.start ((fld_at ev_r5).symm.trans (own_eq_ref nb27 ev_ls))
  obtain ⟨n, o, h1, h2, h3, _, L, rfl, ⟨rfl, N⟩, hq⟩ := rm0 l s _ hw tables_1 i0 r0 r1 r2 r3 r4 r5 r6 r7 r8 lx ls s.heap s.heap.size (Nat.le_refl _) E_r0 S_NONE E_r3 S_SHARED_WHILE_EXAMINED E_r2 S_SNAPSHOT_VERSION E_r1 S_COMMITTED_VERSION E_r7 S_EXCLUSIVE_ON_SNAPSHOT_MATCH E_lx S_EXCLUSIVE E_r4 S_SHARED_ON_MATCHED E_ls S_SHARED E_r8 S_EXCLUSIVE_WITH_KEY_RANGES E_r6 S_EXCLUSIVE_ON_MATCHED E_r5 S_SHARED_WITH_KEY_RANGES F_keptOnMatch_r0 F_keptOnMiss_r0 F_keptOnMatch_r3 F_keptOnMiss_r3 F_keptOnMatch_r2 F_keptOnMiss_r2 F_keptOnMatch_r1 F_keptOnMiss_r1 F_keptOnMatch_r7 F_keptOnMatch_r4 F_keptOnMatch_r8 F_keptOnMatch_r6 F_keptOnMatch_r5 F_keptOnMiss_r7 F_keptOnMiss_r4 F_keptOnMiss_r8 F_keptOnMiss_r6 F_keptOnMiss_r5 p e ha hc hk s m _ below hf ((Spec.applies_iff_loose hf).mp happ).1 ⟨rfl, State.Warmed39.refl s, rfl⟩ trivial
  refine ⟨n, _, h1, h2, h3, hpost _ _ _ _ _ _ ⟨Cond.after_iff.mpr rfl, Cond.after_iff.mpr (eq_i res_at (Term.int_eval (1)) rfl), trivial⟩ ⟨hq.1, hq.2.1, (hq.2.2.sift fun y hy => Or.inr (N y hy)).mono (by decide) (by decide)⟩⟩
theorem main_1_1 : Claimed_1_1 := comes_1 fun _ _ _ _ _ _ h hF => ⟨h.1, hF⟩
theorem main_1_2 : Claimed_1_2 := comes_1 fun _ _ _ _ _ _ h hF => ⟨h.2.1, hF⟩

end Jvm.Pilot.@@N@@
namespace Jvm.Pilot.@@N@@
open Jvm Jvm.ClassFile Sem Op Lib Jvm.Free Jvm.Stand Jvm.Pilot.@@N@@.Jvm.D
/-! MADE BY PROGRAM (witnessworld.py) out of the Statement's table words and the real class files: 13 classes; the members and pool entries that the words name. The judged class is class 1, her method 2. -/
namespace start1
open Jvm.ClassFile
def u (s : String) : CpInfo := .utf8 (stringToUtf16 s)
/-- a pool by its gaps: so many unusable entries, then the entry; so many at the end -/
def gap : Nat → List CpInfo → List CpInfo
  | 0, r => r
  | n + 1, r => .unusable :: gap n r
def poolList (es : List (Nat × CpInfo)) (last : Nat) : List CpInfo := es.foldr (fun e r => gap e.1 (e.2 :: r)) (gap last [])
def pool (es : List (Nat × CpInfo)) (last : Nat) : Array CpInfo := ⟨poolList es last⟩
def fileOf (pool : Array CpInfo) (this : Nat) (attrs : Array Attribute := #[]) (ms : Array MethodInfo := #[]) (fl : Nat := 33) (sup : Nat := 0) (ifs : Array Nat := #[]) (fds : Array FieldInfo := #[]) : ClassFile where
  minorVersion := 0
  majorVersion := 65
  constantPool := pool
  accessFlags := fl
  thisClass := this
  superClass := sup
  interfaces := ifs
  fields := fds
  methods := ms
  attributes := attrs
def plain (name : String) (sup : Option ClassId) : Class where
  name := name
  kind := .ordinary
  loader := none
  accessFlags := 33
  super := sup
  interfaces := #[]
  cf := none
  fields := #[]
  methods := #[]
  instanceTypes := #[]
  staticTypes := #[]
  resolved := #[]
  callSites := []
  init := .initialized
  statics := none
  mirror := none

def pool0 : Array CpInfo := pool [(5, u "<init>"), (0, u "()V"), (1, .class_ 10), (1, u "java/lang/Object")] 113

def k0m0 : Method := { name := "<init>", desc := "()V", sig := { parameters := [], returnType := none }, accessFlags := 1, code := none }
/-- java/lang/Object -/
def k0 : Class := { plain "java/lang/Object" none with
  accessFlags := 33
  interfaces := #[]
  cf := some (fileOf pool0 8 #[] #[{ accessFlags := 1, nameIndex := 5, descriptorIndex := 6, attributes := #[] }] 33 0 #[] #[])
  fields := #[]
  methods := #[k0m0]
  instanceTypes := #[]
  staticTypes := #[]
  resolved := Array.replicate 124 none
  statics := none }

def pool1 : Array CpInfo := pool [(2, .class_ 4), (1, u "java/lang/Object"), (0, u "<init>"), (0, u "()V"), (0, .fieldref 8 9), (0, .class_ 10), (0, .nameAndType 11 12), (0, u "com/example/hermit_crab/hermitcrab/engine/RowLocking"), (0, u "NONE"), (0, u "Lcom/example/hermit_crab/hermitcrab/engine/RowLocking;"), (0, .fieldref 8 14), (0, .nameAndType 15 12), (0, u "COMMITTED_VERSION"), (0, .fieldref 8 17), (0, .nameAndType 18 12), (0, u "SNAPSHOT_VERSION"), (0, .fieldref 8 20), (0, .nameAndType 21 12), (0, u "SHARED_WHILE_EXAMINED"), (0, .fieldref 8 23), (0, .nameAndType 24 12), (0, u "SHARED_ON_MATCHED"), (0, .fieldref 8 26), (0, .nameAndType 27 12), (0, u "SHARED_WITH_KEY_RANGES"), (0, .fieldref 8 29), (0, .nameAndType 30 12), (0, u "EXCLUSIVE_ON_MATCHED"), (0, .fieldref 8 32), (0, .nameAndType 33 12), (0, u "EXCLUSIVE_ON_SNAPSHOT_MATCH"), (0, .fieldref 8 35), (0, .nameAndType 36 12), (0, u "EXCLUSIVE_WITH_KEY_RANGES"), (0, .integer 2147483647), (0, .methodref 39 40), (0, .class_ 41), (0, .nameAndType 42 43), (0, u "com/example/hermit_crab/hermitcrab/engine/RowLockingKeepsLocksPinLaw"), (0, u "pick"), (0, u "(I)Lcom/example/hermit_crab/hermitcrab/engine/RowLocking;"), (0, .methodref 8 45), (0, .nameAndType 46 47), (0, u "keepsLocks"), (0, u "()Z"), (0, .methodref 8 49), (0, .nameAndType 50 51), (0, u "getKeptOnMatch"), (0, u "()Lcom/example/hermit_crab/hermitcrab/engine/LockMode;"), (0, .methodref 8 53), (0, .nameAndType 54 51), (0, u "getKeptOnMiss"), (3, u "law"), (0, u "(I)Z")] 2

def k1m0 : Method := { name := "<init>", desc := "()V", sig := { parameters := [], returnType := none }, accessFlags := 1, code := none }
def k1c1 : Code := { maxStack := 2, maxLocals := 1, code := method_2_code, exceptionTable := #[], attributes := #[] }
def k1m1 : Method := { name := "pick", desc := "(I)Lcom/example/hermit_crab/hermitcrab/engine/RowLocking;", sig := { parameters := [.int], returnType := some (.object "com/example/hermit_crab/hermitcrab/engine/RowLocking") }, accessFlags := 10, code := some k1c1 }
def k1c2 : Code := { maxStack := 2, maxLocals := 6, code := code, exceptionTable := #[], attributes := #[] }
def k1m2 : Method := { name := "law", desc := "(I)Z", sig := { parameters := [.int], returnType := some .boolean }, accessFlags := 9, code := some k1c2 }
/-- com/example/hermit_crab/hermitcrab/engine/RowLockingKeepsLocksPinLaw -/
def k1 : Class := { plain "com/example/hermit_crab/hermitcrab/engine/RowLockingKeepsLocksPinLaw" (some 0) with
  accessFlags := 49
  interfaces := #[]
  cf := some (fileOf pool1 39 #[] #[{ accessFlags := 1, nameIndex := 5, descriptorIndex := 6, attributes := #[] }, { accessFlags := 10, nameIndex := 42, descriptorIndex := 43, attributes := #[] }, { accessFlags := 9, nameIndex := 58, descriptorIndex := 59, attributes := #[] }] 49 2 #[] #[])
  fields := #[]
  methods := #[k1m0, k1m1, k1m2]
  instanceTypes := #[]
  staticTypes := #[]
  resolved := Array.replicate 62 none
  statics := none }

def pool2 : Array CpInfo := pool [(1, .class_ 2), (0, u "java/lang/constant/Constable"), (0, .class_ 4), (0, u "java/lang/Object")] 6

/-- java/lang/constant/Constable -/
def k2 : Class := { plain "java/lang/constant/Constable" (some 0) with
  accessFlags := 1537
  interfaces := #[]
  cf := some (fileOf pool2 1 #[] #[] 1537 3 #[] #[])
  fields := #[]
  methods := #[]
  instanceTypes := #[]
  staticTypes := #[]
  resolved := Array.replicate 11 none
  statics := none }

def pool3 : Array CpInfo := pool [(1, .class_ 2), (0, u "java/lang/Comparable"), (0, .class_ 4), (0, u "java/lang/Object")] 7

/-- java/lang/Comparable -/
def k3 : Class := { plain "java/lang/Comparable" (some 0) with
  accessFlags := 1537
  interfaces := #[]
  cf := some (fileOf pool3 1 #[] #[] 1537 3 #[] #[])
  fields := #[]
  methods := #[]
  instanceTypes := #[]
  staticTypes := #[]
  resolved := Array.replicate 12 none
  statics := none }

def pool4 : Array CpInfo := pool [(1, .class_ 2), (0, u "java/io/Serializable"), (0, .class_ 4), (0, u "java/lang/Object")] 2

/-- java/io/Serializable -/
def k4 : Class := { plain "java/io/Serializable" (some 0) with
  accessFlags := 1537
  interfaces := #[]
  cf := some (fileOf pool4 1 #[] #[] 1537 3 #[] #[])
  fields := #[]
  methods := #[]
  instanceTypes := #[]
  staticTypes := #[]
  resolved := Array.replicate 7 none
  statics := none }

def pool5 : Array CpInfo := pool [(2, .class_ 4), (1, u "java/lang/Enum"), (0, u "name"), (0, u "Ljava/lang/String;"), (2, u "ordinal"), (0, u "I"), (1, .class_ 14), (1, u "java/lang/Object"), (4, u "hash"), (86, .class_ 108), (1, u "java/lang/Enum$EnumDesc"), (2, .class_ 112), (0, u "java/lang/constant/Constable"), (0, .class_ 114), (0, u "java/lang/Comparable"), (0, .class_ 116), (0, u "java/io/Serializable")] 87

/-- java/lang/Enum -/
def k5 : Class := { plain "java/lang/Enum" (some 0) with
  accessFlags := 1057
  interfaces := #[2, 3, 4]
  cf := some (fileOf pool5 2 #[.nestMembers #[106]] #[] 1057 12 #[111, 113, 115] #[{ accessFlags := 18, nameIndex := 5, descriptorIndex := 6, attributes := #[] }, { accessFlags := 18, nameIndex := 9, descriptorIndex := 10, attributes := #[] }, { accessFlags := 2, nameIndex := 19, descriptorIndex := 10, attributes := #[] }])
  fields := #[{ name := "name", type := (.object "java/lang/String"), accessFlags := 18, slot := 0, constantValue := 0 }, { name := "ordinal", type := .int, accessFlags := 18, slot := 1, constantValue := 0 }, { name := "hash", type := .int, accessFlags := 2, slot := 2, constantValue := 0 }]
  methods := #[]
  instanceTypes := #[(.object "java/lang/String"), .int, .int]
  staticTypes := #[]
  resolved := Array.replicate 204 none
  statics := none }

def pool6 : Array CpInfo := pool [(1, .class_ 2), (0, u "com/example/hermit_crab/hermitcrab/engine/RowLocking"), (2, u "NONE"), (0, u "Lcom/example/hermit_crab/hermitcrab/engine/RowLocking;"), (2, u "COMMITTED_VERSION"), (2, u "SNAPSHOT_VERSION"), (2, u "SHARED_WHILE_EXAMINED"), (2, u "SHARED_ON_MATCHED"), (2, u "SHARED_WITH_KEY_RANGES"), (2, u "EXCLUSIVE_ON_MATCHED"), (2, u "EXCLUSIVE_ON_SNAPSHOT_MATCH"), (2, u "EXCLUSIVE_WITH_KEY_RANGES"), (2, u "$VALUES"), (0, u "[Lcom/example/hermit_crab/hermitcrab/engine/RowLocking;"), (6, .class_ 43), (1, u "java/lang/Enum"), (8, u "mode"), (0, u "Lcom/example/hermit_crab/hermitcrab/engine/LockMode;"), (0, .fieldref 1 55), (0, .nameAndType 56 53), (0, u "keptOnMatch"), (0, .fieldref 1 58), (0, .nameAndType 59 53), (0, u "keptOnMiss"), (2, u "lockingKeyRanges"), (0, u "Z"), (2, u "version"), (0, u "Lcom/example/hermit_crab/hermitcrab/engine/RowVersion;"), (2, u "failureKeepsReads"), (15, u "()Z"), (6, u "LEVELS"), (0, u "Ljava/util/Map;"), (6, .class_ 102), (0, u "com/example/hermit_crab/hermitcrab/engine/RowLocking$Level"), (27, u "keepsLocks"), (61, u "()Lcom/example/hermit_crab/hermitcrab/engine/LockMode;"), (0, u "getKeptOnMatch"), (0, u "getKeptOnMiss")] 14

def k6c0 : Code := { maxStack := 1, maxLocals := 1, code := prog_20_method_7_code, exceptionTable := #[], attributes := #[] }
def k6m0 : Method := { name := "getKeptOnMatch", desc := "()Lcom/example/hermit_crab/hermitcrab/engine/LockMode;", sig := { parameters := [], returnType := some (.object "com/example/hermit_crab/hermitcrab/engine/LockMode") }, accessFlags := 0, code := some k6c0 }
def k6c1 : Code := { maxStack := 1, maxLocals := 1, code := prog_20_method_8_code, exceptionTable := #[], attributes := #[] }
def k6m1 : Method := { name := "getKeptOnMiss", desc := "()Lcom/example/hermit_crab/hermitcrab/engine/LockMode;", sig := { parameters := [], returnType := some (.object "com/example/hermit_crab/hermitcrab/engine/LockMode") }, accessFlags := 0, code := some k6c1 }
def k6c2 : Code := { maxStack := 1, maxLocals := 1, code := prog_20_method_15_code, exceptionTable := #[], attributes := #[] }
def k6m2 : Method := { name := "keepsLocks", desc := "()Z", sig := { parameters := [], returnType := some .boolean }, accessFlags := 0, code := some k6c2 }
/-- com/example/hermit_crab/hermitcrab/engine/RowLocking -/
def k6 : Class := { plain "com/example/hermit_crab/hermitcrab/engine/RowLocking" (some 5) with
  accessFlags := 16432
  interfaces := #[]
  cf := some (fileOf pool6 1 #[.nestMembers #[101]] #[{ accessFlags := 0, nameIndex := 193, descriptorIndex := 192, attributes := #[] }, { accessFlags := 0, nameIndex := 194, descriptorIndex := 192, attributes := #[] }, { accessFlags := 0, nameIndex := 130, descriptorIndex := 86, attributes := #[] }] 16432 41 #[] #[{ accessFlags := 16409, nameIndex := 5, descriptorIndex := 6, attributes := #[] }, { accessFlags := 16409, nameIndex := 9, descriptorIndex := 6, attributes := #[] }, { accessFlags := 16409, nameIndex := 12, descriptorIndex := 6, attributes := #[] }, { accessFlags := 16409, nameIndex := 15, descriptorIndex := 6, attributes := #[] }, { accessFlags := 16409, nameIndex := 18, descriptorIndex := 6, attributes := #[] }, { accessFlags := 16409, nameIndex := 21, descriptorIndex := 6, attributes := #[] }, { accessFlags := 16409, nameIndex := 24, descriptorIndex := 6, attributes := #[] }, { accessFlags := 16409, nameIndex := 27, descriptorIndex := 6, attributes := #[] }, { accessFlags := 16409, nameIndex := 30, descriptorIndex := 6, attributes := #[] }, { accessFlags := 26, nameIndex := 93, descriptorIndex := 94, attributes := #[] }, { accessFlags := 18, nameIndex := 52, descriptorIndex := 53, attributes := #[] }, { accessFlags := 18, nameIndex := 56, descriptorIndex := 53, attributes := #[] }, { accessFlags := 18, nameIndex := 59, descriptorIndex := 53, attributes := #[] }, { accessFlags := 18, nameIndex := 62, descriptorIndex := 63, attributes := #[] }, { accessFlags := 18, nameIndex := 66, descriptorIndex := 67, attributes := #[] }, { accessFlags := 18, nameIndex := 70, descriptorIndex := 63, attributes := #[] }, { accessFlags := 4122, nameIndex := 33, descriptorIndex := 34, attributes := #[] }])
  fields := #[{ name := "NONE", type := (.object "com/example/hermit_crab/hermitcrab/engine/RowLocking"), accessFlags := 16409, slot := 0, constantValue := 0 }, { name := "COMMITTED_VERSION", type := (.object "com/example/hermit_crab/hermitcrab/engine/RowLocking"), accessFlags := 16409, slot := 1, constantValue := 0 }, { name := "SNAPSHOT_VERSION", type := (.object "com/example/hermit_crab/hermitcrab/engine/RowLocking"), accessFlags := 16409, slot := 2, constantValue := 0 }, { name := "SHARED_WHILE_EXAMINED", type := (.object "com/example/hermit_crab/hermitcrab/engine/RowLocking"), accessFlags := 16409, slot := 3, constantValue := 0 }, { name := "SHARED_ON_MATCHED", type := (.object "com/example/hermit_crab/hermitcrab/engine/RowLocking"), accessFlags := 16409, slot := 4, constantValue := 0 }, { name := "SHARED_WITH_KEY_RANGES", type := (.object "com/example/hermit_crab/hermitcrab/engine/RowLocking"), accessFlags := 16409, slot := 5, constantValue := 0 }, { name := "EXCLUSIVE_ON_MATCHED", type := (.object "com/example/hermit_crab/hermitcrab/engine/RowLocking"), accessFlags := 16409, slot := 6, constantValue := 0 }, { name := "EXCLUSIVE_ON_SNAPSHOT_MATCH", type := (.object "com/example/hermit_crab/hermitcrab/engine/RowLocking"), accessFlags := 16409, slot := 7, constantValue := 0 }, { name := "EXCLUSIVE_WITH_KEY_RANGES", type := (.object "com/example/hermit_crab/hermitcrab/engine/RowLocking"), accessFlags := 16409, slot := 8, constantValue := 0 }, { name := "LEVELS", type := (.object "java/util/Map"), accessFlags := 26, slot := 9, constantValue := 0 }, { name := "mode", type := (.object "com/example/hermit_crab/hermitcrab/engine/LockMode"), accessFlags := 18, slot := 3, constantValue := 0 }, { name := "keptOnMatch", type := (.object "com/example/hermit_crab/hermitcrab/engine/LockMode"), accessFlags := 18, slot := 4, constantValue := 0 }, { name := "keptOnMiss", type := (.object "com/example/hermit_crab/hermitcrab/engine/LockMode"), accessFlags := 18, slot := 5, constantValue := 0 }, { name := "lockingKeyRanges", type := .boolean, accessFlags := 18, slot := 6, constantValue := 0 }, { name := "version", type := (.object "com/example/hermit_crab/hermitcrab/engine/RowVersion"), accessFlags := 18, slot := 7, constantValue := 0 }, { name := "failureKeepsReads", type := .boolean, accessFlags := 18, slot := 8, constantValue := 0 }, { name := "$VALUES", type := (.array (.object "com/example/hermit_crab/hermitcrab/engine/RowLocking")), accessFlags := 4122, slot := 10, constantValue := 0 }]
  methods := #[k6m0, k6m1, k6m2]
  instanceTypes := #[(.object "java/lang/String"), .int, .int, (.object "com/example/hermit_crab/hermitcrab/engine/LockMode"), (.object "com/example/hermit_crab/hermitcrab/engine/LockMode"), (.object "com/example/hermit_crab/hermitcrab/engine/LockMode"), .boolean, (.object "com/example/hermit_crab/hermitcrab/engine/RowVersion"), .boolean]
  staticTypes := #[(.object "com/example/hermit_crab/hermitcrab/engine/RowLocking"), (.object "com/example/hermit_crab/hermitcrab/engine/RowLocking"), (.object "com/example/hermit_crab/hermitcrab/engine/RowLocking"), (.object "com/example/hermit_crab/hermitcrab/engine/RowLocking"), (.object "com/example/hermit_crab/hermitcrab/engine/RowLocking"), (.object "com/example/hermit_crab/hermitcrab/engine/RowLocking"), (.object "com/example/hermit_crab/hermitcrab/engine/RowLocking"), (.object "com/example/hermit_crab/hermitcrab/engine/RowLocking"), (.object "com/example/hermit_crab/hermitcrab/engine/RowLocking"), (.object "java/util/Map"), (.array (.object "com/example/hermit_crab/hermitcrab/engine/RowLocking"))]
  resolved := Array.replicate 209 none
  statics := some 0 }

def pool7 : Array CpInfo := pool [(1, .class_ 2), (0, u "com/example/hermit_crab/hermitcrab/engine/LockMode"), (2, u "SHARED"), (0, u "Lcom/example/hermit_crab/hermitcrab/engine/LockMode;"), (2, u "EXCLUSIVE"), (2, u "RANGE_SHARED"), (2, u "RANGE_INSERT"), (2, u "$VALUES"), (0, u "[Lcom/example/hermit_crab/hermitcrab/engine/LockMode;"), (6, .class_ 28), (1, u "java/lang/Enum")] 61

/-- com/example/hermit_crab/hermitcrab/engine/LockMode -/
def k7 : Class := { plain "com/example/hermit_crab/hermitcrab/engine/LockMode" (some 5) with
  accessFlags := 16432
  interfaces := #[]
  cf := some (fileOf pool7 1 #[] #[] 16432 26 #[] #[{ accessFlags := 16409, nameIndex := 5, descriptorIndex := 6, attributes := #[] }, { accessFlags := 16409, nameIndex := 9, descriptorIndex := 6, attributes := #[] }, { accessFlags := 16409, nameIndex := 12, descriptorIndex := 6, attributes := #[] }, { accessFlags := 16409, nameIndex := 15, descriptorIndex := 6, attributes := #[] }, { accessFlags := 4122, nameIndex := 18, descriptorIndex := 19, attributes := #[] }])
  fields := #[{ name := "SHARED", type := (.object "com/example/hermit_crab/hermitcrab/engine/LockMode"), accessFlags := 16409, slot := 0, constantValue := 0 }, { name := "EXCLUSIVE", type := (.object "com/example/hermit_crab/hermitcrab/engine/LockMode"), accessFlags := 16409, slot := 1, constantValue := 0 }, { name := "RANGE_SHARED", type := (.object "com/example/hermit_crab/hermitcrab/engine/LockMode"), accessFlags := 16409, slot := 2, constantValue := 0 }, { name := "RANGE_INSERT", type := (.object "com/example/hermit_crab/hermitcrab/engine/LockMode"), accessFlags := 16409, slot := 3, constantValue := 0 }, { name := "$VALUES", type := (.array (.object "com/example/hermit_crab/hermitcrab/engine/LockMode")), accessFlags := 4122, slot := 4, constantValue := 0 }]
  methods := #[]
  instanceTypes := #[(.object "java/lang/String"), .int, .int]
  staticTypes := #[(.object "com/example/hermit_crab/hermitcrab/engine/LockMode"), (.object "com/example/hermit_crab/hermitcrab/engine/LockMode"), (.object "com/example/hermit_crab/hermitcrab/engine/LockMode"), (.object "com/example/hermit_crab/hermitcrab/engine/LockMode"), (.array (.object "com/example/hermit_crab/hermitcrab/engine/LockMode"))]
  resolved := Array.replicate 90 none
  statics := some 1 }

def pool8 : Array CpInfo := pool [(1, u "java/lang/Cloneable"), (0, .class_ 1), (0, u "java/lang/Object"), (0, .class_ 3)] 3

/-- java/lang/Cloneable -/
def k8 : Class := { plain "java/lang/Cloneable" (some 0) with
  accessFlags := 1537
  interfaces := #[]
  cf := some (fileOf pool8 2 #[] #[] 1537 4 #[] #[])
  fields := #[]
  methods := #[]
  instanceTypes := #[]
  staticTypes := #[]
  resolved := Array.replicate 8 none
  statics := none }

/-- the primitive byte -/
def k9 : Class := { plain "byte" none with kind := .primitive 'B', accessFlags := 0x411 }
/-- [B -/
def k10 : Class := { plain "[B" (some 0) with kind := .array 9 .byte, interfaces := #[8, 4], accessFlags := 1041 }

/-- the primitive int -/
def k11 : Class := { plain "int" none with kind := .primitive 'I', accessFlags := 0x411 }
/-- [I -/
def k12 : Class := { plain "[I" (some 0) with kind := .array 11 .int, interfaces := #[8, 4], accessFlags := 1041 }

def heap : Heap := #[{ cls := 6, slots := #[.ref 4, .ref 5, .ref 6, .ref 7, .ref 8, .ref 9, .ref 10, .ref 11, .ref 12, .null, .null], vm := .statics 6 },
  { cls := 7, slots := #[.ref 2, .ref 3, .null, .null, .null], vm := .statics 7 },
  { cls := 7, slots := #[.null, .int 0, .int 0], vm := .none },
  { cls := 7, slots := #[.null, .int 1, .int 0], vm := .none },
  { cls := 6, slots := #[.null, .int 0, .int 0, .null, .null, .null, .int 0, .null, .int 0], vm := .none },
  { cls := 6, slots := #[.null, .int 1, .int 0, .null, .null, .null, .int 0, .null, .int 0], vm := .none },
  { cls := 6, slots := #[.null, .int 2, .int 0, .null, .null, .null, .int 0, .null, .int 0], vm := .none },
  { cls := 6, slots := #[.null, .int 3, .int 0, .null, .null, .null, .int 0, .null, .int 0], vm := .none },
  { cls := 6, slots := #[.null, .int 4, .int 0, .null, .ref 2, .null, .int 0, .null, .int 0], vm := .none },
  { cls := 6, slots := #[.null, .int 5, .int 0, .null, .ref 2, .ref 2, .int 0, .null, .int 0], vm := .none },
  { cls := 6, slots := #[.null, .int 6, .int 0, .null, .ref 3, .null, .int 0, .null, .int 0], vm := .none },
  { cls := 6, slots := #[.null, .int 7, .int 0, .null, .ref 3, .null, .int 0, .null, .int 0], vm := .none },
  { cls := 6, slots := #[.null, .int 8, .int 0, .null, .ref 3, .ref 2, .int 0, .null, .int 0], vm := .none }]
def classes : Array Class := #[k0, k1, k2, k3, k4, k5, k6, k7, k8, k9, k10, k11, k12]
def interned : List (Array UInt16 × Addr) := []
def slotsUsed : Nat := 103
def theMethod : MethodId := ⟨1, 2⟩
def args0 : Array Value := #[.int 5]
def aboutOver (below : List Frame) : State where
  vm := { classes := classes, interned := interned.toArray }
  heap := heap
  slotsUsed := slotsUsed
  threads := #[{ frames := .invoking theMethod args0 :: below }]
def below0 : List Frame := [.native { method := ⟨0, 0⟩, args := #[] }]
def about1 : State := aboutOver below0
def p0 : Program := .bare "" "" ""
def e0 : Env := launch0.env 0 0 0
theorem w_frames : about1.frames = Frame.invoking theMethod args0 :: below0 := rfl
set_option maxRecDepth 65536 in
theorem w_args : argsFit about1.vm theMethod args0 = true := by decide +kernel
set_option maxRecDepth 65536 in
theorem w_heap : heapFits about1 = true := by decide +kernel
set_option maxRecDepth 65536 in
theorem w_runnable : about1.curStatus? = some .runnable := by decide +kernel
set_option maxRecDepth 65536 in
theorem w_alone : about1.alone = true := by decide +kernel
set_option maxRecDepth 65536 in
theorem w_named : about1.methodNamed? x = some theMethod := by decide +kernel
set_option maxRecDepth 65536 in
theorem w_hears : about1.hears theMethod below0 = true := by decide +kernel
set_option maxRecDepth 65536 in
theorem w_ripe : about1.ripe theMethod args0 below0 = true := by decide +kernel
theorem w_running : about1.status = .running := rfl
set_option maxRecDepth 65536 in
theorem w_room : about1.hasRoom e0.platform room_1 = true :=
  launch0.hasRoom_least _ room_1 (by decide +kernel) (by decide +kernel) (by decide +kernel) (by decide +kernel) (by decide +kernel) (by decide +kernel)
theorem allAtoms_all (ts : List Jvm.Cond) (a : Array Jvm.Value) (st : Jvm.State) : (allAtoms ts).before a st = ts.all (fun c => c.before a st) := by
  induction ts with
  | nil => rfl
  | cons c t ih =>
    show (Jvm.Cond.and c (allAtoms t)).before a st = _
    rw [Jvm.Cond.before_and, ih, List.all_cons]
def words1 : List Jvm.Cond := Jvm.Cond.code x code maxLocals ret :: tables_1
/-- a 'code' word, met by the world's own term for the bytes: nothing is compared byte by byte -/
theorem code_word {y : MethodName} {bytes : ByteArray} {mx : Nat} {rt : Option FieldType} {a : Array Value} {s : State} {m : MethodId} {meth : Method} {c : Code} (h1 : s.methodNamed? y = some m) (h2 : s.vm.method? m = some meth) (h3 : meth.code = some c) (h4 : c.code = bytes)
    (h5 : (c.maxLocals == mx && c.exceptionTable.isEmpty && decide (c.maxStack ≤ mostOperands) && decide (meth.sig.returnType = rt) && !meth.locks && decide (parseMethodDescriptor y.desc = some meth.sig)) = true) : (Jvm.Cond.code y bytes mx rt).before a s = true := by
  simp only [Bool.and_eq_true, beq_iff_eq, Bool.not_eq_true', decide_eq_true_eq] at h5
  obtain ⟨⟨⟨⟨⟨g1, g2⟩, g3⟩, g4⟩, g5⟩, g6⟩ := h5
  simp [Cond.before, Cond.holds, Cond.value, h1, h2, h3, h4, g1, g2, g3, g4, g5, g6]
def isCode : Jvm.Cond → Bool
  | .code _ _ _ _ => true
  | _ => false
theorem all_split {L : List Jvm.Cond} {P : Jvm.Cond → Bool} (h1 : L.all (fun c => isCode c || P c) = true) (h2 : ∀ c ∈ L.filter isCode, P c = true) : L.all P = true := by
  refine List.all_eq_true.mpr fun c hc => ?_
  have h := List.all_eq_true.mp h1 c hc
  rcases Bool.eq_false_or_eq_true (isCode c) with hi | hi
  · exact h2 c (List.mem_filter.mpr ⟨hc, hi⟩)
  · simpa [hi] using h
set_option maxRecDepth 65536 in
theorem w_c0 : (Jvm.Cond.code x code maxLocals ret).before args0 about1 = true := code_word (m := ⟨1, 2⟩) (meth := k1m2) (c := k1c2) (by decide +kernel) rfl rfl rfl (by decide +kernel)
set_option maxRecDepth 65536 in
theorem w_c1 : (Jvm.Cond.code ({ cls := "com/example/hermit_crab/hermitcrab/engine/RowLockingKeepsLocksPinLaw", name := "pick", desc := "(I)Lcom/example/hermit_crab/hermitcrab/engine/RowLocking;" } : Jvm.MethodName) method_2_code (1 : Nat) (Option.some (Jvm.ClassFile.FieldType.object "com/example/hermit_crab/hermitcrab/engine/RowLocking"))).before args0 about1 = true := code_word (m := ⟨1, 1⟩) (meth := k1m1) (c := k1c1) (by decide +kernel) rfl rfl rfl (by decide +kernel)
set_option maxRecDepth 65536 in
theorem w_c2 : (Jvm.Cond.code ({ cls := "com/example/hermit_crab/hermitcrab/engine/RowLocking", name := "keepsLocks", desc := "()Z" } : Jvm.MethodName) prog_20_method_15_code (1 : Nat) (Option.some Jvm.ClassFile.FieldType.boolean)).before args0 about1 = true := code_word (m := ⟨6, 2⟩) (meth := k6m2) (c := k6c2) (by decide +kernel) rfl rfl rfl (by decide +kernel)
set_option maxRecDepth 65536 in
theorem w_c3 : (Jvm.Cond.code ({ cls := "com/example/hermit_crab/hermitcrab/engine/RowLocking", name := "getKeptOnMatch", desc := "()Lcom/example/hermit_crab/hermitcrab/engine/LockMode;" } : Jvm.MethodName) prog_20_method_7_code (1 : Nat) (Option.some (Jvm.ClassFile.FieldType.object "com/example/hermit_crab/hermitcrab/engine/LockMode"))).before args0 about1 = true := code_word (m := ⟨6, 0⟩) (meth := k6m0) (c := k6c0) (by decide +kernel) rfl rfl rfl (by decide +kernel)
set_option maxRecDepth 65536 in
theorem w_c4 : (Jvm.Cond.code ({ cls := "com/example/hermit_crab/hermitcrab/engine/RowLocking", name := "getKeptOnMiss", desc := "()Lcom/example/hermit_crab/hermitcrab/engine/LockMode;" } : Jvm.MethodName) prog_20_method_8_code (1 : Nat) (Option.some (Jvm.ClassFile.FieldType.object "com/example/hermit_crab/hermitcrab/engine/LockMode"))).before args0 about1 = true := code_word (m := ⟨6, 1⟩) (meth := k6m1) (c := k6c1) (by decide +kernel) rfl rfl rfl (by decide +kernel)
def codes1 : List Jvm.Cond := [Jvm.Cond.code x code maxLocals ret, Jvm.Cond.code ({ cls := "com/example/hermit_crab/hermitcrab/engine/RowLockingKeepsLocksPinLaw", name := "pick", desc := "(I)Lcom/example/hermit_crab/hermitcrab/engine/RowLocking;" } : Jvm.MethodName) method_2_code (1 : Nat) (Option.some (Jvm.ClassFile.FieldType.object "com/example/hermit_crab/hermitcrab/engine/RowLocking")), Jvm.Cond.code ({ cls := "com/example/hermit_crab/hermitcrab/engine/RowLocking", name := "keepsLocks", desc := "()Z" } : Jvm.MethodName) prog_20_method_15_code (1 : Nat) (Option.some Jvm.ClassFile.FieldType.boolean), Jvm.Cond.code ({ cls := "com/example/hermit_crab/hermitcrab/engine/RowLocking", name := "getKeptOnMatch", desc := "()Lcom/example/hermit_crab/hermitcrab/engine/LockMode;" } : Jvm.MethodName) prog_20_method_7_code (1 : Nat) (Option.some (Jvm.ClassFile.FieldType.object "com/example/hermit_crab/hermitcrab/engine/LockMode")), Jvm.Cond.code ({ cls := "com/example/hermit_crab/hermitcrab/engine/RowLocking", name := "getKeptOnMiss", desc := "()Lcom/example/hermit_crab/hermitcrab/engine/LockMode;" } : Jvm.MethodName) prog_20_method_8_code (1 : Nat) (Option.some (Jvm.ClassFile.FieldType.object "com/example/hermit_crab/hermitcrab/engine/LockMode"))]
set_option maxRecDepth 65536 in
theorem codes_eq : words1.filter isCode = codes1 := rfl
theorem w_codes : ∀ c ∈ words1.filter isCode, c.before args0 about1 = true := by
  rw [codes_eq]
  intro c hc
  simp only [codes1, List.mem_cons, List.not_mem_nil, or_false] at hc
  rcases hc with rfl | rfl | rfl | rfl | rfl
  · exact w_c0
  · exact w_c1
  · exact w_c2
  · exact w_c3
  · exact w_c4
set_option maxRecDepth 65536 in
theorem w_t1 : (words1.take 24).all (fun c => isCode c || c.before args0 about1) = true := by decide +kernel
set_option maxRecDepth 65536 in
theorem w_t2 : (words1.drop 24).all (fun c => isCode c || c.before args0 about1) = true := by decide +kernel
theorem w_tables : (allAtoms (Jvm.Cond.code x code maxLocals ret :: tables_1)).before args0 about1 = true := by
  rw [allAtoms_all]
  show words1.all (fun c => c.before args0 about1) = true
  refine all_split ?_ w_codes
  rw [← List.take_append_drop 24 words1, List.all_append, w_t1, w_t2]
  rfl
set_option maxRecDepth 65536 in
theorem w_case : (Jvm.Cond.and given_1 narrow_1).before args0 about1 = true := by decide +kernel
theorem w_applies : (headSpec (Jvm.Cond.code x code maxLocals ret :: tables_1) room_1).applies x e0.platform about1 = true :=
  (Spec.applies_iff w_frames).mpr ⟨w_running, w_runnable, w_alone, w_named, w_hears, w_ripe, w_room, w_tables⟩
theorem atStart : AtStart classFile x code maxLocals ret World_1 tables_1 room_1 Calls_1 rest_1 Pre_1 launch0 p0 e0 about1 theMethod args0 below0 :=
  ⟨lists_1, trivial, launch0.admits_env _ _ _, launch0.least_env, fairChoices_fair.cas, fairChoices_fair.clock, w_frames, w_args, w_heap, w_applies, trivial, trivial, w_case⟩
end start1
theorem witness_1 : WitnessClaimed_1 := ⟨start1.p0, start1.e0, start1.about1, start1.theMethod, start1.args0, start1.below0, start1.atStart⟩
end Jvm.Pilot.@@N@@
