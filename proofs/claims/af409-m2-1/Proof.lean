import JvmDerived
import JvmDerived.Pilot.@@N@@Statement
import JvmDerived.Pilot.@@N@@Code
set_option linter.unusedVariables false
set_option linter.unusedSimpArgs false
namespace Jvm.RoadKit
open Sem ClassFile Op Lib Jvm.Stand Jvm.Free Jvm.LawKit
section New
variable {p : Program} {l : Launch} {e : Env} {R : Room} {s : State} {m : MethodId} {args : Array Value} {below : List Frame} {meth : Method} {c : Code} {T : State} {locs : List Loc} {cells slots : Nat}
theorem retI (X : Stand p l e R s m args below meth c T locs cells slots) (hx : p.tables.exec = Jvm.exec) {pc : Nat} {Ls : Array Slot} {z : Int32} {rest : List Value} (hret : meth.sig.returnType = some .int) (hd : decode c.code pc = .ok (.ireturn, 1)) {fs : List Frame}
    (hl : ∀ (f : JFrame) (acts : List Action), f.method = m → f.locked = none → f.entered = [] → (doReturn e (T.setTop f) acts (some (.int z))).1 = T.setFrames fs) : Steps p.tables e below (T.setTop (mkF m pc Ls (.int z :: rest))) (T.setFrames fs) := by
  have hm' : T.vm.method? m = some meth := X.method'
  have hn : narrow .int (.int z) = .int z := rfl
  show Steps p.tables e below (T.setTop { method := m, pc := pc, locals := Ls, stack := _ :: rest, locked := none }) _
  jvm_step X.here [X.here.top, hx, hd, hm', hret, hn]
  first | (intro acts; rw [hl _ acts rfl rfl rfl]) | rw [hl _ _ rfl rfl rfl]
  exact Steps.refl _
end New
end Jvm.RoadKit
namespace Jvm.Pilot.@@N@@
open Jvm Jvm.ClassFile Sem Op Lib Jvm.Free Jvm.Stand Jvm.LawKit Jvm.RoadKit Bundle Jvm.Pilot.@@N@@.Jvm.D
theorem own_le {a b : Nat} (h : a = b) : 2 * 0 + a ≤ b := by omega
theorem own_m (i : Nat) {d : Jvm.Cond} (h : tables_1[i]? = some d) : d ∈ tables_1 := List.mem_of_getElem? h
/-- from the state T at the frame g the method comes to its return, with Q of what it returns -/
def own_Goes (tb : Tables) (e : Env) (below : List Frame) (s : State) (Q : Option Value → Heap → List Loc → Prop) (rc rs : Nat) (T : State) (g : JFrame) : Prop :=
  ∃ s₂ o, Steps tb e below (T.setTop g) s₂ ∧ s₂.status = .running ∧ Ended s₂ below o ∧ ∃ v L, o = .returned v ∧ Q v s₂.heap L ∧ FrameEnd s o s₂ L rc rs
theorem own_by {tb : Tables} {e : Env} {below : List Frame} {s : State} {Q : Option Value → Heap → List Loc → Prop} {rc rs : Nat} {T T' : State} {g g' : JFrame} (h : ∀ t, Steps tb e below (T'.setTop g') t → Steps tb e below (T.setTop g) t) (k : own_Goes tb e below s Q rc rs T' g') : own_Goes tb e below s Q rc rs T g := by
  obtain ⟨s₂, o, h1, h2⟩ := k
  exact ⟨s₂, o, h _ h1, h2⟩
section OwnRet
variable {p : Program} {l : Launch} {e : Env} {R : Room} {s : State} {m : MethodId} {args : Array Value} {below : List Frame} {meth : Method} {c : Code} {T : State} {locs : List Loc} {cells slots : Nat} {Q : Option Value → Heap → List Loc → Prop} {rc rs : Nat} {pc : Nat} {Ls : Array Slot} {rest : List Value}
theorem own_retI (X : Stand p l e R s m args below meth c T locs cells slots) (hx : p.tables.exec = Jvm.exec) {z : Int32} (hlk : meth.locks = false) (hret : meth.sig.returnType = some .int) (hd : decode c.code pc = .ok (.ireturn, 1)) (hc : cells ≤ rc) (hs : slots ≤ rs)
    (hQ : Q (some (.int z)) T.heap locs) : own_Goes p.tables e below s Q rc rs T (mkF m pc Ls (.int z :: rest)) := by
  obtain ⟨fs, hr, hrun, hended, hW, hsame⟩ := X.leave (v := some (.int z)) (fun h => by rw [hret] at h; cases h)
  exact ⟨_, _, retI X hx hret hd hr, hrun, hended, _, _, rfl, hQ, ⟨_, rfl⟩, hW, hsame.mono hc hs⟩
theorem own_retN (X : Stand p l e R s m args below meth c T locs cells slots) (hx : p.tables.exec = Jvm.exec) {z : Int32} {t : FieldType} (hlk : meth.locks = false) (hret : meth.sig.returnType = some t) (ht : t = .boolean ∨ t = .byte ∨ t = .char ∨ t = .short) (hd : decode c.code pc = .ok (.ireturn, 1)) (hc : cells ≤ rc) (hs : slots ≤ rs)
    (hQ : Q (some (.int (nar t z))) T.heap locs) : own_Goes p.tables e below s Q rc rs T (mkF m pc Ls (.int z :: rest)) := by
  obtain ⟨fs, hr, hrun, hended, hW, hsame⟩ := X.leave (v := some (.int (nar t z))) (fun h => by rw [hret] at h; cases h)
  exact ⟨_, _, retN X hx hret ht hd hr, hrun, hended, _, _, rfl, hQ, ⟨_, rfl⟩, hW, hsame.mono hc hs⟩
theorem own_retV (X : Stand p l e R s m args below meth c T locs cells slots) (hx : p.tables.exec = Jvm.exec) (hlk : meth.locks = false) (hret : meth.sig.returnType = none) (hd : decode c.code pc = .ok (.return_, 1)) (hc : cells ≤ rc) (hs : slots ≤ rs)
    (hQ : Q none T.heap locs) : own_Goes p.tables e below s Q rc rs T (mkF m pc Ls []) := by
  obtain ⟨fs, hr, hrun, hended, hW, hsame⟩ := X.leave (v := none) (fun _ => rfl)
  exact ⟨_, _, X.returnOut hx hret hd hr, hrun, hended, _, _, rfl, hQ, ⟨_, rfl⟩, hW, hsame.mono hc hs⟩
theorem own_retJ (X : Stand p l e R s m args below meth c T locs cells slots) (hx : p.tables.exec = Jvm.exec) {z : Int64} (hlk : meth.locks = false) (hret : meth.sig.returnType = some .long) (hd : decode c.code pc = .ok (.lreturn, 1)) (hc : cells ≤ rc) (hs : slots ≤ rs)
    (hQ : Q (some (.long z)) T.heap locs) : own_Goes p.tables e below s Q rc rs T (mkF m pc Ls (.long z :: rest)) := by
  obtain ⟨fs, hr, hrun, hended, hW, hsame⟩ := X.leave (v := some (.long z)) (fun h => by rw [hret] at h; cases h)
  exact ⟨_, _, retOut X hx hret rfl (Or.inr (Or.inl ⟨rfl, rfl, _, rfl⟩)) hd hr, hrun, hended, _, _, rfl, hQ, ⟨_, rfl⟩, hW, hsame.mono hc hs⟩
theorem own_retA (X : Stand p l e R s m args below meth c T locs cells slots) (hx : p.tables.exec = Jvm.exec) {w : Value} {t : FieldType} (hlk : meth.locks = false) (hret : meth.sig.returnType = some t) (ht : t.isReference = true) (hw : w.isRef = true) (hn : narrow t w = w) (hd : decode c.code pc = .ok (.areturn, 1)) (hc : cells ≤ rc) (hs : slots ≤ rs)
    (hQ : Q (some w) T.heap locs) : own_Goes p.tables e below s Q rc rs T (mkF m pc Ls (w :: rest)) := by
  obtain ⟨fs, hr, hrun, hended, hW, hsame⟩ := X.leave (v := some w) (fun h => by rw [hret] at h; cases h)
  exact ⟨_, _, retOut X hx hret hn (Or.inr (Or.inr (Or.inr (Or.inr ⟨rfl, ht, hw⟩)))) hd hr, hrun, hended, _, _, rfl, hQ, ⟨_, rfl⟩, hW, hsame.mono hc hs⟩
end OwnRet
theorem own_nsE {Z : State} {h : Heap} {a : Addr} {C : String} (E : Exa Z h a C) : ∃ c : Cell, h[a]? = some c ∧ c.vm.isStatics = false := by
  obtain ⟨c, k, h1, -, -, h4, -⟩ := E
  exact ⟨c, h1, h4⟩
theorem own_nsV {Z : State} {h : Heap} {a : Addr} {k : ClassId} {ty : FieldType} {n : Int32} {vs : List Value} {d : Value} (F : Arv Z h a k ty n vs d) : ∃ c : Cell, h[a]? = some c ∧ c.vm.isStatics = false := by
  obtain ⟨c, A, -⟩ := F
  exact ⟨c, A.1, A.plain⟩
theorem own_staKeep {Z : State} {h h' : Heap} {C n d : String} {v : Value} {ws : List Addr} (S : Sta Z h C n d v) (K : Keep h h' ws) (q : ∀ x ∈ ws, ∃ c : Cell, h[x]? = some c ∧ c.vm.isStatics = false) : Sta Z h' C n d v := by
  obtain ⟨cf, i, k, f, st, cell, h1, h2, h3, h4, h5, h6, h7⟩ := S
  refine ⟨cf, i, k, f, st, cell, h1, h2, h3, h4, K.2.1 st cell h5 (fun hin => ?_), h6, h7⟩
  obtain ⟨c, hc, hs⟩ := q st hin
  rw [h5] at hc
  cases hc
  rw [h6] at hs
  cases hs
theorem own_arrKeep {Z : State} {h h' : Heap} {a : Addr} {c : Cell} {ty : FieldType} {ws : List Addr} (A : Arr Z h a c ty) (K : Keep h h' ws) (q : a ∉ ws) : Arr Z h' a c ty := ⟨K.2.1 a c A.1 q, A.2⟩
/-- own_Goes for a method that may intern String constants -/
def own_GoesW (tb : Tables) (e : Env) (below : List Frame) (s : State) (Q : Option Value → Heap → List Loc → Prop) (rc rs : Nat) (T : State) (g : JFrame) : Prop :=
  ∃ s₂ o, Steps tb e below (T.setTop g) s₂ ∧ s₂.status = .running ∧ Ended s₂ below o ∧ ∃ v L, o = .returned v ∧ Q v s₂.heap L ∧ ReturnedEndW s o s₂ L rc rs
theorem own_byW {tb : Tables} {e : Env} {below : List Frame} {s : State} {Q : Option Value → Heap → List Loc → Prop} {rc rs : Nat} {T T' : State} {g g' : JFrame} (h : ∀ t, Steps tb e below (T'.setTop g') t → Steps tb e below (T.setTop g) t) (k : own_GoesW tb e below s Q rc rs T' g') : own_GoesW tb e below s Q rc rs T g := by
  obtain ⟨s₂, o, h1, h2⟩ := k
  exact ⟨s₂, o, h _ h1, h2⟩
theorem own_endW {s : State} {vm0 : Vm} {k0 : Nat} {T : State} {fs : List Frame} {v : Option Value} {L : List Loc} {cells slots rc rs : Nat} (hS : s.Since vm0 k0) (hk : k0 ≤ T.heap.size) (hW : (s.setVm vm0).WarmedH (T.setFrames fs).vm) (hsame : (s.setVm vm0).sameButNew ({ T.setFrames fs with vm := (s.setVm vm0).vm } : State) L cells slots) (hc : cells ≤ rc) (hs : slots ≤ rs) : ReturnedEndW s (.returned v) (T.setFrames fs) L rc rs := by
  have q : s.Since (T.setFrames fs).vm T.heap.size := hS.trans (hW.since _) hk
  exact ⟨⟨v, rfl⟩, q.1, q.2, (hsame.setVm s.vm).mono hc hs⟩
section OwnRetW
variable {p : Program} {l : Launch} {e : Env} {R : Room} {s : State} {vm0 : Vm} {k0 : Nat} {m : MethodId} {args : Array Value} {below : List Frame} {meth : Method} {c : Code} {T : State} {locs : List Loc} {cells slots : Nat} {Q : Option Value → Heap → List Loc → Prop} {rc rs : Nat} {pc : Nat} {Ls : Array Slot} {rest : List Value}
theorem own_retNW (X : Stand p l e R (s.setVm vm0) m args below meth c T locs cells slots) (hS : s.Since vm0 k0) (hk : k0 ≤ T.heap.size) (hx : p.tables.exec = Jvm.exec) {z : Int32} {t : FieldType} (hlk : meth.locks = false) (hret : meth.sig.returnType = some t) (ht : t = .boolean ∨ t = .byte ∨ t = .char ∨ t = .short) (hd : decode c.code pc = .ok (.ireturn, 1)) (hc : cells ≤ rc) (hs : slots ≤ rs)
    (hQ : Q (some (.int (nar t z))) T.heap locs) : own_GoesW p.tables e below s Q rc rs T (mkF m pc Ls (.int z :: rest)) := by
  obtain ⟨fs, hr, hrun, hended, hW, hsame⟩ := X.leave (v := some (.int (nar t z))) (fun h => by rw [hret] at h; cases h)
  exact ⟨_, _, retN X hx hret ht hd hr, hrun, hended, _, _, rfl, hQ, own_endW hS hk hW hsame hc hs⟩
theorem own_retAW (X : Stand p l e R (s.setVm vm0) m args below meth c T locs cells slots) (hS : s.Since vm0 k0) (hk : k0 ≤ T.heap.size) (hx : p.tables.exec = Jvm.exec) {w : Value} {t : FieldType} (hlk : meth.locks = false) (hret : meth.sig.returnType = some t) (ht : t.isReference = true) (hw : w.isRef = true) (hn : narrow t w = w) (hd : decode c.code pc = .ok (.areturn, 1)) (hc : cells ≤ rc) (hs : slots ≤ rs)
    (hQ : Q (some w) T.heap locs) : own_GoesW p.tables e below s Q rc rs T (mkF m pc Ls (w :: rest)) := by
  obtain ⟨fs, hr, hrun, hended, hW, hsame⟩ := X.leave (v := some w) (fun h => by rw [hret] at h; cases h)
  exact ⟨_, _, retOut X hx hret hn (Or.inr (Or.inr (Or.inr (Or.inr ⟨rfl, ht, hw⟩)))) hd hr, hrun, hended, _, _, rfl, hQ, own_endW hS hk hW hsame hc hs⟩
theorem own_retVW (X : Stand p l e R (s.setVm vm0) m args below meth c T locs cells slots) (hS : s.Since vm0 k0) (hk : k0 ≤ T.heap.size) (hx : p.tables.exec = Jvm.exec) (hlk : meth.locks = false) (hret : meth.sig.returnType = none) (hd : decode c.code pc = .ok (.return_, 1)) (hc : cells ≤ rc) (hs : slots ≤ rs)
    (hQ : Q none T.heap locs) : own_GoesW p.tables e below s Q rc rs T (mkF m pc Ls []) := by
  obtain ⟨fs, hr, hrun, hended, hW, hsame⟩ := X.leave (v := none) (fun _ => rfl)
  exact ⟨_, _, X.returnOut hx hret hd hr, hrun, hended, _, _, rfl, hQ, own_endW hS hk hW hsame hc hs⟩
end OwnRetW
theorem own_str {Z : State} {a0 : Array Value} (hw : ∀ d ∈ tables_1, d.before a0 Z = true) (h : ∀ d ∈ Bundle.stringAtoms, d ∈ tables_1) : ∀ d ∈ Bundle.stringAtoms, d.before a0 Z = true := fun d hd => hw d (h d hd)

def own_B1 (c0 c1 tt : Int32) : Prop := (tt = 0 ∧ ¬ (c0 = c1)) ∨ (tt = 1 ∧ (c0 = c1))
def own_B2 (c0 c1 c2 tt : Int32) : Prop := (tt = 0 ∧ ¬ (c0 = c2) ∧ ¬ (c0 = c1 ∧ c1 = c2)) ∨ (tt = 1 ∧ (c0 = c2) ∧ ¬ (c0 = c1 ∧ c1 = c2)) ∨ (tt = 2 ∧ (c0 = c1 ∧ c1 = c2))
def own_B3 (c0 c1 c2 c3 tt : Int32) : Prop := (tt = 0 ∧ ¬ (c0 = c3) ∧ ¬ (c0 = c2 ∧ c1 = c3) ∧ ¬ (c0 = c1 ∧ c1 = c2 ∧ c2 = c3)) ∨ (tt = 1 ∧ (c0 = c3) ∧ ¬ (c0 = c2 ∧ c1 = c3) ∧ ¬ (c0 = c1 ∧ c1 = c2 ∧ c2 = c3)) ∨ (tt = 2 ∧ (c0 = c2 ∧ c1 = c3) ∧ ¬ (c0 = c1 ∧ c1 = c2 ∧ c2 = c3)) ∨ (tt = 3 ∧ (c0 = c1 ∧ c1 = c2 ∧ c2 = c3))
def own_B4 (c0 c1 c2 c3 c4 tt : Int32) : Prop := (tt = 0 ∧ ¬ (c0 = c4) ∧ ¬ (c0 = c3 ∧ c1 = c4) ∧ ¬ (c0 = c2 ∧ c1 = c3 ∧ c2 = c4) ∧ ¬ (c0 = c1 ∧ c1 = c2 ∧ c2 = c3 ∧ c3 = c4)) ∨ (tt = 1 ∧ (c0 = c4) ∧ ¬ (c0 = c3 ∧ c1 = c4) ∧ ¬ (c0 = c2 ∧ c1 = c3 ∧ c2 = c4) ∧ ¬ (c0 = c1 ∧ c1 = c2 ∧ c2 = c3 ∧ c3 = c4)) ∨ (tt = 2 ∧ (c0 = c3 ∧ c1 = c4) ∧ ¬ (c0 = c2 ∧ c1 = c3 ∧ c2 = c4) ∧ ¬ (c0 = c1 ∧ c1 = c2 ∧ c2 = c3 ∧ c3 = c4)) ∨ (tt = 3 ∧ (c0 = c2 ∧ c1 = c3 ∧ c2 = c4) ∧ ¬ (c0 = c1 ∧ c1 = c2 ∧ c2 = c3 ∧ c3 = c4)) ∨ (tt = 4 ∧ (c0 = c1 ∧ c1 = c2 ∧ c2 = c3 ∧ c3 = c4))
def own_B5 (c0 c1 c2 c3 c4 c5 tt : Int32) : Prop := (tt = 0 ∧ ¬ (c0 = c5) ∧ ¬ (c0 = c4 ∧ c1 = c5) ∧ ¬ (c0 = c3 ∧ c1 = c4 ∧ c2 = c5) ∧ ¬ (c0 = c2 ∧ c1 = c3 ∧ c2 = c4 ∧ c3 = c5) ∧ ¬ (c0 = c1 ∧ c1 = c2 ∧ c2 = c3 ∧ c3 = c4 ∧ c4 = c5)) ∨ (tt = 1 ∧ (c0 = c5) ∧ ¬ (c0 = c4 ∧ c1 = c5) ∧ ¬ (c0 = c3 ∧ c1 = c4 ∧ c2 = c5) ∧ ¬ (c0 = c2 ∧ c1 = c3 ∧ c2 = c4 ∧ c3 = c5) ∧ ¬ (c0 = c1 ∧ c1 = c2 ∧ c2 = c3 ∧ c3 = c4 ∧ c4 = c5)) ∨ (tt = 2 ∧ (c0 = c4 ∧ c1 = c5) ∧ ¬ (c0 = c3 ∧ c1 = c4 ∧ c2 = c5) ∧ ¬ (c0 = c2 ∧ c1 = c3 ∧ c2 = c4 ∧ c3 = c5) ∧ ¬ (c0 = c1 ∧ c1 = c2 ∧ c2 = c3 ∧ c3 = c4 ∧ c4 = c5)) ∨ (tt = 3 ∧ (c0 = c3 ∧ c1 = c4 ∧ c2 = c5) ∧ ¬ (c0 = c2 ∧ c1 = c3 ∧ c2 = c4 ∧ c3 = c5) ∧ ¬ (c0 = c1 ∧ c1 = c2 ∧ c2 = c3 ∧ c3 = c4 ∧ c4 = c5)) ∨ (tt = 4 ∧ (c0 = c2 ∧ c1 = c3 ∧ c2 = c4 ∧ c3 = c5) ∧ ¬ (c0 = c1 ∧ c1 = c2 ∧ c2 = c3 ∧ c3 = c4 ∧ c4 = c5)) ∨ (tt = 5 ∧ (c0 = c1 ∧ c1 = c2 ∧ c2 = c3 ∧ c3 = c4 ∧ c4 = c5))
def own_eq1_1 (c0 c1 c2 c3 c4 c5 : Int32) : Int32 := if c0 = c1 then (1 : Int32) else (0 : Int32)
theorem own_eq1_1_iff (c0 c1 c2 c3 c4 c5 : Int32) : own_eq1_1 c0 c1 c2 c3 c4 c5 = 0 ↔ ¬ (c0 = c1) := by
  unfold own_eq1_1
  repeat' split
  all_goals simp_all
def own_eq2_1 (c0 c1 c2 c3 c4 c5 : Int32) : Int32 := if c0 = c2 then (1 : Int32) else (0 : Int32)
theorem own_eq2_1_iff (c0 c1 c2 c3 c4 c5 : Int32) : own_eq2_1 c0 c1 c2 c3 c4 c5 = 0 ↔ ¬ (c0 = c2) := by
  unfold own_eq2_1
  repeat' split
  all_goals simp_all
def own_eq1_2 (c0 c1 c2 c3 c4 c5 : Int32) : Int32 := if c0 = c1 then (if c1 = c2 then (1 : Int32) else (0 : Int32)) else (0 : Int32)
theorem own_eq1_2_iff (c0 c1 c2 c3 c4 c5 : Int32) : own_eq1_2 c0 c1 c2 c3 c4 c5 = 0 ↔ ¬ (c0 = c1 ∧ c1 = c2) := by
  unfold own_eq1_2
  repeat' split
  all_goals simp_all
def own_eq3_1 (c0 c1 c2 c3 c4 c5 : Int32) : Int32 := if c0 = c3 then (1 : Int32) else (0 : Int32)
theorem own_eq3_1_iff (c0 c1 c2 c3 c4 c5 : Int32) : own_eq3_1 c0 c1 c2 c3 c4 c5 = 0 ↔ ¬ (c0 = c3) := by
  unfold own_eq3_1
  repeat' split
  all_goals simp_all
def own_eq2_2 (c0 c1 c2 c3 c4 c5 : Int32) : Int32 := if c0 = c2 then (if c1 = c3 then (1 : Int32) else (0 : Int32)) else (0 : Int32)
theorem own_eq2_2_iff (c0 c1 c2 c3 c4 c5 : Int32) : own_eq2_2 c0 c1 c2 c3 c4 c5 = 0 ↔ ¬ (c0 = c2 ∧ c1 = c3) := by
  unfold own_eq2_2
  repeat' split
  all_goals simp_all
def own_eq1_3 (c0 c1 c2 c3 c4 c5 : Int32) : Int32 := if c0 = c1 then (if c1 = c2 then (if c2 = c3 then (1 : Int32) else (0 : Int32)) else (0 : Int32)) else (0 : Int32)
theorem own_eq1_3_iff (c0 c1 c2 c3 c4 c5 : Int32) : own_eq1_3 c0 c1 c2 c3 c4 c5 = 0 ↔ ¬ (c0 = c1 ∧ c1 = c2 ∧ c2 = c3) := by
  unfold own_eq1_3
  repeat' split
  all_goals simp_all
def own_eq4_1 (c0 c1 c2 c3 c4 c5 : Int32) : Int32 := if c0 = c4 then (1 : Int32) else (0 : Int32)
theorem own_eq4_1_iff (c0 c1 c2 c3 c4 c5 : Int32) : own_eq4_1 c0 c1 c2 c3 c4 c5 = 0 ↔ ¬ (c0 = c4) := by
  unfold own_eq4_1
  repeat' split
  all_goals simp_all
def own_eq3_2 (c0 c1 c2 c3 c4 c5 : Int32) : Int32 := if c0 = c3 then (if c1 = c4 then (1 : Int32) else (0 : Int32)) else (0 : Int32)
theorem own_eq3_2_iff (c0 c1 c2 c3 c4 c5 : Int32) : own_eq3_2 c0 c1 c2 c3 c4 c5 = 0 ↔ ¬ (c0 = c3 ∧ c1 = c4) := by
  unfold own_eq3_2
  repeat' split
  all_goals simp_all
def own_eq2_3 (c0 c1 c2 c3 c4 c5 : Int32) : Int32 := if c0 = c2 then (if c1 = c3 then (if c2 = c4 then (1 : Int32) else (0 : Int32)) else (0 : Int32)) else (0 : Int32)
theorem own_eq2_3_iff (c0 c1 c2 c3 c4 c5 : Int32) : own_eq2_3 c0 c1 c2 c3 c4 c5 = 0 ↔ ¬ (c0 = c2 ∧ c1 = c3 ∧ c2 = c4) := by
  unfold own_eq2_3
  repeat' split
  all_goals simp_all
def own_eq1_4 (c0 c1 c2 c3 c4 c5 : Int32) : Int32 := if c0 = c1 then (if c1 = c2 then (if c2 = c3 then (if c3 = c4 then (1 : Int32) else (0 : Int32)) else (0 : Int32)) else (0 : Int32)) else (0 : Int32)
theorem own_eq1_4_iff (c0 c1 c2 c3 c4 c5 : Int32) : own_eq1_4 c0 c1 c2 c3 c4 c5 = 0 ↔ ¬ (c0 = c1 ∧ c1 = c2 ∧ c2 = c3 ∧ c3 = c4) := by
  unfold own_eq1_4
  repeat' split
  all_goals simp_all
def own_eq5_1 (c0 c1 c2 c3 c4 c5 : Int32) : Int32 := if c0 = c5 then (1 : Int32) else (0 : Int32)
theorem own_eq5_1_iff (c0 c1 c2 c3 c4 c5 : Int32) : own_eq5_1 c0 c1 c2 c3 c4 c5 = 0 ↔ ¬ (c0 = c5) := by
  unfold own_eq5_1
  repeat' split
  all_goals simp_all
def own_eq4_2 (c0 c1 c2 c3 c4 c5 : Int32) : Int32 := if c0 = c4 then (if c1 = c5 then (1 : Int32) else (0 : Int32)) else (0 : Int32)
theorem own_eq4_2_iff (c0 c1 c2 c3 c4 c5 : Int32) : own_eq4_2 c0 c1 c2 c3 c4 c5 = 0 ↔ ¬ (c0 = c4 ∧ c1 = c5) := by
  unfold own_eq4_2
  repeat' split
  all_goals simp_all
def own_eq3_3 (c0 c1 c2 c3 c4 c5 : Int32) : Int32 := if c0 = c3 then (if c1 = c4 then (if c2 = c5 then (1 : Int32) else (0 : Int32)) else (0 : Int32)) else (0 : Int32)
theorem own_eq3_3_iff (c0 c1 c2 c3 c4 c5 : Int32) : own_eq3_3 c0 c1 c2 c3 c4 c5 = 0 ↔ ¬ (c0 = c3 ∧ c1 = c4 ∧ c2 = c5) := by
  unfold own_eq3_3
  repeat' split
  all_goals simp_all
def own_eq2_4 (c0 c1 c2 c3 c4 c5 : Int32) : Int32 := if c0 = c2 then (if c1 = c3 then (if c2 = c4 then (if c3 = c5 then (1 : Int32) else (0 : Int32)) else (0 : Int32)) else (0 : Int32)) else (0 : Int32)
theorem own_eq2_4_iff (c0 c1 c2 c3 c4 c5 : Int32) : own_eq2_4 c0 c1 c2 c3 c4 c5 = 0 ↔ ¬ (c0 = c2 ∧ c1 = c3 ∧ c2 = c4 ∧ c3 = c5) := by
  unfold own_eq2_4
  repeat' split
  all_goals simp_all
def own_eq1_5 (c0 c1 c2 c3 c4 c5 : Int32) : Int32 := if c0 = c1 then (if c1 = c2 then (if c2 = c3 then (if c3 = c4 then (if c4 = c5 then (1 : Int32) else (0 : Int32)) else (0 : Int32)) else (0 : Int32)) else (0 : Int32)) else (0 : Int32)
theorem own_eq1_5_iff (c0 c1 c2 c3 c4 c5 : Int32) : own_eq1_5 c0 c1 c2 c3 c4 c5 = 0 ↔ ¬ (c0 = c1 ∧ c1 = c2 ∧ c2 = c3 ∧ c3 = c4 ∧ c4 = c5) := by
  unfold own_eq1_5
  repeat' split
  all_goals simp_all
def own_ref0 (c0 c1 c2 c3 c4 c5 : Int32) : Int32 := (0 : Int32)
def own_ref1 (c0 c1 c2 c3 c4 c5 : Int32) : Int32 := if (own_eq1_1 c0 c1 c2 c3 c4 c5) = (0 : Int32) then (0 : Int32) else (1 : Int32)
theorem own_isref1 {c0 c1 c2 c3 c4 c5 tt : Int32} (h : own_B1 c0 c1 tt) : tt = own_ref1 c0 c1 c2 c3 c4 c5 := by
  unfold own_ref1
  rcases h with ⟨rfl, f1⟩ | ⟨rfl, f1⟩
  · rw [if_pos ((own_eq1_1_iff c0 c1 c2 c3 c4 c5).mpr f1)]
  · rw [if_neg (fun q => (own_eq1_1_iff c0 c1 c2 c3 c4 c5).mp q f1)]
def own_ref2 (c0 c1 c2 c3 c4 c5 : Int32) : Int32 := if (own_eq1_2 c0 c1 c2 c3 c4 c5) = (0 : Int32) then (if (own_eq2_1 c0 c1 c2 c3 c4 c5) = (0 : Int32) then (0 : Int32) else (1 : Int32)) else (2 : Int32)
theorem own_isref2 {c0 c1 c2 c3 c4 c5 tt : Int32} (h : own_B2 c0 c1 c2 tt) : tt = own_ref2 c0 c1 c2 c3 c4 c5 := by
  unfold own_ref2
  rcases h with ⟨rfl, f1, f2⟩ | ⟨rfl, f1, f2⟩ | ⟨rfl, f2⟩
  · rw [if_pos ((own_eq1_2_iff c0 c1 c2 c3 c4 c5).mpr f2), if_pos ((own_eq2_1_iff c0 c1 c2 c3 c4 c5).mpr f1)]
  · rw [if_pos ((own_eq1_2_iff c0 c1 c2 c3 c4 c5).mpr f2), if_neg (fun q => (own_eq2_1_iff c0 c1 c2 c3 c4 c5).mp q f1)]
  · rw [if_neg (fun q => (own_eq1_2_iff c0 c1 c2 c3 c4 c5).mp q f2)]
def own_ref3 (c0 c1 c2 c3 c4 c5 : Int32) : Int32 := if (own_eq1_3 c0 c1 c2 c3 c4 c5) = (0 : Int32) then (if (own_eq2_2 c0 c1 c2 c3 c4 c5) = (0 : Int32) then (if (own_eq3_1 c0 c1 c2 c3 c4 c5) = (0 : Int32) then (0 : Int32) else (1 : Int32)) else (2 : Int32)) else (3 : Int32)
theorem own_isref3 {c0 c1 c2 c3 c4 c5 tt : Int32} (h : own_B3 c0 c1 c2 c3 tt) : tt = own_ref3 c0 c1 c2 c3 c4 c5 := by
  unfold own_ref3
  rcases h with ⟨rfl, f1, f2, f3⟩ | ⟨rfl, f1, f2, f3⟩ | ⟨rfl, f2, f3⟩ | ⟨rfl, f3⟩
  · rw [if_pos ((own_eq1_3_iff c0 c1 c2 c3 c4 c5).mpr f3), if_pos ((own_eq2_2_iff c0 c1 c2 c3 c4 c5).mpr f2), if_pos ((own_eq3_1_iff c0 c1 c2 c3 c4 c5).mpr f1)]
  · rw [if_pos ((own_eq1_3_iff c0 c1 c2 c3 c4 c5).mpr f3), if_pos ((own_eq2_2_iff c0 c1 c2 c3 c4 c5).mpr f2), if_neg (fun q => (own_eq3_1_iff c0 c1 c2 c3 c4 c5).mp q f1)]
  · rw [if_pos ((own_eq1_3_iff c0 c1 c2 c3 c4 c5).mpr f3), if_neg (fun q => (own_eq2_2_iff c0 c1 c2 c3 c4 c5).mp q f2)]
  · rw [if_neg (fun q => (own_eq1_3_iff c0 c1 c2 c3 c4 c5).mp q f3)]
def own_ref4 (c0 c1 c2 c3 c4 c5 : Int32) : Int32 := if (own_eq1_4 c0 c1 c2 c3 c4 c5) = (0 : Int32) then (if (own_eq2_3 c0 c1 c2 c3 c4 c5) = (0 : Int32) then (if (own_eq3_2 c0 c1 c2 c3 c4 c5) = (0 : Int32) then (if (own_eq4_1 c0 c1 c2 c3 c4 c5) = (0 : Int32) then (0 : Int32) else (1 : Int32)) else (2 : Int32)) else (3 : Int32)) else (4 : Int32)
theorem own_isref4 {c0 c1 c2 c3 c4 c5 tt : Int32} (h : own_B4 c0 c1 c2 c3 c4 tt) : tt = own_ref4 c0 c1 c2 c3 c4 c5 := by
  unfold own_ref4
  rcases h with ⟨rfl, f1, f2, f3, f4⟩ | ⟨rfl, f1, f2, f3, f4⟩ | ⟨rfl, f2, f3, f4⟩ | ⟨rfl, f3, f4⟩ | ⟨rfl, f4⟩
  · rw [if_pos ((own_eq1_4_iff c0 c1 c2 c3 c4 c5).mpr f4), if_pos ((own_eq2_3_iff c0 c1 c2 c3 c4 c5).mpr f3), if_pos ((own_eq3_2_iff c0 c1 c2 c3 c4 c5).mpr f2), if_pos ((own_eq4_1_iff c0 c1 c2 c3 c4 c5).mpr f1)]
  · rw [if_pos ((own_eq1_4_iff c0 c1 c2 c3 c4 c5).mpr f4), if_pos ((own_eq2_3_iff c0 c1 c2 c3 c4 c5).mpr f3), if_pos ((own_eq3_2_iff c0 c1 c2 c3 c4 c5).mpr f2), if_neg (fun q => (own_eq4_1_iff c0 c1 c2 c3 c4 c5).mp q f1)]
  · rw [if_pos ((own_eq1_4_iff c0 c1 c2 c3 c4 c5).mpr f4), if_pos ((own_eq2_3_iff c0 c1 c2 c3 c4 c5).mpr f3), if_neg (fun q => (own_eq3_2_iff c0 c1 c2 c3 c4 c5).mp q f2)]
  · rw [if_pos ((own_eq1_4_iff c0 c1 c2 c3 c4 c5).mpr f4), if_neg (fun q => (own_eq2_3_iff c0 c1 c2 c3 c4 c5).mp q f3)]
  · rw [if_neg (fun q => (own_eq1_4_iff c0 c1 c2 c3 c4 c5).mp q f4)]
def own_ref5 (c0 c1 c2 c3 c4 c5 : Int32) : Int32 := if (own_eq1_5 c0 c1 c2 c3 c4 c5) = (0 : Int32) then (if (own_eq2_4 c0 c1 c2 c3 c4 c5) = (0 : Int32) then (if (own_eq3_3 c0 c1 c2 c3 c4 c5) = (0 : Int32) then (if (own_eq4_2 c0 c1 c2 c3 c4 c5) = (0 : Int32) then (if (own_eq5_1 c0 c1 c2 c3 c4 c5) = (0 : Int32) then (0 : Int32) else (1 : Int32)) else (2 : Int32)) else (3 : Int32)) else (4 : Int32)) else (5 : Int32)
theorem own_isref5 {c0 c1 c2 c3 c4 c5 tt : Int32} (h : own_B5 c0 c1 c2 c3 c4 c5 tt) : tt = own_ref5 c0 c1 c2 c3 c4 c5 := by
  unfold own_ref5
  rcases h with ⟨rfl, f1, f2, f3, f4, f5⟩ | ⟨rfl, f1, f2, f3, f4, f5⟩ | ⟨rfl, f2, f3, f4, f5⟩ | ⟨rfl, f3, f4, f5⟩ | ⟨rfl, f4, f5⟩ | ⟨rfl, f5⟩
  · rw [if_pos ((own_eq1_5_iff c0 c1 c2 c3 c4 c5).mpr f5), if_pos ((own_eq2_4_iff c0 c1 c2 c3 c4 c5).mpr f4), if_pos ((own_eq3_3_iff c0 c1 c2 c3 c4 c5).mpr f3), if_pos ((own_eq4_2_iff c0 c1 c2 c3 c4 c5).mpr f2), if_pos ((own_eq5_1_iff c0 c1 c2 c3 c4 c5).mpr f1)]
  · rw [if_pos ((own_eq1_5_iff c0 c1 c2 c3 c4 c5).mpr f5), if_pos ((own_eq2_4_iff c0 c1 c2 c3 c4 c5).mpr f4), if_pos ((own_eq3_3_iff c0 c1 c2 c3 c4 c5).mpr f3), if_pos ((own_eq4_2_iff c0 c1 c2 c3 c4 c5).mpr f2), if_neg (fun q => (own_eq5_1_iff c0 c1 c2 c3 c4 c5).mp q f1)]
  · rw [if_pos ((own_eq1_5_iff c0 c1 c2 c3 c4 c5).mpr f5), if_pos ((own_eq2_4_iff c0 c1 c2 c3 c4 c5).mpr f4), if_pos ((own_eq3_3_iff c0 c1 c2 c3 c4 c5).mpr f3), if_neg (fun q => (own_eq4_2_iff c0 c1 c2 c3 c4 c5).mp q f2)]
  · rw [if_pos ((own_eq1_5_iff c0 c1 c2 c3 c4 c5).mpr f5), if_pos ((own_eq2_4_iff c0 c1 c2 c3 c4 c5).mpr f4), if_neg (fun q => (own_eq3_3_iff c0 c1 c2 c3 c4 c5).mp q f3)]
  · rw [if_pos ((own_eq1_5_iff c0 c1 c2 c3 c4 c5).mpr f5), if_neg (fun q => (own_eq2_4_iff c0 c1 c2 c3 c4 c5).mp q f4)]
  · rw [if_neg (fun q => (own_eq1_5_iff c0 c1 c2 c3 c4 c5).mp q f5)]
theorem own_lt {a b d : Int32} (h : ¬ b < a) (g : b < d) : a < d := by
  rw [Int32.lt_iff_toInt_lt] at *
  omega
theorem own_no6 {d : Int32} (h : d < 7) : ¬ (6 : Int32) < d := by
  rw [Int32.lt_iff_toInt_lt] at *
  have e6 : (6 : Int32).toInt = 6 := by decide
  have e7 : (7 : Int32).toInt = 7 := by decide
  omega
theorem own_n (x : Int32) : ¬ (x &&& (2147483647 : Int32)) % (7 : Int32) < 0 ∧ ((x &&& (2147483647 : Int32)) % (7 : Int32)).toNatClampNeg ≤ 6 ∧ (x &&& (2147483647 : Int32)) % (7 : Int32) < 7 := by
  have h1 := c_mask x 2147483647 31 (by decide) (by decide)
  have h2 := (c_irem (x &&& (2147483647 : Int32)) 7 7 (by decide)).1 (by omega)
  have e0 : (0 : Int32).toInt = 0 := by decide
  have e7 : (7 : Int32).toInt = 7 := by decide
  rw [Int32.lt_iff_toInt_lt, Int32.lt_iff_toInt_lt, e0, e7]
  simp only [Int32.toNatClampNeg]
  omega
theorem own_nc {y : Int32} (x : Int32) (h : y = x.toUInt32.toUInt16.toUInt32.toInt32) : nar .char y = y := by
  have h0 : nar .char y = y.toUInt32.toUInt16.toUInt32.toInt32 := rfl
  have h1 := c_i2c x
  have h2 := c_i2c y
  rw [h0]
  apply Int32.toInt_inj.mp
  rw [h] at h2 ⊢
  omega
/-- a place behind the end may be told any value -/
theorem own_far {Z : State} {h : Heap} {a : Addr} {k : ClassId} {nn : Int32} {vs vs' : List Value} {d : Value} (F : Arv Z h a k .char nn vs d) (i : Int32) (h0 : ¬ i < 0) (hn : ¬ i < nn) {n : Nat} (hi : i.toNatClampNeg = n) (hv : vs'.take n = vs.take n) (hd : vs.length = vs'.length := by rfl) : Arv Z h a k .char nn vs' d := by
  obtain ⟨c, A, r1, r2, r3, H, G⟩ := F
  have hle : c.slots.size ≤ n := by
    rw [r2, ← hi]
    rw [Int32.lt_iff_toInt_lt] at hn
    simp only [Int32.toNatClampNeg]
    omega
  have key : ∀ j, j < c.slots.size → vs'.getD j d = vs.getD j d := by
    intro j hj
    have hj' : j < n := Nat.lt_of_lt_of_le hj hle
    have e1 : (vs'.take n)[j]? = vs'[j]? := List.getElem?_take_of_lt hj'
    have e2 : (vs.take n)[j]? = vs[j]? := List.getElem?_take_of_lt hj'
    simp only [List.getD_eq_getElem?_getD]
    rw [← e1, ← e2, hv]
  exact ⟨c, A, r1, r2, r3, fun j hj => by rw [key j hj]; exact H j hj, fun j hj => by rw [key j hj]; exact G j hj⟩

theorem own_leaf5_0 (c0 c1 c2 c3 c4 c5 : Int32) (h0 : ¬ (c0 = c4) ∧ ¬ (c0 = c3 ∧ c1 = c4) ∧ ¬ (c0 = c2 ∧ c1 = c3 ∧ c2 = c4) ∧ ¬ (c0 = c1 ∧ c1 = c2 ∧ c2 = c3 ∧ c3 = c4)) (h1 : c0 = c5) : own_B5 c0 c1 c2 c3 c4 c5 1 := by
  unfold own_B5
  refine Or.inr <| Or.inl ⟨rfl, ?_⟩
  grind

theorem own_leaf5_1 (c0 c1 c2 c3 c4 c5 : Int32) (h0 : ¬ (c0 = c4) ∧ ¬ (c0 = c3 ∧ c1 = c4) ∧ ¬ (c0 = c2 ∧ c1 = c3 ∧ c2 = c4) ∧ ¬ (c0 = c1 ∧ c1 = c2 ∧ c2 = c3 ∧ c3 = c4)) (h1 : ¬ (c0 = c5)) : own_B5 c0 c1 c2 c3 c4 c5 0 := by
  unfold own_B5
  refine Or.inl ⟨rfl, ?_⟩
  grind

theorem own_leaf5_2 (c0 c1 c2 c3 c4 c5 : Int32) (h0 : (c0 = c4) ∧ ¬ (c0 = c3 ∧ c1 = c4) ∧ ¬ (c0 = c2 ∧ c1 = c3 ∧ c2 = c4) ∧ ¬ (c0 = c1 ∧ c1 = c2 ∧ c2 = c3 ∧ c3 = c4)) (h1 : c1 = c5) : own_B5 c0 c1 c2 c3 c4 c5 2 := by
  unfold own_B5
  refine Or.inr <| Or.inr <| Or.inl ⟨rfl, ?_⟩
  grind

theorem own_leaf5_3 (c0 c1 c2 c3 c4 c5 : Int32) (h0 : (c0 = c4) ∧ ¬ (c0 = c3 ∧ c1 = c4) ∧ ¬ (c0 = c2 ∧ c1 = c3 ∧ c2 = c4) ∧ ¬ (c0 = c1 ∧ c1 = c2 ∧ c2 = c3 ∧ c3 = c4)) (h1 : ¬ (c1 = c5)) (h2 : c0 = c5) : own_B5 c0 c1 c2 c3 c4 c5 1 := by
  unfold own_B5
  refine Or.inr <| Or.inl ⟨rfl, ?_⟩
  grind

theorem own_leaf5_4 (c0 c1 c2 c3 c4 c5 : Int32) (h0 : (c0 = c4) ∧ ¬ (c0 = c3 ∧ c1 = c4) ∧ ¬ (c0 = c2 ∧ c1 = c3 ∧ c2 = c4) ∧ ¬ (c0 = c1 ∧ c1 = c2 ∧ c2 = c3 ∧ c3 = c4)) (h1 : ¬ (c1 = c5)) (h2 : ¬ (c0 = c5)) : own_B5 c0 c1 c2 c3 c4 c5 0 := by
  unfold own_B5
  refine Or.inl ⟨rfl, ?_⟩
  grind

theorem own_leaf5_5 (c0 c1 c2 c3 c4 c5 : Int32) (h0 : (c0 = c3 ∧ c1 = c4) ∧ ¬ (c0 = c2 ∧ c1 = c3 ∧ c2 = c4) ∧ ¬ (c0 = c1 ∧ c1 = c2 ∧ c2 = c3 ∧ c3 = c4)) (h1 : c2 = c5) : own_B5 c0 c1 c2 c3 c4 c5 3 := by
  unfold own_B5
  refine Or.inr <| Or.inr <| Or.inr <| Or.inl ⟨rfl, ?_⟩
  grind

theorem own_leaf5_6 (c0 c1 c2 c3 c4 c5 : Int32) (h0 : (c0 = c3 ∧ c1 = c4) ∧ ¬ (c0 = c2 ∧ c1 = c3 ∧ c2 = c4) ∧ ¬ (c0 = c1 ∧ c1 = c2 ∧ c2 = c3 ∧ c3 = c4)) (h1 : ¬ (c0 = c1)) (h2 : ¬ (c2 = c5)) (h3 : c0 = c5) : own_B5 c0 c1 c2 c3 c4 c5 1 := by
  unfold own_B5
  refine Or.inr <| Or.inl ⟨rfl, ?_⟩
  grind

theorem own_leaf5_7 (c0 c1 c2 c3 c4 c5 : Int32) (h0 : (c0 = c3 ∧ c1 = c4) ∧ ¬ (c0 = c2 ∧ c1 = c3 ∧ c2 = c4) ∧ ¬ (c0 = c1 ∧ c1 = c2 ∧ c2 = c3 ∧ c3 = c4)) (h1 : ¬ (c0 = c1)) (h2 : ¬ (c2 = c5)) (h3 : ¬ (c0 = c5)) : own_B5 c0 c1 c2 c3 c4 c5 0 := by
  unfold own_B5
  refine Or.inl ⟨rfl, ?_⟩
  grind

theorem own_leaf5_8 (c0 c1 c2 c3 c4 c5 : Int32) (h0 : (c0 = c3 ∧ c1 = c4) ∧ ¬ (c0 = c2 ∧ c1 = c3 ∧ c2 = c4) ∧ ¬ (c0 = c1 ∧ c1 = c2 ∧ c2 = c3 ∧ c3 = c4)) (h1 : (c0 = c1)) (h2 : ¬ (c2 = c5)) (h3 : c1 = c5) : own_B5 c0 c1 c2 c3 c4 c5 2 := by
  unfold own_B5
  refine Or.inr <| Or.inr <| Or.inl ⟨rfl, ?_⟩
  grind

theorem own_leaf5_9 (c0 c1 c2 c3 c4 c5 : Int32) (h0 : (c0 = c3 ∧ c1 = c4) ∧ ¬ (c0 = c2 ∧ c1 = c3 ∧ c2 = c4) ∧ ¬ (c0 = c1 ∧ c1 = c2 ∧ c2 = c3 ∧ c3 = c4)) (h1 : (c0 = c1)) (h2 : ¬ (c2 = c5)) (h3 : ¬ (c1 = c5)) (h4 : c0 = c5) : own_B5 c0 c1 c2 c3 c4 c5 1 := by
  unfold own_B5
  refine Or.inr <| Or.inl ⟨rfl, ?_⟩
  grind

theorem own_leaf5_10 (c0 c1 c2 c3 c4 c5 : Int32) (h0 : (c0 = c3 ∧ c1 = c4) ∧ ¬ (c0 = c2 ∧ c1 = c3 ∧ c2 = c4) ∧ ¬ (c0 = c1 ∧ c1 = c2 ∧ c2 = c3 ∧ c3 = c4)) (h1 : (c0 = c1)) (h2 : ¬ (c2 = c5)) (h3 : ¬ (c1 = c5)) (h4 : ¬ (c0 = c5)) : own_B5 c0 c1 c2 c3 c4 c5 0 := by
  unfold own_B5
  refine Or.inl ⟨rfl, ?_⟩
  grind

theorem own_leaf5_11 (c0 c1 c2 c3 c4 c5 : Int32) (h0 : (c0 = c2 ∧ c1 = c3 ∧ c2 = c4) ∧ ¬ (c0 = c1 ∧ c1 = c2 ∧ c2 = c3 ∧ c3 = c4)) (h1 : c3 = c5) : own_B5 c0 c1 c2 c3 c4 c5 4 := by
  unfold own_B5
  refine Or.inr <| Or.inr <| Or.inr <| Or.inr <| Or.inl ⟨rfl, ?_⟩
  grind

theorem own_leaf5_12 (c0 c1 c2 c3 c4 c5 : Int32) (h0 : (c0 = c2 ∧ c1 = c3 ∧ c2 = c4) ∧ ¬ (c0 = c1 ∧ c1 = c2 ∧ c2 = c3 ∧ c3 = c4)) (h1 : ¬ (c0 = c2) ∧ ¬ (c0 = c1 ∧ c1 = c2)) (h2 : ¬ (c3 = c5)) (h3 : c0 = c5) : own_B5 c0 c1 c2 c3 c4 c5 1 := by
  unfold own_B5
  refine Or.inr <| Or.inl ⟨rfl, ?_⟩
  grind

theorem own_leaf5_13 (c0 c1 c2 c3 c4 c5 : Int32) (h0 : (c0 = c2 ∧ c1 = c3 ∧ c2 = c4) ∧ ¬ (c0 = c1 ∧ c1 = c2 ∧ c2 = c3 ∧ c3 = c4)) (h1 : ¬ (c0 = c2) ∧ ¬ (c0 = c1 ∧ c1 = c2)) (h2 : ¬ (c3 = c5)) (h3 : ¬ (c0 = c5)) : own_B5 c0 c1 c2 c3 c4 c5 0 := by
  unfold own_B5
  refine Or.inl ⟨rfl, ?_⟩
  grind

theorem own_leaf5_14 (c0 c1 c2 c3 c4 c5 : Int32) (h0 : (c0 = c2 ∧ c1 = c3 ∧ c2 = c4) ∧ ¬ (c0 = c1 ∧ c1 = c2 ∧ c2 = c3 ∧ c3 = c4)) (h1 : (c0 = c2) ∧ ¬ (c0 = c1 ∧ c1 = c2)) (h2 : ¬ (c3 = c5)) (h3 : c1 = c5) : own_B5 c0 c1 c2 c3 c4 c5 2 := by
  unfold own_B5
  refine Or.inr <| Or.inr <| Or.inl ⟨rfl, ?_⟩
  grind

theorem own_leaf5_15 (c0 c1 c2 c3 c4 c5 : Int32) (h0 : (c0 = c2 ∧ c1 = c3 ∧ c2 = c4) ∧ ¬ (c0 = c1 ∧ c1 = c2 ∧ c2 = c3 ∧ c3 = c4)) (h1 : (c0 = c2) ∧ ¬ (c0 = c1 ∧ c1 = c2)) (h2 : ¬ (c3 = c5)) (h3 : ¬ (c1 = c5)) (h4 : c0 = c5) : own_B5 c0 c1 c2 c3 c4 c5 1 := by
  unfold own_B5
  refine Or.inr <| Or.inl ⟨rfl, ?_⟩
  grind

theorem own_leaf5_16 (c0 c1 c2 c3 c4 c5 : Int32) (h0 : (c0 = c2 ∧ c1 = c3 ∧ c2 = c4) ∧ ¬ (c0 = c1 ∧ c1 = c2 ∧ c2 = c3 ∧ c3 = c4)) (h1 : (c0 = c2) ∧ ¬ (c0 = c1 ∧ c1 = c2)) (h2 : ¬ (c3 = c5)) (h3 : ¬ (c1 = c5)) (h4 : ¬ (c0 = c5)) : own_B5 c0 c1 c2 c3 c4 c5 0 := by
  unfold own_B5
  refine Or.inl ⟨rfl, ?_⟩
  grind

theorem own_leaf5_17 (c0 c1 c2 c3 c4 c5 : Int32) (h0 : (c0 = c2 ∧ c1 = c3 ∧ c2 = c4) ∧ ¬ (c0 = c1 ∧ c1 = c2 ∧ c2 = c3 ∧ c3 = c4)) (h1 : (c0 = c1 ∧ c1 = c2)) (h2 : ¬ (c3 = c5)) (h3 : c2 = c5) : own_B5 c0 c1 c2 c3 c4 c5 3 := by
  unfold own_B5
  refine Or.inr <| Or.inr <| Or.inr <| Or.inl ⟨rfl, ?_⟩
  grind

theorem own_leaf5_18 (c0 c1 c2 c3 c4 c5 : Int32) (h0 : (c0 = c2 ∧ c1 = c3 ∧ c2 = c4) ∧ ¬ (c0 = c1 ∧ c1 = c2 ∧ c2 = c3 ∧ c3 = c4)) (h1 : (c0 = c1 ∧ c1 = c2)) (h2 : ¬ (c0 = c1)) (h3 : ¬ (c3 = c5)) (h4 : ¬ (c2 = c5)) (h5 : c0 = c5) : own_B5 c0 c1 c2 c3 c4 c5 1 := by
  unfold own_B5
  refine Or.inr <| Or.inl ⟨rfl, ?_⟩
  grind

theorem own_leaf5_19 (c0 c1 c2 c3 c4 c5 : Int32) (h0 : (c0 = c2 ∧ c1 = c3 ∧ c2 = c4) ∧ ¬ (c0 = c1 ∧ c1 = c2 ∧ c2 = c3 ∧ c3 = c4)) (h1 : (c0 = c1 ∧ c1 = c2)) (h2 : ¬ (c0 = c1)) (h3 : ¬ (c3 = c5)) (h4 : ¬ (c2 = c5)) (h5 : ¬ (c0 = c5)) : own_B5 c0 c1 c2 c3 c4 c5 0 := by
  unfold own_B5
  refine Or.inl ⟨rfl, ?_⟩
  grind

theorem own_leaf5_20 (c0 c1 c2 c3 c4 c5 : Int32) (h0 : (c0 = c2 ∧ c1 = c3 ∧ c2 = c4) ∧ ¬ (c0 = c1 ∧ c1 = c2 ∧ c2 = c3 ∧ c3 = c4)) (h1 : (c0 = c1 ∧ c1 = c2)) (h2 : (c0 = c1)) (h3 : ¬ (c3 = c5)) (h4 : ¬ (c2 = c5)) (h5 : c1 = c5) : own_B5 c0 c1 c2 c3 c4 c5 2 := by
  unfold own_B5
  refine Or.inr <| Or.inr <| Or.inl ⟨rfl, ?_⟩
  grind

theorem own_leaf5_21 (c0 c1 c2 c3 c4 c5 : Int32) (h0 : (c0 = c2 ∧ c1 = c3 ∧ c2 = c4) ∧ ¬ (c0 = c1 ∧ c1 = c2 ∧ c2 = c3 ∧ c3 = c4)) (h1 : (c0 = c1 ∧ c1 = c2)) (h2 : (c0 = c1)) (h3 : ¬ (c3 = c5)) (h4 : ¬ (c2 = c5)) (h5 : ¬ (c1 = c5)) (h6 : c0 = c5) : own_B5 c0 c1 c2 c3 c4 c5 1 := by
  unfold own_B5
  refine Or.inr <| Or.inl ⟨rfl, ?_⟩
  grind

theorem own_leaf5_22 (c0 c1 c2 c3 c4 c5 : Int32) (h0 : (c0 = c2 ∧ c1 = c3 ∧ c2 = c4) ∧ ¬ (c0 = c1 ∧ c1 = c2 ∧ c2 = c3 ∧ c3 = c4)) (h1 : (c0 = c1 ∧ c1 = c2)) (h2 : (c0 = c1)) (h3 : ¬ (c3 = c5)) (h4 : ¬ (c2 = c5)) (h5 : ¬ (c1 = c5)) (h6 : ¬ (c0 = c5)) : own_B5 c0 c1 c2 c3 c4 c5 0 := by
  unfold own_B5
  refine Or.inl ⟨rfl, ?_⟩
  grind

theorem own_leaf5_23 (c0 c1 c2 c3 c4 c5 : Int32) (h0 : (c0 = c1 ∧ c1 = c2 ∧ c2 = c3 ∧ c3 = c4)) (h1 : c4 = c5) : own_B5 c0 c1 c2 c3 c4 c5 5 := by
  unfold own_B5
  refine Or.inr <| Or.inr <| Or.inr <| Or.inr <| Or.inr <| ⟨rfl, ?_⟩
  grind

theorem own_leaf5_24 (c0 c1 c2 c3 c4 c5 : Int32) (h0 : (c0 = c1 ∧ c1 = c2 ∧ c2 = c3 ∧ c3 = c4)) (h1 : ¬ (c0 = c3) ∧ ¬ (c0 = c2 ∧ c1 = c3) ∧ ¬ (c0 = c1 ∧ c1 = c2 ∧ c2 = c3)) (h2 : ¬ (c4 = c5)) (h3 : c0 = c5) : own_B5 c0 c1 c2 c3 c4 c5 1 := by
  unfold own_B5
  refine Or.inr <| Or.inl ⟨rfl, ?_⟩
  grind

theorem own_leaf5_25 (c0 c1 c2 c3 c4 c5 : Int32) (h0 : (c0 = c1 ∧ c1 = c2 ∧ c2 = c3 ∧ c3 = c4)) (h1 : ¬ (c0 = c3) ∧ ¬ (c0 = c2 ∧ c1 = c3) ∧ ¬ (c0 = c1 ∧ c1 = c2 ∧ c2 = c3)) (h2 : ¬ (c4 = c5)) (h3 : ¬ (c0 = c5)) : own_B5 c0 c1 c2 c3 c4 c5 0 := by
  unfold own_B5
  refine Or.inl ⟨rfl, ?_⟩
  grind

theorem own_leaf5_26 (c0 c1 c2 c3 c4 c5 : Int32) (h0 : (c0 = c1 ∧ c1 = c2 ∧ c2 = c3 ∧ c3 = c4)) (h1 : (c0 = c3) ∧ ¬ (c0 = c2 ∧ c1 = c3) ∧ ¬ (c0 = c1 ∧ c1 = c2 ∧ c2 = c3)) (h2 : ¬ (c4 = c5)) (h3 : c1 = c5) : own_B5 c0 c1 c2 c3 c4 c5 2 := by
  unfold own_B5
  refine Or.inr <| Or.inr <| Or.inl ⟨rfl, ?_⟩
  grind

theorem own_leaf5_27 (c0 c1 c2 c3 c4 c5 : Int32) (h0 : (c0 = c1 ∧ c1 = c2 ∧ c2 = c3 ∧ c3 = c4)) (h1 : (c0 = c3) ∧ ¬ (c0 = c2 ∧ c1 = c3) ∧ ¬ (c0 = c1 ∧ c1 = c2 ∧ c2 = c3)) (h2 : ¬ (c4 = c5)) (h3 : ¬ (c1 = c5)) (h4 : c0 = c5) : own_B5 c0 c1 c2 c3 c4 c5 1 := by
  unfold own_B5
  refine Or.inr <| Or.inl ⟨rfl, ?_⟩
  grind

theorem own_leaf5_28 (c0 c1 c2 c3 c4 c5 : Int32) (h0 : (c0 = c1 ∧ c1 = c2 ∧ c2 = c3 ∧ c3 = c4)) (h1 : (c0 = c3) ∧ ¬ (c0 = c2 ∧ c1 = c3) ∧ ¬ (c0 = c1 ∧ c1 = c2 ∧ c2 = c3)) (h2 : ¬ (c4 = c5)) (h3 : ¬ (c1 = c5)) (h4 : ¬ (c0 = c5)) : own_B5 c0 c1 c2 c3 c4 c5 0 := by
  unfold own_B5
  refine Or.inl ⟨rfl, ?_⟩
  grind

theorem own_leaf5_29 (c0 c1 c2 c3 c4 c5 : Int32) (h0 : (c0 = c1 ∧ c1 = c2 ∧ c2 = c3 ∧ c3 = c4)) (h1 : (c0 = c2 ∧ c1 = c3) ∧ ¬ (c0 = c1 ∧ c1 = c2 ∧ c2 = c3)) (h2 : ¬ (c4 = c5)) (h3 : c2 = c5) : own_B5 c0 c1 c2 c3 c4 c5 3 := by
  unfold own_B5
  refine Or.inr <| Or.inr <| Or.inr <| Or.inl ⟨rfl, ?_⟩
  grind

theorem own_leaf5_30 (c0 c1 c2 c3 c4 c5 : Int32) (h0 : (c0 = c1 ∧ c1 = c2 ∧ c2 = c3 ∧ c3 = c4)) (h1 : (c0 = c2 ∧ c1 = c3) ∧ ¬ (c0 = c1 ∧ c1 = c2 ∧ c2 = c3)) (h2 : ¬ (c0 = c1)) (h3 : ¬ (c4 = c5)) (h4 : ¬ (c2 = c5)) (h5 : c0 = c5) : own_B5 c0 c1 c2 c3 c4 c5 1 := by
  unfold own_B5
  refine Or.inr <| Or.inl ⟨rfl, ?_⟩
  grind

theorem own_leaf5_31 (c0 c1 c2 c3 c4 c5 : Int32) (h0 : (c0 = c1 ∧ c1 = c2 ∧ c2 = c3 ∧ c3 = c4)) (h1 : (c0 = c2 ∧ c1 = c3) ∧ ¬ (c0 = c1 ∧ c1 = c2 ∧ c2 = c3)) (h2 : ¬ (c0 = c1)) (h3 : ¬ (c4 = c5)) (h4 : ¬ (c2 = c5)) (h5 : ¬ (c0 = c5)) : own_B5 c0 c1 c2 c3 c4 c5 0 := by
  unfold own_B5
  refine Or.inl ⟨rfl, ?_⟩
  grind

theorem own_leaf5_32 (c0 c1 c2 c3 c4 c5 : Int32) (h0 : (c0 = c1 ∧ c1 = c2 ∧ c2 = c3 ∧ c3 = c4)) (h1 : (c0 = c2 ∧ c1 = c3) ∧ ¬ (c0 = c1 ∧ c1 = c2 ∧ c2 = c3)) (h2 : (c0 = c1)) (h3 : ¬ (c4 = c5)) (h4 : ¬ (c2 = c5)) (h5 : c1 = c5) : own_B5 c0 c1 c2 c3 c4 c5 2 := by
  unfold own_B5
  refine Or.inr <| Or.inr <| Or.inl ⟨rfl, ?_⟩
  grind

theorem own_leaf5_33 (c0 c1 c2 c3 c4 c5 : Int32) (h0 : (c0 = c1 ∧ c1 = c2 ∧ c2 = c3 ∧ c3 = c4)) (h1 : (c0 = c2 ∧ c1 = c3) ∧ ¬ (c0 = c1 ∧ c1 = c2 ∧ c2 = c3)) (h2 : (c0 = c1)) (h3 : ¬ (c4 = c5)) (h4 : ¬ (c2 = c5)) (h5 : ¬ (c1 = c5)) (h6 : c0 = c5) : own_B5 c0 c1 c2 c3 c4 c5 1 := by
  unfold own_B5
  refine Or.inr <| Or.inl ⟨rfl, ?_⟩
  grind

theorem own_leaf5_34 (c0 c1 c2 c3 c4 c5 : Int32) (h0 : (c0 = c1 ∧ c1 = c2 ∧ c2 = c3 ∧ c3 = c4)) (h1 : (c0 = c2 ∧ c1 = c3) ∧ ¬ (c0 = c1 ∧ c1 = c2 ∧ c2 = c3)) (h2 : (c0 = c1)) (h3 : ¬ (c4 = c5)) (h4 : ¬ (c2 = c5)) (h5 : ¬ (c1 = c5)) (h6 : ¬ (c0 = c5)) : own_B5 c0 c1 c2 c3 c4 c5 0 := by
  unfold own_B5
  refine Or.inl ⟨rfl, ?_⟩
  grind

theorem own_leaf5_35 (c0 c1 c2 c3 c4 c5 : Int32) (h0 : (c0 = c1 ∧ c1 = c2 ∧ c2 = c3 ∧ c3 = c4)) (h1 : (c0 = c1 ∧ c1 = c2 ∧ c2 = c3)) (h2 : ¬ (c4 = c5)) (h3 : c3 = c5) : own_B5 c0 c1 c2 c3 c4 c5 4 := by
  unfold own_B5
  refine Or.inr <| Or.inr <| Or.inr <| Or.inr <| Or.inl ⟨rfl, ?_⟩
  grind

theorem own_leaf5_36 (c0 c1 c2 c3 c4 c5 : Int32) (h0 : (c0 = c1 ∧ c1 = c2 ∧ c2 = c3 ∧ c3 = c4)) (h1 : (c0 = c1 ∧ c1 = c2 ∧ c2 = c3)) (h2 : ¬ (c0 = c2) ∧ ¬ (c0 = c1 ∧ c1 = c2)) (h3 : ¬ (c4 = c5)) (h4 : ¬ (c3 = c5)) (h5 : c0 = c5) : own_B5 c0 c1 c2 c3 c4 c5 1 := by
  unfold own_B5
  refine Or.inr <| Or.inl ⟨rfl, ?_⟩
  grind

theorem own_leaf5_37 (c0 c1 c2 c3 c4 c5 : Int32) (h0 : (c0 = c1 ∧ c1 = c2 ∧ c2 = c3 ∧ c3 = c4)) (h1 : (c0 = c1 ∧ c1 = c2 ∧ c2 = c3)) (h2 : ¬ (c0 = c2) ∧ ¬ (c0 = c1 ∧ c1 = c2)) (h3 : ¬ (c4 = c5)) (h4 : ¬ (c3 = c5)) (h5 : ¬ (c0 = c5)) : own_B5 c0 c1 c2 c3 c4 c5 0 := by
  unfold own_B5
  refine Or.inl ⟨rfl, ?_⟩
  grind

theorem own_leaf5_38 (c0 c1 c2 c3 c4 c5 : Int32) (h0 : (c0 = c1 ∧ c1 = c2 ∧ c2 = c3 ∧ c3 = c4)) (h1 : (c0 = c1 ∧ c1 = c2 ∧ c2 = c3)) (h2 : (c0 = c2) ∧ ¬ (c0 = c1 ∧ c1 = c2)) (h3 : ¬ (c4 = c5)) (h4 : ¬ (c3 = c5)) (h5 : c1 = c5) : own_B5 c0 c1 c2 c3 c4 c5 2 := by
  unfold own_B5
  refine Or.inr <| Or.inr <| Or.inl ⟨rfl, ?_⟩
  grind

theorem own_leaf5_39 (c0 c1 c2 c3 c4 c5 : Int32) (h0 : (c0 = c1 ∧ c1 = c2 ∧ c2 = c3 ∧ c3 = c4)) (h1 : (c0 = c1 ∧ c1 = c2 ∧ c2 = c3)) (h2 : (c0 = c2) ∧ ¬ (c0 = c1 ∧ c1 = c2)) (h3 : ¬ (c4 = c5)) (h4 : ¬ (c3 = c5)) (h5 : ¬ (c1 = c5)) (h6 : c0 = c5) : own_B5 c0 c1 c2 c3 c4 c5 1 := by
  unfold own_B5
  refine Or.inr <| Or.inl ⟨rfl, ?_⟩
  grind

theorem own_leaf5_40 (c0 c1 c2 c3 c4 c5 : Int32) (h0 : (c0 = c1 ∧ c1 = c2 ∧ c2 = c3 ∧ c3 = c4)) (h1 : (c0 = c1 ∧ c1 = c2 ∧ c2 = c3)) (h2 : (c0 = c2) ∧ ¬ (c0 = c1 ∧ c1 = c2)) (h3 : ¬ (c4 = c5)) (h4 : ¬ (c3 = c5)) (h5 : ¬ (c1 = c5)) (h6 : ¬ (c0 = c5)) : own_B5 c0 c1 c2 c3 c4 c5 0 := by
  unfold own_B5
  refine Or.inl ⟨rfl, ?_⟩
  grind

theorem own_leaf5_41 (c0 c1 c2 c3 c4 c5 : Int32) (h0 : (c0 = c1 ∧ c1 = c2 ∧ c2 = c3 ∧ c3 = c4)) (h1 : (c0 = c1 ∧ c1 = c2 ∧ c2 = c3)) (h2 : (c0 = c1 ∧ c1 = c2)) (h3 : ¬ (c4 = c5)) (h4 : ¬ (c3 = c5)) (h5 : c2 = c5) : own_B5 c0 c1 c2 c3 c4 c5 3 := by
  unfold own_B5
  refine Or.inr <| Or.inr <| Or.inr <| Or.inl ⟨rfl, ?_⟩
  grind

theorem own_leaf5_42 (c0 c1 c2 c3 c4 c5 : Int32) (h0 : (c0 = c1 ∧ c1 = c2 ∧ c2 = c3 ∧ c3 = c4)) (h1 : (c0 = c1 ∧ c1 = c2 ∧ c2 = c3)) (h2 : (c0 = c1 ∧ c1 = c2)) (h3 : ¬ (c0 = c1)) (h4 : ¬ (c4 = c5)) (h5 : ¬ (c3 = c5)) (h6 : ¬ (c2 = c5)) (h7 : c0 = c5) : own_B5 c0 c1 c2 c3 c4 c5 1 := by
  unfold own_B5
  refine Or.inr <| Or.inl ⟨rfl, ?_⟩
  grind

theorem own_leaf5_43 (c0 c1 c2 c3 c4 c5 : Int32) (h0 : (c0 = c1 ∧ c1 = c2 ∧ c2 = c3 ∧ c3 = c4)) (h1 : (c0 = c1 ∧ c1 = c2 ∧ c2 = c3)) (h2 : (c0 = c1 ∧ c1 = c2)) (h3 : ¬ (c0 = c1)) (h4 : ¬ (c4 = c5)) (h5 : ¬ (c3 = c5)) (h6 : ¬ (c2 = c5)) (h7 : ¬ (c0 = c5)) : own_B5 c0 c1 c2 c3 c4 c5 0 := by
  unfold own_B5
  refine Or.inl ⟨rfl, ?_⟩
  grind

theorem own_leaf5_44 (c0 c1 c2 c3 c4 c5 : Int32) (h0 : (c0 = c1 ∧ c1 = c2 ∧ c2 = c3 ∧ c3 = c4)) (h1 : (c0 = c1 ∧ c1 = c2 ∧ c2 = c3)) (h2 : (c0 = c1 ∧ c1 = c2)) (h3 : (c0 = c1)) (h4 : ¬ (c4 = c5)) (h5 : ¬ (c3 = c5)) (h6 : ¬ (c2 = c5)) (h7 : c1 = c5) : own_B5 c0 c1 c2 c3 c4 c5 2 := by
  unfold own_B5
  refine Or.inr <| Or.inr <| Or.inl ⟨rfl, ?_⟩
  grind

theorem own_leaf5_45 (c0 c1 c2 c3 c4 c5 : Int32) (h0 : (c0 = c1 ∧ c1 = c2 ∧ c2 = c3 ∧ c3 = c4)) (h1 : (c0 = c1 ∧ c1 = c2 ∧ c2 = c3)) (h2 : (c0 = c1 ∧ c1 = c2)) (h3 : (c0 = c1)) (h4 : ¬ (c4 = c5)) (h5 : ¬ (c3 = c5)) (h6 : ¬ (c2 = c5)) (h7 : ¬ (c1 = c5)) (h8 : c0 = c5) : own_B5 c0 c1 c2 c3 c4 c5 1 := by
  unfold own_B5
  refine Or.inr <| Or.inl ⟨rfl, ?_⟩
  grind

theorem own_leaf5_46 (c0 c1 c2 c3 c4 c5 : Int32) (h0 : (c0 = c1 ∧ c1 = c2 ∧ c2 = c3 ∧ c3 = c4)) (h1 : (c0 = c1 ∧ c1 = c2 ∧ c2 = c3)) (h2 : (c0 = c1 ∧ c1 = c2)) (h3 : (c0 = c1)) (h4 : ¬ (c4 = c5)) (h5 : ¬ (c3 = c5)) (h6 : ¬ (c2 = c5)) (h7 : ¬ (c1 = c5)) (h8 : ¬ (c0 = c5)) : own_B5 c0 c1 c2 c3 c4 c5 0 := by
  unfold own_B5
  refine Or.inl ⟨rfl, ?_⟩
  grind

theorem own_leaf4_47 (c0 c1 c2 c3 c4 : Int32) (h0 : ¬ (c0 = c3) ∧ ¬ (c0 = c2 ∧ c1 = c3) ∧ ¬ (c0 = c1 ∧ c1 = c2 ∧ c2 = c3)) (h1 : c0 = c4) : own_B4 c0 c1 c2 c3 c4 1 := by
  unfold own_B4
  refine Or.inr <| Or.inl ⟨rfl, ?_⟩
  grind

theorem own_leaf4_48 (c0 c1 c2 c3 c4 : Int32) (h0 : ¬ (c0 = c3) ∧ ¬ (c0 = c2 ∧ c1 = c3) ∧ ¬ (c0 = c1 ∧ c1 = c2 ∧ c2 = c3)) (h1 : ¬ (c0 = c4)) : own_B4 c0 c1 c2 c3 c4 0 := by
  unfold own_B4
  refine Or.inl ⟨rfl, ?_⟩
  grind

theorem own_leaf4_49 (c0 c1 c2 c3 c4 : Int32) (h0 : (c0 = c3) ∧ ¬ (c0 = c2 ∧ c1 = c3) ∧ ¬ (c0 = c1 ∧ c1 = c2 ∧ c2 = c3)) (h1 : c1 = c4) : own_B4 c0 c1 c2 c3 c4 2 := by
  unfold own_B4
  refine Or.inr <| Or.inr <| Or.inl ⟨rfl, ?_⟩
  grind

theorem own_leaf4_50 (c0 c1 c2 c3 c4 : Int32) (h0 : (c0 = c3) ∧ ¬ (c0 = c2 ∧ c1 = c3) ∧ ¬ (c0 = c1 ∧ c1 = c2 ∧ c2 = c3)) (h1 : ¬ (c1 = c4)) (h2 : c0 = c4) : own_B4 c0 c1 c2 c3 c4 1 := by
  unfold own_B4
  refine Or.inr <| Or.inl ⟨rfl, ?_⟩
  grind

theorem own_leaf4_51 (c0 c1 c2 c3 c4 : Int32) (h0 : (c0 = c3) ∧ ¬ (c0 = c2 ∧ c1 = c3) ∧ ¬ (c0 = c1 ∧ c1 = c2 ∧ c2 = c3)) (h1 : ¬ (c1 = c4)) (h2 : ¬ (c0 = c4)) : own_B4 c0 c1 c2 c3 c4 0 := by
  unfold own_B4
  refine Or.inl ⟨rfl, ?_⟩
  grind

theorem own_leaf4_52 (c0 c1 c2 c3 c4 : Int32) (h0 : (c0 = c2 ∧ c1 = c3) ∧ ¬ (c0 = c1 ∧ c1 = c2 ∧ c2 = c3)) (h1 : c2 = c4) : own_B4 c0 c1 c2 c3 c4 3 := by
  unfold own_B4
  refine Or.inr <| Or.inr <| Or.inr <| Or.inl ⟨rfl, ?_⟩
  grind

theorem own_leaf4_53 (c0 c1 c2 c3 c4 : Int32) (h0 : (c0 = c2 ∧ c1 = c3) ∧ ¬ (c0 = c1 ∧ c1 = c2 ∧ c2 = c3)) (h1 : ¬ (c0 = c1)) (h2 : ¬ (c2 = c4)) (h3 : c0 = c4) : own_B4 c0 c1 c2 c3 c4 1 := by
  unfold own_B4
  refine Or.inr <| Or.inl ⟨rfl, ?_⟩
  grind

theorem own_leaf4_54 (c0 c1 c2 c3 c4 : Int32) (h0 : (c0 = c2 ∧ c1 = c3) ∧ ¬ (c0 = c1 ∧ c1 = c2 ∧ c2 = c3)) (h1 : ¬ (c0 = c1)) (h2 : ¬ (c2 = c4)) (h3 : ¬ (c0 = c4)) : own_B4 c0 c1 c2 c3 c4 0 := by
  unfold own_B4
  refine Or.inl ⟨rfl, ?_⟩
  grind

theorem own_leaf4_55 (c0 c1 c2 c3 c4 : Int32) (h0 : (c0 = c2 ∧ c1 = c3) ∧ ¬ (c0 = c1 ∧ c1 = c2 ∧ c2 = c3)) (h1 : (c0 = c1)) (h2 : ¬ (c2 = c4)) (h3 : c1 = c4) : own_B4 c0 c1 c2 c3 c4 2 := by
  unfold own_B4
  refine Or.inr <| Or.inr <| Or.inl ⟨rfl, ?_⟩
  grind

theorem own_leaf4_56 (c0 c1 c2 c3 c4 : Int32) (h0 : (c0 = c2 ∧ c1 = c3) ∧ ¬ (c0 = c1 ∧ c1 = c2 ∧ c2 = c3)) (h1 : (c0 = c1)) (h2 : ¬ (c2 = c4)) (h3 : ¬ (c1 = c4)) (h4 : c0 = c4) : own_B4 c0 c1 c2 c3 c4 1 := by
  unfold own_B4
  refine Or.inr <| Or.inl ⟨rfl, ?_⟩
  grind

theorem own_leaf4_57 (c0 c1 c2 c3 c4 : Int32) (h0 : (c0 = c2 ∧ c1 = c3) ∧ ¬ (c0 = c1 ∧ c1 = c2 ∧ c2 = c3)) (h1 : (c0 = c1)) (h2 : ¬ (c2 = c4)) (h3 : ¬ (c1 = c4)) (h4 : ¬ (c0 = c4)) : own_B4 c0 c1 c2 c3 c4 0 := by
  unfold own_B4
  refine Or.inl ⟨rfl, ?_⟩
  grind

theorem own_leaf4_58 (c0 c1 c2 c3 c4 : Int32) (h0 : (c0 = c1 ∧ c1 = c2 ∧ c2 = c3)) (h1 : c3 = c4) : own_B4 c0 c1 c2 c3 c4 4 := by
  unfold own_B4
  refine Or.inr <| Or.inr <| Or.inr <| Or.inr <| ⟨rfl, ?_⟩
  grind

theorem own_leaf4_59 (c0 c1 c2 c3 c4 : Int32) (h0 : (c0 = c1 ∧ c1 = c2 ∧ c2 = c3)) (h1 : ¬ (c0 = c2) ∧ ¬ (c0 = c1 ∧ c1 = c2)) (h2 : ¬ (c3 = c4)) (h3 : c0 = c4) : own_B4 c0 c1 c2 c3 c4 1 := by
  unfold own_B4
  refine Or.inr <| Or.inl ⟨rfl, ?_⟩
  grind

theorem own_leaf4_60 (c0 c1 c2 c3 c4 : Int32) (h0 : (c0 = c1 ∧ c1 = c2 ∧ c2 = c3)) (h1 : ¬ (c0 = c2) ∧ ¬ (c0 = c1 ∧ c1 = c2)) (h2 : ¬ (c3 = c4)) (h3 : ¬ (c0 = c4)) : own_B4 c0 c1 c2 c3 c4 0 := by
  unfold own_B4
  refine Or.inl ⟨rfl, ?_⟩
  grind

theorem own_leaf4_61 (c0 c1 c2 c3 c4 : Int32) (h0 : (c0 = c1 ∧ c1 = c2 ∧ c2 = c3)) (h1 : (c0 = c2) ∧ ¬ (c0 = c1 ∧ c1 = c2)) (h2 : ¬ (c3 = c4)) (h3 : c1 = c4) : own_B4 c0 c1 c2 c3 c4 2 := by
  unfold own_B4
  refine Or.inr <| Or.inr <| Or.inl ⟨rfl, ?_⟩
  grind

theorem own_leaf4_62 (c0 c1 c2 c3 c4 : Int32) (h0 : (c0 = c1 ∧ c1 = c2 ∧ c2 = c3)) (h1 : (c0 = c2) ∧ ¬ (c0 = c1 ∧ c1 = c2)) (h2 : ¬ (c3 = c4)) (h3 : ¬ (c1 = c4)) (h4 : c0 = c4) : own_B4 c0 c1 c2 c3 c4 1 := by
  unfold own_B4
  refine Or.inr <| Or.inl ⟨rfl, ?_⟩
  grind

theorem own_leaf4_63 (c0 c1 c2 c3 c4 : Int32) (h0 : (c0 = c1 ∧ c1 = c2 ∧ c2 = c3)) (h1 : (c0 = c2) ∧ ¬ (c0 = c1 ∧ c1 = c2)) (h2 : ¬ (c3 = c4)) (h3 : ¬ (c1 = c4)) (h4 : ¬ (c0 = c4)) : own_B4 c0 c1 c2 c3 c4 0 := by
  unfold own_B4
  refine Or.inl ⟨rfl, ?_⟩
  grind

theorem own_leaf4_64 (c0 c1 c2 c3 c4 : Int32) (h0 : (c0 = c1 ∧ c1 = c2 ∧ c2 = c3)) (h1 : (c0 = c1 ∧ c1 = c2)) (h2 : ¬ (c3 = c4)) (h3 : c2 = c4) : own_B4 c0 c1 c2 c3 c4 3 := by
  unfold own_B4
  refine Or.inr <| Or.inr <| Or.inr <| Or.inl ⟨rfl, ?_⟩
  grind

theorem own_leaf4_65 (c0 c1 c2 c3 c4 : Int32) (h0 : (c0 = c1 ∧ c1 = c2 ∧ c2 = c3)) (h1 : (c0 = c1 ∧ c1 = c2)) (h2 : ¬ (c0 = c1)) (h3 : ¬ (c3 = c4)) (h4 : ¬ (c2 = c4)) (h5 : c0 = c4) : own_B4 c0 c1 c2 c3 c4 1 := by
  unfold own_B4
  refine Or.inr <| Or.inl ⟨rfl, ?_⟩
  grind

theorem own_leaf4_66 (c0 c1 c2 c3 c4 : Int32) (h0 : (c0 = c1 ∧ c1 = c2 ∧ c2 = c3)) (h1 : (c0 = c1 ∧ c1 = c2)) (h2 : ¬ (c0 = c1)) (h3 : ¬ (c3 = c4)) (h4 : ¬ (c2 = c4)) (h5 : ¬ (c0 = c4)) : own_B4 c0 c1 c2 c3 c4 0 := by
  unfold own_B4
  refine Or.inl ⟨rfl, ?_⟩
  grind

theorem own_leaf4_67 (c0 c1 c2 c3 c4 : Int32) (h0 : (c0 = c1 ∧ c1 = c2 ∧ c2 = c3)) (h1 : (c0 = c1 ∧ c1 = c2)) (h2 : (c0 = c1)) (h3 : ¬ (c3 = c4)) (h4 : ¬ (c2 = c4)) (h5 : c1 = c4) : own_B4 c0 c1 c2 c3 c4 2 := by
  unfold own_B4
  refine Or.inr <| Or.inr <| Or.inl ⟨rfl, ?_⟩
  grind

theorem own_leaf4_68 (c0 c1 c2 c3 c4 : Int32) (h0 : (c0 = c1 ∧ c1 = c2 ∧ c2 = c3)) (h1 : (c0 = c1 ∧ c1 = c2)) (h2 : (c0 = c1)) (h3 : ¬ (c3 = c4)) (h4 : ¬ (c2 = c4)) (h5 : ¬ (c1 = c4)) (h6 : c0 = c4) : own_B4 c0 c1 c2 c3 c4 1 := by
  unfold own_B4
  refine Or.inr <| Or.inl ⟨rfl, ?_⟩
  grind

theorem own_leaf4_69 (c0 c1 c2 c3 c4 : Int32) (h0 : (c0 = c1 ∧ c1 = c2 ∧ c2 = c3)) (h1 : (c0 = c1 ∧ c1 = c2)) (h2 : (c0 = c1)) (h3 : ¬ (c3 = c4)) (h4 : ¬ (c2 = c4)) (h5 : ¬ (c1 = c4)) (h6 : ¬ (c0 = c4)) : own_B4 c0 c1 c2 c3 c4 0 := by
  unfold own_B4
  refine Or.inl ⟨rfl, ?_⟩
  grind

theorem own_leaf3_70 (c0 c1 c2 c3 : Int32) (h0 : ¬ (c0 = c2) ∧ ¬ (c0 = c1 ∧ c1 = c2)) (h1 : c0 = c3) : own_B3 c0 c1 c2 c3 1 := by
  unfold own_B3
  refine Or.inr <| Or.inl ⟨rfl, ?_⟩
  grind

theorem own_leaf3_71 (c0 c1 c2 c3 : Int32) (h0 : ¬ (c0 = c2) ∧ ¬ (c0 = c1 ∧ c1 = c2)) (h1 : ¬ (c0 = c3)) : own_B3 c0 c1 c2 c3 0 := by
  unfold own_B3
  refine Or.inl ⟨rfl, ?_⟩
  grind

theorem own_leaf3_72 (c0 c1 c2 c3 : Int32) (h0 : (c0 = c2) ∧ ¬ (c0 = c1 ∧ c1 = c2)) (h1 : c1 = c3) : own_B3 c0 c1 c2 c3 2 := by
  unfold own_B3
  refine Or.inr <| Or.inr <| Or.inl ⟨rfl, ?_⟩
  grind

theorem own_leaf3_73 (c0 c1 c2 c3 : Int32) (h0 : (c0 = c2) ∧ ¬ (c0 = c1 ∧ c1 = c2)) (h1 : ¬ (c1 = c3)) (h2 : c0 = c3) : own_B3 c0 c1 c2 c3 1 := by
  unfold own_B3
  refine Or.inr <| Or.inl ⟨rfl, ?_⟩
  grind

theorem own_leaf3_74 (c0 c1 c2 c3 : Int32) (h0 : (c0 = c2) ∧ ¬ (c0 = c1 ∧ c1 = c2)) (h1 : ¬ (c1 = c3)) (h2 : ¬ (c0 = c3)) : own_B3 c0 c1 c2 c3 0 := by
  unfold own_B3
  refine Or.inl ⟨rfl, ?_⟩
  grind

theorem own_leaf3_75 (c0 c1 c2 c3 : Int32) (h0 : (c0 = c1 ∧ c1 = c2)) (h1 : c2 = c3) : own_B3 c0 c1 c2 c3 3 := by
  unfold own_B3
  refine Or.inr <| Or.inr <| Or.inr <| ⟨rfl, ?_⟩
  grind

theorem own_leaf3_76 (c0 c1 c2 c3 : Int32) (h0 : (c0 = c1 ∧ c1 = c2)) (h1 : ¬ (c0 = c1)) (h2 : ¬ (c2 = c3)) (h3 : c0 = c3) : own_B3 c0 c1 c2 c3 1 := by
  unfold own_B3
  refine Or.inr <| Or.inl ⟨rfl, ?_⟩
  grind

theorem own_leaf3_77 (c0 c1 c2 c3 : Int32) (h0 : (c0 = c1 ∧ c1 = c2)) (h1 : ¬ (c0 = c1)) (h2 : ¬ (c2 = c3)) (h3 : ¬ (c0 = c3)) : own_B3 c0 c1 c2 c3 0 := by
  unfold own_B3
  refine Or.inl ⟨rfl, ?_⟩
  grind

theorem own_leaf3_78 (c0 c1 c2 c3 : Int32) (h0 : (c0 = c1 ∧ c1 = c2)) (h1 : (c0 = c1)) (h2 : ¬ (c2 = c3)) (h3 : c1 = c3) : own_B3 c0 c1 c2 c3 2 := by
  unfold own_B3
  refine Or.inr <| Or.inr <| Or.inl ⟨rfl, ?_⟩
  grind

theorem own_leaf3_79 (c0 c1 c2 c3 : Int32) (h0 : (c0 = c1 ∧ c1 = c2)) (h1 : (c0 = c1)) (h2 : ¬ (c2 = c3)) (h3 : ¬ (c1 = c3)) (h4 : c0 = c3) : own_B3 c0 c1 c2 c3 1 := by
  unfold own_B3
  refine Or.inr <| Or.inl ⟨rfl, ?_⟩
  grind

theorem own_leaf3_80 (c0 c1 c2 c3 : Int32) (h0 : (c0 = c1 ∧ c1 = c2)) (h1 : (c0 = c1)) (h2 : ¬ (c2 = c3)) (h3 : ¬ (c1 = c3)) (h4 : ¬ (c0 = c3)) : own_B3 c0 c1 c2 c3 0 := by
  unfold own_B3
  refine Or.inl ⟨rfl, ?_⟩
  grind

theorem own_leaf2_81 (c0 c1 c2 : Int32) (h0 : ¬ (c0 = c1)) (h1 : c0 = c2) : own_B2 c0 c1 c2 1 := by
  unfold own_B2
  refine Or.inr <| Or.inl ⟨rfl, ?_⟩
  grind

theorem own_leaf2_82 (c0 c1 c2 : Int32) (h0 : ¬ (c0 = c1)) (h1 : ¬ (c0 = c2)) : own_B2 c0 c1 c2 0 := by
  unfold own_B2
  refine Or.inl ⟨rfl, ?_⟩
  grind

theorem own_leaf2_83 (c0 c1 c2 : Int32) (h0 : (c0 = c1)) (h1 : c1 = c2) : own_B2 c0 c1 c2 2 := by
  unfold own_B2
  refine Or.inr <| Or.inr <| ⟨rfl, ?_⟩
  grind

theorem own_leaf2_84 (c0 c1 c2 : Int32) (h0 : (c0 = c1)) (h1 : ¬ (c1 = c2)) (h2 : c0 = c2) : own_B2 c0 c1 c2 1 := by
  unfold own_B2
  refine Or.inr <| Or.inl ⟨rfl, ?_⟩
  grind

theorem own_leaf2_85 (c0 c1 c2 : Int32) (h0 : (c0 = c1)) (h1 : ¬ (c1 = c2)) (h2 : ¬ (c0 = c2)) : own_B2 c0 c1 c2 0 := by
  unfold own_B2
  refine Or.inl ⟨rfl, ?_⟩
  grind

theorem own_leaf1_86 (c0 c1 : Int32) (h0 : c0 = c1) : own_B1 c0 c1 1 := by
  unfold own_B1
  refine Or.inr <| ⟨rfl, ?_⟩
  grind

theorem own_leaf1_87 (c0 c1 : Int32) (h0 : ¬ (c0 = c1)) : own_B1 c0 c1 0 := by
  unfold own_B1
  refine Or.inl ⟨rfl, ?_⟩
  grind

def Q2 (Z : State) (ob : Addr) (sn : Addr) (h0 : Heap) (n0 : Nat) (v : Option Value) (h : Heap) (L : List Loc) : Prop := v = some (.ref ob) ∧ Fr n0 L ∧ h = h0
theorem pn_java_util_Objects : plainName "java/util/Objects" = true := by first | (simp [plainName, overriddenIn]; done) | decide +kernel
theorem ef_2 (m : MethodId) (ob : Addr) (sn : Addr) : entryFrame m #[(.ref ob), (.ref sn)] 2 = mkF m 0 #[.val (.ref ob), .val (.ref sn)] [] := by first | (simp [entryFrame, mkF, argsToLocals, Value.category]; done) | rfl
theorem d2_0 : decode jdk_31_method_11_code 0 = .ok (.aload_n 0, 1) := by decide +kernel
theorem d2_1 : decode jdk_31_method_11_code 1 = .ok (.ifnonnull 12, 3) := by decide +kernel
theorem d2_13 : decode jdk_31_method_11_code 13 = .ok (.aload_n 0, 1) := by decide +kernel
theorem d2_14 : decode jdk_31_method_11_code 14 = .ok (.areturn, 1) := by decide +kernel
set_option maxRecDepth 65536 in
set_option maxHeartbeats 40000000 in
theorem rm2 (l : Launch) (Z : State) (a0 : Array Value) (hw : ∀ d ∈ tables_1, d.before a0 Z = true) (ws : List Jvm.Cond) (ob : Addr) (sn : Addr) (h0 : Heap) (n0 : Nat) (Zle : n0 ≤ h0.size) :
    MetFree l (⟨"java/util/Objects", "requireNonNull", "(Ljava/lang/Object;Ljava/lang/String;)Ljava/lang/Object;"⟩ : MethodName) (head1 (Jvm.Cond.code (⟨"java/util/Objects", "requireNonNull", "(Ljava/lang/Object;Ljava/lang/String;)Ljava/lang/Object;"⟩ : MethodName) jdk_31_method_11_code 2 (some (.object "java/lang/Object")) :: ws) ({ frames := 0, cells := 0, slots := 0, locals := 0 } : Room)) (fun a U => a = #[(.ref ob), (.ref sn)] ∧ Z.Warmed39 U.vm ∧ U.heap = h0) (fun _ _ _ _ _ => True) (fun _ U o U' => ∃ v L, o = .returned v ∧ Q2 Z ob sn h0 n0 v U'.heap L ∧ FrameEnd U o U' L ({ frames := 0, cells := 0, slots := 0, locals := 0 } : Room).cells ({ frames := 0, cells := 0, slots := 0, locals := 0 } : Room).slots) := by
  refine MetFree.of_bodySF (plainFor_of_name pn_java_util_Objects) hisR ?_
  intro p e s m args below meth c s₁ Bd hml0 hP hK
  obtain ⟨rfl, hZ, hh⟩ := hP
  have hx := Bd.exec
  have hby := Bd.bytes
  have hml : c.maxLocals = 2 := hml0
  have hown : s.vm.findClass "java/util/Objects" = some m.cls := findClass_of_methodNamed Bd.named
  have hnm := (name_of_methodNamed Bd.named Bd.method).1
  have X0 : Stand p l e ({ frames := 0, cells := 0, slots := 0, locals := 0 } : Room) s m #[(.ref ob), (.ref sn)] below meth c s₁ [] 0 0 := Stand.of_body Bd
  have e0 : s₁.heap = h0 := by rw [← hh, Bd.state]; rfl
  have N_ := Fr.nil n0
  show own_Goes p.tables e below s (Q2 Z ob sn h0 n0) ({ frames := 0, cells := 0, slots := 0, locals := 0 } : Room).cells ({ frames := 0, cells := 0, slots := 0, locals := 0 } : Room).slots s₁ (entryFrame m #[(.ref ob), (.ref sn)] 2)
  refine own_by (T' := s₁) (g' := (mkF m 0 #[.val (.ref ob), .val (.ref sn)] [])) (fun t k => castTop (ef_2 m ob sn) k) ?_
  refine own_by (T' := s₁) (g' := (mkF m 1 #[.val (.ref ob), .val (.ref sn)] [(.ref ob)])) (fun t k => XS.aloadN X0.here hx rfl (hb hby d2_0) rfl rfl k) ?_
  refine own_by (T' := s₁) (g' := (mkF m 13 #[.val (.ref ob), .val (.ref sn)] [])) (fun t k => XS.ifnonnullYes X0.here hx rfl (pc0 := 1) (pc' := 13) rfl (hb hby d2_1) rfl (by decide) (by decide) k) ?_
  refine own_by (T' := s₁) (g' := (mkF m 14 #[.val (.ref ob), .val (.ref sn)] [(.ref ob)])) (fun t k => XS.aloadN X0.here hx rfl (hb hby d2_13) rfl rfl k) ?_
  exact own_retA X0 hx (t := (.object "java/lang/Object")) Bd.notSynchronized Bd.returns rfl rfl rfl (hb hby d2_14) (by decide) (by decide) (by rw [e0]; exact ⟨rfl, N_, rfl⟩)

def Q1 (Z : State) (pa : Addr) (nn : Int32) (kp : ClassId) (c0 : Int32) (c1 : Int32) (c2 : Int32) (c3 : Int32) (c4 : Int32) (c5 : Int32) (h0 : Heap) (n0 : Nat) (v : Option Value) (h : Heap) (L : List Loc) : Prop := ∃ (tb : Addr) (t1 t2 t3 t4 t5 : Int32) (kb : ClassId), v = some (.ref tb) ∧ Fr n0 L ∧ Keep h0 h [] ∧ h0.size ≤ tb ∧ Arv Z h tb kb .int nn [(.int 0), (.int t1), (.int t2), (.int t3), (.int t4), (.int t5)] (.int 0) ∧ ((1 : Int32) < nn → own_B1 c0 c1 t1) ∧ ((2 : Int32) < nn → own_B2 c0 c1 c2 t2) ∧ ((3 : Int32) < nn → own_B3 c0 c1 c2 c3 t3) ∧ ((4 : Int32) < nn → own_B4 c0 c1 c2 c3 c4 t4) ∧ ((5 : Int32) < nn → own_B5 c0 c1 c2 c3 c4 c5 t5)
theorem pn_com_example_emu_emu_PrefixTable : plainName "com/example/emu/emu/PrefixTable" = true := by first | (simp [plainName, overriddenIn]; done) | decide +kernel
theorem ef_1 (m : MethodId) (pa : Addr) : entryFrame m #[(.ref pa)] 5 = mkF m 0 #[.val (.ref pa), .unset, .unset, .unset, .unset] [] := by first | (simp [entryFrame, mkF, argsToLocals, Value.category]; done) | rfl
theorem d1_0 : decode prog_15_method_2_code 0 = .ok (.aload_n 0, 1) := by decide +kernel
theorem d1_1 : decode prog_15_method_2_code 1 = .ok (.ldc 7, 2) := by decide +kernel
theorem d1_3 : decode prog_15_method_2_code 3 = .ok (.invokestatic 9, 3) := by decide +kernel
theorem pd_1 : parseMethodDescriptor "(Ljava/lang/Object;Ljava/lang/String;)Ljava/lang/Object;" = some ⟨[(.object "java/lang/Object"), (.object "java/lang/String")], some (.object "java/lang/Object")⟩ := by decide +kernel
theorem d1_6 : decode prog_15_method_2_code 6 = .ok (.pop, 1) := by decide +kernel
theorem d1_7 : decode prog_15_method_2_code 7 = .ok (.aload_n 0, 1) := by decide +kernel
theorem d1_8 : decode prog_15_method_2_code 8 = .ok (.arraylength, 1) := by decide +kernel
theorem d1_9 : decode prog_15_method_2_code 9 = .ok (.newarray .int, 2) := by decide +kernel
theorem d1_11 : decode prog_15_method_2_code 11 = .ok (.astore_n 1, 1) := by decide +kernel
theorem d1_12 : decode prog_15_method_2_code 12 = .ok (.iconst 0, 1) := by decide +kernel
theorem d1_13 : decode prog_15_method_2_code 13 = .ok (.istore_n 2, 1) := by decide +kernel
theorem d1_14 : decode prog_15_method_2_code 14 = .ok (.iconst 1, 1) := by decide +kernel
theorem d1_15 : decode prog_15_method_2_code 15 = .ok (.istore_n 3, 1) := by decide +kernel
theorem d1_16 : decode prog_15_method_2_code 16 = .ok (.iload_n 3, 1) := by decide +kernel
theorem d1_17 : decode prog_15_method_2_code 17 = .ok (.aload_n 1, 1) := by decide +kernel
theorem d1_18 : decode prog_15_method_2_code 18 = .ok (.arraylength, 1) := by decide +kernel
theorem d1_19 : decode prog_15_method_2_code 19 = .ok (.if_icmp .ge 50, 3) := by decide +kernel
theorem d1_59 : decode prog_15_method_2_code 59 = .ok (.aload_n 1, 1) := by decide +kernel
theorem d1_60 : decode prog_15_method_2_code 60 = .ok (.iload_n 3, 1) := by decide +kernel
theorem d1_61 : decode prog_15_method_2_code 61 = .ok (.iload_n 2, 1) := by decide +kernel
theorem d1_62 : decode prog_15_method_2_code 62 = .ok (.iastore, 1) := by decide +kernel
theorem d1_63 : decode prog_15_method_2_code 63 = .ok (.iinc 3 1, 3) := by decide +kernel
theorem d1_66 : decode prog_15_method_2_code 66 = .ok (.goto (-50), 3) := by decide +kernel
theorem d1_69 : decode prog_15_method_2_code 69 = .ok (.aload_n 1, 1) := by decide +kernel
theorem d1_70 : decode prog_15_method_2_code 70 = .ok (.areturn, 1) := by decide +kernel
set_option maxRecDepth 65536 in
set_option maxHeartbeats 40000000 in
theorem own_j5 (l : Launch) (Z : State) (a0 : Array Value) (hw : ∀ d ∈ tables_1, d.before a0 Z = true) {p : Program} {e : Env} {s : State} {m : MethodId} {below : List Frame} {meth : Method} {c : Code} (hx : p.tables.exec = Jvm.exec) (hby : c.code = prog_15_method_2_code) (hml : c.maxLocals = 5) (hlk : meth.locks = false) (hret : meth.sig.returnType = (some (.array .int))) (pa : Addr) (nn : Int32) (kp : ClassId) (c0 : Int32) (c1 : Int32) (c2 : Int32) (c3 : Int32) (c4 : Int32) (c5 : Int32) (h0 : Heap) (n0 : Nat) (hn0 : ¬ nn < 0) (hn6 : nn.toNatClampNeg ≤ 6) (hn7 : nn < 7) (b4 : Addr) (k4 : ClassId) (t1 : Int32) (t2 : Int32) (t3 : Int32) (t4 : Int32) (t5 : Int32) {Tj : State} {hj : Heap} {locsj : List Loc} {vm0 : Vm} {kk0 : Nat} (hS : s.Since vm0 kk0)
    (hZ : Z.Warmed39 (s.setVm vm0).vm) (hown : (s.setVm vm0).vm.findClass "com/example/emu/emu/PrefixTable" = some m.cls) (Xj : Stand p l e ({ frames := 1, cells := 3, slots := 38, locals := 13 } : Room) (s.setVm vm0) m #[(.ref pa)] below meth c Tj locsj 3 38) (ej : Tj.heap = hj)
    (V_pa : Arv Z hj pa kp .char nn [(.int c0), (.int c1), (.int c2), (.int c3), (.int c4), (.int c5)] (.int 0)) (Zle : n0 ≤ hj.size) (N_ : Fr n0 locsj) (K_ : Keep h0 hj []) (hk_ : kk0 ≤ hj.size) (ne_pa_b4 : pa ≠ b4) (g_b4 : n0 ≤ b4) (sz_b4 : h0.size ≤ b4) (V_b4 : Arv Z hj b4 k4 .int nn [(.int 0), (.int t1), (.int t2), (.int t3), (.int t4), (.int 0)] (.int 0)) (HB1 : own_B1 c0 c1 t1) (HB2 : own_B2 c0 c1 c2 t2) (HB3 : own_B3 c0 c1 c2 c3 t3) (HB4 : own_B4 c0 c1 c2 c3 c4 t4) (HB5 : own_B5 c0 c1 c2 c3 c4 c5 t5) (hlt5 : (5 : Int32) < nn) : own_GoesW p.tables e below s (Q1 Z pa nn kp c0 c1 c2 c3 c4 c5 h0 n0) ({ frames := 1, cells := 3, slots := 38, locals := 13 } : Room).cells ({ frames := 1, cells := 3, slots := 38, locals := 13 } : Room).slots Tj (mkF m 59 #[.val (.ref pa), .val (.ref b4), .val (.int t5), .val (.int 5), .val (.int c5)] []) := by
  refine own_byW (T' := Tj) (g' := (mkF m 60 #[.val (.ref pa), .val (.ref b4), .val (.int t5), .val (.int 5), .val (.int c5)] [(.ref b4)])) (fun t k => XS.aloadN Xj.here hx rfl (hb hby d1_59) rfl rfl k) ?_
  refine own_byW (T' := Tj) (g' := (mkF m 61 #[.val (.ref pa), .val (.ref b4), .val (.int t5), .val (.int 5), .val (.int c5)] [(.int 5), (.ref b4)])) (fun t k => XS.iloadN Xj.here hx rfl (hb hby d1_60) rfl k) ?_
  refine own_byW (T' := Tj) (g' := (mkF m 62 #[.val (.ref pa), .val (.ref b4), .val (.int t5), .val (.int 5), .val (.int c5)] [(.int t5), (.int 5), (.ref b4)])) (fun t k => XS.iloadN Xj.here hx rfl (hb hby d1_61) rfl k) ?_
  obtain ⟨cl19, Ar19, q19, S19, N19, Hs19, G19⟩ := id V_b4
  have hin19 : ¬ ((5 : Int32) < 0 ∨ cl19.slots.size ≤ ((5 : Int32)).toNatClampNeg) := inb_of S19 ⟨by decide, hlt5⟩
  obtain ⟨T19, h19, X19, e19, W19, st19⟩ := stI Xj hx hZ ej Ar19 (j := (5 : Int32)) hin19 (g := (mkF m 62 #[.val (.ref pa), .val (.ref b4), .val (.int t5), .val (.int 5), .val (.int c5)] [(.int t5), (.int 5), (.ref b4)])) rfl rfl (hb hby d1_62)
  have V_b4_ : Arv Z h19 b4 k4 .int nn [(.int 0), (.int t1), (.int t2), (.int t3), (.int t4), (.int t5)] (.int 0) := Arv.set Ar19 q19 S19 N19 Hs19 G19 rfl W19 5 rfl (Nat.le_of_ble_eq_true rfl)
  replace V_pa := V_pa.other W19 ne_pa_b4
  replace Zle := Nat.le_trans Zle (Keep.of_wr W19).1
  replace K_ := K_.wr W19 (Or.inr sz_b4)
  replace hk_ := Nat.le_trans hk_ (Keep.of_wr W19).1
  replace V_b4 := V_b4_
  clear V_b4_ W19 hin19 G19 Hs19 N19 S19 q19 Ar19
  replace N_ := Fr.snoc X19 N_ g_b4
  refine own_byW (T' := T19) (g' := (mkF m 63 #[.val (.ref pa), .val (.ref b4), .val (.int t5), .val (.int 5), .val (.int c5)] [])) (fun t k => st19 t k) ?_
  clear st19
  refine own_byW (T' := T19) (g' := (mkF m 66 #[.val (.ref pa), .val (.ref b4), .val (.int t5), .val (.int 6), .val (.int c5)] [])) (fun t k => XS.iinc X19.here hx rfl (hb hby d1_63) rfl (l' := #[.val (.ref pa), .val (.ref b4), .val (.int t5), .val (.int 6), .val (.int c5)]) rfl k) ?_
  refine own_byW (T' := T19) (g' := (mkF m 16 #[.val (.ref pa), .val (.ref b4), .val (.int t5), .val (.int 6), .val (.int c5)] [])) (fun t k => XS.goto X19.here hx rfl (pc0 := 66) (pc' := 16) rfl (hb hby d1_66) (by decide) (by decide) k) ?_
  refine own_byW (T' := T19) (g' := (mkF m 17 #[.val (.ref pa), .val (.ref b4), .val (.int t5), .val (.int 6), .val (.int c5)] [(.int 6)])) (fun t k => XS.iloadN X19.here hx rfl (hb hby d1_16) rfl k) ?_
  refine own_byW (T' := T19) (g' := (mkF m 18 #[.val (.ref pa), .val (.ref b4), .val (.int t5), .val (.int 6), .val (.int c5)] [(.ref b4), (.int 6)])) (fun t k => XS.aloadN X19.here hx rfl (hb hby d1_17) rfl rfl k) ?_
  obtain ⟨cl20, Ar20, -, S20, N20, -, -⟩ := id V_b4
  have st20 : ∀ t, Steps p.tables e below (T19.setTop (mkF m 19 #[.val (.ref pa), .val (.ref b4), .val (.int t5), .val (.int 6), .val (.int c5)] [(.int nn), (.int 6)])) t → Steps p.tables e below (T19.setTop (mkF m 18 #[.val (.ref pa), .val (.ref b4), .val (.int t5), .val (.int 6), .val (.int c5)] [(.ref b4), (.int 6)])) t := fun t k => X19.arraylength hx (by rw [e19]; exact Ar20.1) (State.isArrayOf_alike hZ.alike Ar20.2.1) (g := (mkF m 18 #[.val (.ref pa), .val (.ref b4), .val (.int t5), .val (.int 6), .val (.int c5)] [(.ref b4), (.int 6)])) rfl rfl (hb hby d1_18) _ (by rw [len_of S20 N20]; exact k)
  refine own_byW (T' := T19) (g' := (mkF m 19 #[.val (.ref pa), .val (.ref b4), .val (.int t5), .val (.int 6), .val (.int c5)] [(.int nn), (.int 6)])) (fun t k => st20 t k) ?_
  clear st20
  refine own_byW (T' := T19) (g' := (mkF m 69 #[.val (.ref pa), .val (.ref b4), .val (.int t5), .val (.int 6), .val (.int c5)] [])) (fun t k => XS.icmpYes X19.here hx rfl (pc0 := 19) (pc' := 69) rfl (hb hby d1_19) rfl (flt (own_no6 hn7)).2.1 (by decide) (by decide) k) ?_
  refine own_byW (T' := T19) (g' := (mkF m 70 #[.val (.ref pa), .val (.ref b4), .val (.int t5), .val (.int 6), .val (.int c5)] [(.ref b4)])) (fun t k => XS.aloadN X19.here hx rfl (hb hby d1_69) rfl rfl k) ?_
  exact own_retAW X19 hS (by rw [e19]; exact hk_) hx (t := (.array .int)) hlk hret rfl rfl rfl (hb hby d1_70) (by decide) (by decide) (by rw [e19]; exact ⟨b4, t1, t2, t3, t4, t5, _, rfl, N_, K_, sz_b4, V_b4, (fun _ => HB1), (fun _ => HB2), (fun _ => HB3), (fun _ => HB4), (fun _ => HB5)⟩)
theorem d1_22 : decode prog_15_method_2_code 22 = .ok (.aload_n 0, 1) := by decide +kernel
theorem d1_23 : decode prog_15_method_2_code 23 = .ok (.iload_n 3, 1) := by decide +kernel
theorem d1_24 : decode prog_15_method_2_code 24 = .ok (.caload, 1) := by decide +kernel
theorem d1_25 : decode prog_15_method_2_code 25 = .ok (.istore 4, 2) := by decide +kernel
theorem d1_27 : decode prog_15_method_2_code 27 = .ok (.iload_n 2, 1) := by decide +kernel
theorem d1_28 : decode prog_15_method_2_code 28 = .ok (.ifCond .le 20, 3) := by decide +kernel
theorem d1_48 : decode prog_15_method_2_code 48 = .ok (.aload_n 0, 1) := by decide +kernel
theorem d1_49 : decode prog_15_method_2_code 49 = .ok (.iload_n 2, 1) := by decide +kernel
theorem d1_50 : decode prog_15_method_2_code 50 = .ok (.caload, 1) := by decide +kernel
theorem d1_51 : decode prog_15_method_2_code 51 = .ok (.iload 4, 2) := by decide +kernel
theorem d1_53 : decode prog_15_method_2_code 53 = .ok (.if_icmp .ne 6, 3) := by decide +kernel
theorem d1_56 : decode prog_15_method_2_code 56 = .ok (.iinc 2 1, 3) := by decide +kernel
theorem d1_31 : decode prog_15_method_2_code 31 = .ok (.aload_n 0, 1) := by decide +kernel
theorem d1_32 : decode prog_15_method_2_code 32 = .ok (.iload_n 2, 1) := by decide +kernel
theorem d1_33 : decode prog_15_method_2_code 33 = .ok (.caload, 1) := by decide +kernel
theorem d1_34 : decode prog_15_method_2_code 34 = .ok (.iload 4, 2) := by decide +kernel
theorem d1_36 : decode prog_15_method_2_code 36 = .ok (.if_icmp .eq 12, 3) := by decide +kernel
theorem d1_39 : decode prog_15_method_2_code 39 = .ok (.aload_n 1, 1) := by decide +kernel
theorem d1_40 : decode prog_15_method_2_code 40 = .ok (.iload_n 2, 1) := by decide +kernel
theorem d1_41 : decode prog_15_method_2_code 41 = .ok (.iconst 1, 1) := by decide +kernel
theorem d1_42 : decode prog_15_method_2_code 42 = .ok (.isub, 1) := by decide +kernel
theorem d1_43 : decode prog_15_method_2_code 43 = .ok (.iaload, 1) := by decide +kernel
theorem d1_44 : decode prog_15_method_2_code 44 = .ok (.istore_n 2, 1) := by decide +kernel
theorem d1_45 : decode prog_15_method_2_code 45 = .ok (.goto (-18), 3) := by decide +kernel
set_option maxRecDepth 65536 in
set_option maxHeartbeats 40000000 in
theorem own_j4 (l : Launch) (Z : State) (a0 : Array Value) (hw : ∀ d ∈ tables_1, d.before a0 Z = true) {p : Program} {e : Env} {s : State} {m : MethodId} {below : List Frame} {meth : Method} {c : Code} (hx : p.tables.exec = Jvm.exec) (hby : c.code = prog_15_method_2_code) (hml : c.maxLocals = 5) (hlk : meth.locks = false) (hret : meth.sig.returnType = (some (.array .int))) (pa : Addr) (nn : Int32) (kp : ClassId) (c0 : Int32) (c1 : Int32) (c2 : Int32) (c3 : Int32) (c4 : Int32) (c5 : Int32) (h0 : Heap) (n0 : Nat) (hn0 : ¬ nn < 0) (hn6 : nn.toNatClampNeg ≤ 6) (hn7 : nn < 7) (b4 : Addr) (k4 : ClassId) (t1 : Int32) (t2 : Int32) (t3 : Int32) (t4 : Int32) {Tj : State} {hj : Heap} {locsj : List Loc} {vm0 : Vm} {kk0 : Nat} (hS : s.Since vm0 kk0)
    (hZ : Z.Warmed39 (s.setVm vm0).vm) (hown : (s.setVm vm0).vm.findClass "com/example/emu/emu/PrefixTable" = some m.cls) (Xj : Stand p l e ({ frames := 1, cells := 3, slots := 38, locals := 13 } : Room) (s.setVm vm0) m #[(.ref pa)] below meth c Tj locsj 3 38) (ej : Tj.heap = hj)
    (V_pa : Arv Z hj pa kp .char nn [(.int c0), (.int c1), (.int c2), (.int c3), (.int c4), (.int c5)] (.int 0)) (Zle : n0 ≤ hj.size) (N_ : Fr n0 locsj) (K_ : Keep h0 hj []) (hk_ : kk0 ≤ hj.size) (ne_pa_b4 : pa ≠ b4) (g_b4 : n0 ≤ b4) (sz_b4 : h0.size ≤ b4) (V_b4 : Arv Z hj b4 k4 .int nn [(.int 0), (.int t1), (.int t2), (.int t3), (.int 0), (.int 0)] (.int 0)) (HB1 : own_B1 c0 c1 t1) (HB2 : own_B2 c0 c1 c2 t2) (HB3 : own_B3 c0 c1 c2 c3 t3) (HB4 : own_B4 c0 c1 c2 c3 c4 t4) (hlt4 : (4 : Int32) < nn) : own_GoesW p.tables e below s (Q1 Z pa nn kp c0 c1 c2 c3 c4 c5 h0 n0) ({ frames := 1, cells := 3, slots := 38, locals := 13 } : Room).cells ({ frames := 1, cells := 3, slots := 38, locals := 13 } : Room).slots Tj (mkF m 59 #[.val (.ref pa), .val (.ref b4), .val (.int t4), .val (.int 4), .val (.int c4)] []) := by
  refine own_byW (T' := Tj) (g' := (mkF m 60 #[.val (.ref pa), .val (.ref b4), .val (.int t4), .val (.int 4), .val (.int c4)] [(.ref b4)])) (fun t k => XS.aloadN Xj.here hx rfl (hb hby d1_59) rfl rfl k) ?_
  refine own_byW (T' := Tj) (g' := (mkF m 61 #[.val (.ref pa), .val (.ref b4), .val (.int t4), .val (.int 4), .val (.int c4)] [(.int 4), (.ref b4)])) (fun t k => XS.iloadN Xj.here hx rfl (hb hby d1_60) rfl k) ?_
  refine own_byW (T' := Tj) (g' := (mkF m 62 #[.val (.ref pa), .val (.ref b4), .val (.int t4), .val (.int 4), .val (.int c4)] [(.int t4), (.int 4), (.ref b4)])) (fun t k => XS.iloadN Xj.here hx rfl (hb hby d1_61) rfl k) ?_
  obtain ⟨cl16, Ar16, q16, S16, N16, Hs16, G16⟩ := id V_b4
  have hin16 : ¬ ((4 : Int32) < 0 ∨ cl16.slots.size ≤ ((4 : Int32)).toNatClampNeg) := inb_of S16 ⟨by decide, hlt4⟩
  obtain ⟨T16, h16, X16, e16, W16, st16⟩ := stI Xj hx hZ ej Ar16 (j := (4 : Int32)) hin16 (g := (mkF m 62 #[.val (.ref pa), .val (.ref b4), .val (.int t4), .val (.int 4), .val (.int c4)] [(.int t4), (.int 4), (.ref b4)])) rfl rfl (hb hby d1_62)
  have V_b4_ : Arv Z h16 b4 k4 .int nn [(.int 0), (.int t1), (.int t2), (.int t3), (.int t4), (.int 0)] (.int 0) := Arv.set Ar16 q16 S16 N16 Hs16 G16 rfl W16 4 rfl (Nat.le_of_ble_eq_true rfl)
  replace V_pa := V_pa.other W16 ne_pa_b4
  replace Zle := Nat.le_trans Zle (Keep.of_wr W16).1
  replace K_ := K_.wr W16 (Or.inr sz_b4)
  replace hk_ := Nat.le_trans hk_ (Keep.of_wr W16).1
  replace V_b4 := V_b4_
  clear V_b4_ W16 hin16 G16 Hs16 N16 S16 q16 Ar16
  replace N_ := Fr.snoc X16 N_ g_b4
  refine own_byW (T' := T16) (g' := (mkF m 63 #[.val (.ref pa), .val (.ref b4), .val (.int t4), .val (.int 4), .val (.int c4)] [])) (fun t k => st16 t k) ?_
  clear st16
  refine own_byW (T' := T16) (g' := (mkF m 66 #[.val (.ref pa), .val (.ref b4), .val (.int t4), .val (.int 5), .val (.int c4)] [])) (fun t k => XS.iinc X16.here hx rfl (hb hby d1_63) rfl (l' := #[.val (.ref pa), .val (.ref b4), .val (.int t4), .val (.int 5), .val (.int c4)]) rfl k) ?_
  refine own_byW (T' := T16) (g' := (mkF m 16 #[.val (.ref pa), .val (.ref b4), .val (.int t4), .val (.int 5), .val (.int c4)] [])) (fun t k => XS.goto X16.here hx rfl (pc0 := 66) (pc' := 16) rfl (hb hby d1_66) (by decide) (by decide) k) ?_
  refine own_byW (T' := T16) (g' := (mkF m 17 #[.val (.ref pa), .val (.ref b4), .val (.int t4), .val (.int 5), .val (.int c4)] [(.int 5)])) (fun t k => XS.iloadN X16.here hx rfl (hb hby d1_16) rfl k) ?_
  refine own_byW (T' := T16) (g' := (mkF m 18 #[.val (.ref pa), .val (.ref b4), .val (.int t4), .val (.int 5), .val (.int c4)] [(.ref b4), (.int 5)])) (fun t k => XS.aloadN X16.here hx rfl (hb hby d1_17) rfl rfl k) ?_
  obtain ⟨cl17, Ar17, -, S17, N17, -, -⟩ := id V_b4
  have st17 : ∀ t, Steps p.tables e below (T16.setTop (mkF m 19 #[.val (.ref pa), .val (.ref b4), .val (.int t4), .val (.int 5), .val (.int c4)] [(.int nn), (.int 5)])) t → Steps p.tables e below (T16.setTop (mkF m 18 #[.val (.ref pa), .val (.ref b4), .val (.int t4), .val (.int 5), .val (.int c4)] [(.ref b4), (.int 5)])) t := fun t k => X16.arraylength hx (by rw [e16]; exact Ar17.1) (State.isArrayOf_alike hZ.alike Ar17.2.1) (g := (mkF m 18 #[.val (.ref pa), .val (.ref b4), .val (.int t4), .val (.int 5), .val (.int c4)] [(.ref b4), (.int 5)])) rfl rfl (hb hby d1_18) _ (by rw [len_of S17 N17]; exact k)
  refine own_byW (T' := T16) (g' := (mkF m 19 #[.val (.ref pa), .val (.ref b4), .val (.int t4), .val (.int 5), .val (.int c4)] [(.int nn), (.int 5)])) (fun t k => st17 t k) ?_
  clear st17
  by_cases hc19_18 : (5 : Int32) < nn
  · refine own_byW (T' := T16) (g' := (mkF m 22 #[.val (.ref pa), .val (.ref b4), .val (.int t4), .val (.int 5), .val (.int c4)] [])) (fun t k => XS.icmpNo X16.here hx rfl (hb hby d1_19) rfl (tlt hc19_18).2.1 k) ?_
    have hlt5 := hc19_18
    refine own_byW (T' := T16) (g' := (mkF m 23 #[.val (.ref pa), .val (.ref b4), .val (.int t4), .val (.int 5), .val (.int c4)] [(.ref pa)])) (fun t k => XS.aloadN X16.here hx rfl (hb hby d1_22) rfl rfl k) ?_
    refine own_byW (T' := T16) (g' := (mkF m 24 #[.val (.ref pa), .val (.ref b4), .val (.int t4), .val (.int 5), .val (.int c4)] [(.int 5), (.ref pa)])) (fun t k => XS.iloadN X16.here hx rfl (hb hby d1_23) rfl k) ?_
    obtain ⟨cl21, Ar21, q21, S21, N21, Hs21, G21⟩ := id V_pa
    have hin21 : ¬ ((5 : Int32) < 0 ∨ cl21.slots.size ≤ ((5 : Int32)).toNatClampNeg) := inb_of S21 ⟨by decide, own_lt (by decide) hlt5⟩
    have hat21 : cl21.slots[((5 : Int32)).toNatClampNeg]? = some (.int c5) := Hs21.at hin21 rfl
    refine own_byW (T' := T16) (g' := (mkF m 25 #[.val (.ref pa), .val (.ref b4), .val (.int t4), .val (.int 5), .val (.int c4)] [(.int c5)])) (fun t k => X16.caload hx (j := (5 : Int32)) (v := (.int c5)) (by rw [e16]; exact Ar21.1) (State.isArrayOf_alike hZ.alike Ar21.2.1) Ar21.2.2 hin21 hat21 (g := (mkF m 24 #[.val (.ref pa), .val (.ref b4), .val (.int t4), .val (.int 5), .val (.int c4)] [(.int 5), (.ref pa)])) rfl rfl (hb hby d1_24) _ k) ?_
    clear hat21 hin21 G21 Hs21 N21 S21 q21 Ar21 cl21
    refine own_byW (T' := T16) (g' := (mkF m 27 #[.val (.ref pa), .val (.ref b4), .val (.int t4), .val (.int 5), .val (.int c5)] [])) (fun t k => XS.istore X16.here hx rfl (hb hby d1_25) rfl (l' := #[.val (.ref pa), .val (.ref b4), .val (.int t4), .val (.int 5), .val (.int c5)]) rfl k) ?_
    rcases HB4 with ⟨rfl, f4⟩ | ⟨rfl, f4⟩ | ⟨rfl, f4⟩ | ⟨rfl, f4⟩ | ⟨rfl, f4⟩
    · refine own_byW (T' := T16) (g' := (mkF m 28 #[.val (.ref pa), .val (.ref b4), .val (.int 0), .val (.int 5), .val (.int c5)] [(.int 0)])) (fun t k => XS.iloadN X16.here hx rfl (hb hby d1_27) rfl k) ?_
      refine own_byW (T' := T16) (g' := (mkF m 48 #[.val (.ref pa), .val (.ref b4), .val (.int 0), .val (.int 5), .val (.int c5)] [])) (fun t k => XS.ifYes X16.here hx rfl (pc0 := 28) (pc' := 48) rfl (hb hby d1_28) rfl ((if0 _ _).trans (flt (by decide)).2.2.2) (by decide) (by decide) k) ?_
      refine own_byW (T' := T16) (g' := (mkF m 49 #[.val (.ref pa), .val (.ref b4), .val (.int 0), .val (.int 5), .val (.int c5)] [(.ref pa)])) (fun t k => XS.aloadN X16.here hx rfl (hb hby d1_48) rfl rfl k) ?_
      refine own_byW (T' := T16) (g' := (mkF m 50 #[.val (.ref pa), .val (.ref b4), .val (.int 0), .val (.int 5), .val (.int c5)] [(.int 0), (.ref pa)])) (fun t k => XS.iloadN X16.here hx rfl (hb hby d1_49) rfl k) ?_
      obtain ⟨cl22, Ar22, q22, S22, N22, Hs22, G22⟩ := id V_pa
      have hin22 : ¬ ((0 : Int32) < 0 ∨ cl22.slots.size ≤ ((0 : Int32)).toNatClampNeg) := inb_of S22 ⟨by decide, own_lt (by decide) hlt5⟩
      have hat22 : cl22.slots[((0 : Int32)).toNatClampNeg]? = some (.int c0) := Hs22.at hin22 rfl
      refine own_byW (T' := T16) (g' := (mkF m 51 #[.val (.ref pa), .val (.ref b4), .val (.int 0), .val (.int 5), .val (.int c5)] [(.int c0)])) (fun t k => X16.caload hx (j := (0 : Int32)) (v := (.int c0)) (by rw [e16]; exact Ar22.1) (State.isArrayOf_alike hZ.alike Ar22.2.1) Ar22.2.2 hin22 hat22 (g := (mkF m 50 #[.val (.ref pa), .val (.ref b4), .val (.int 0), .val (.int 5), .val (.int c5)] [(.int 0), (.ref pa)])) rfl rfl (hb hby d1_50) _ k) ?_
      clear hat22 hin22 G22 Hs22 N22 S22 q22 Ar22 cl22
      refine own_byW (T' := T16) (g' := (mkF m 53 #[.val (.ref pa), .val (.ref b4), .val (.int 0), .val (.int 5), .val (.int c5)] [(.int c5), (.int c0)])) (fun t k => XS.iload X16.here hx rfl (hb hby d1_51) rfl k) ?_
      by_cases hc53_23 : c0 = c5
      · refine own_byW (T' := T16) (g' := (mkF m 56 #[.val (.ref pa), .val (.ref b4), .val (.int 0), .val (.int 5), .val (.int c5)] [])) (fun t k => XS.icmpNo X16.here hx rfl (hb hby d1_53) rfl (teq hc53_23).2 k) ?_
        refine own_byW (T' := T16) (g' := (mkF m 59 #[.val (.ref pa), .val (.ref b4), .val (.int 1), .val (.int 5), .val (.int c5)] [])) (fun t k => XS.iinc X16.here hx rfl (hb hby d1_56) rfl (l' := #[.val (.ref pa), .val (.ref b4), .val (.int 1), .val (.int 5), .val (.int c5)]) rfl k) ?_
        exact own_j5 l Z a0 hw hx hby hml hlk hret pa nn kp c0 c1 c2 c3 c4 c5 h0 n0 hn0 hn6 hn7 b4 k4 t1 t2 t3 0 _ hS hZ hown (X16) e16 V_pa Zle N_ K_ hk_ ne_pa_b4 g_b4 sz_b4 V_b4 HB1 HB2 HB3 (Or.inl ⟨rfl, f4⟩) (own_leaf5_0 c0 c1 c2 c3 c4 c5 f4 hc53_23) hlt5
      · refine own_byW (T' := T16) (g' := (mkF m 59 #[.val (.ref pa), .val (.ref b4), .val (.int 0), .val (.int 5), .val (.int c5)] [])) (fun t k => XS.icmpYes X16.here hx rfl (pc0 := 53) (pc' := 59) rfl (hb hby d1_53) rfl (feq hc53_23).2 (by decide) (by decide) k) ?_
        exact own_j5 l Z a0 hw hx hby hml hlk hret pa nn kp c0 c1 c2 c3 c4 c5 h0 n0 hn0 hn6 hn7 b4 k4 t1 t2 t3 0 _ hS hZ hown (X16) e16 V_pa Zle N_ K_ hk_ ne_pa_b4 g_b4 sz_b4 V_b4 HB1 HB2 HB3 (Or.inl ⟨rfl, f4⟩) (own_leaf5_1 c0 c1 c2 c3 c4 c5 f4 hc53_23) hlt5
    · refine own_byW (T' := T16) (g' := (mkF m 28 #[.val (.ref pa), .val (.ref b4), .val (.int 1), .val (.int 5), .val (.int c5)] [(.int 1)])) (fun t k => XS.iloadN X16.here hx rfl (hb hby d1_27) rfl k) ?_
      refine own_byW (T' := T16) (g' := (mkF m 31 #[.val (.ref pa), .val (.ref b4), .val (.int 1), .val (.int 5), .val (.int c5)] [])) (fun t k => XS.ifNo X16.here hx rfl (hb hby d1_28) rfl ((if0 _ _).trans (tlt (by decide)).2.2.2) k) ?_
      refine own_byW (T' := T16) (g' := (mkF m 32 #[.val (.ref pa), .val (.ref b4), .val (.int 1), .val (.int 5), .val (.int c5)] [(.ref pa)])) (fun t k => XS.aloadN X16.here hx rfl (hb hby d1_31) rfl rfl k) ?_
      refine own_byW (T' := T16) (g' := (mkF m 33 #[.val (.ref pa), .val (.ref b4), .val (.int 1), .val (.int 5), .val (.int c5)] [(.int 1), (.ref pa)])) (fun t k => XS.iloadN X16.here hx rfl (hb hby d1_32) rfl k) ?_
      obtain ⟨cl24, Ar24, q24, S24, N24, Hs24, G24⟩ := id V_pa
      have hin24 : ¬ ((1 : Int32) < 0 ∨ cl24.slots.size ≤ ((1 : Int32)).toNatClampNeg) := inb_of S24 ⟨by decide, own_lt (by decide) hlt5⟩
      have hat24 : cl24.slots[((1 : Int32)).toNatClampNeg]? = some (.int c1) := Hs24.at hin24 rfl
      refine own_byW (T' := T16) (g' := (mkF m 34 #[.val (.ref pa), .val (.ref b4), .val (.int 1), .val (.int 5), .val (.int c5)] [(.int c1)])) (fun t k => X16.caload hx (j := (1 : Int32)) (v := (.int c1)) (by rw [e16]; exact Ar24.1) (State.isArrayOf_alike hZ.alike Ar24.2.1) Ar24.2.2 hin24 hat24 (g := (mkF m 33 #[.val (.ref pa), .val (.ref b4), .val (.int 1), .val (.int 5), .val (.int c5)] [(.int 1), (.ref pa)])) rfl rfl (hb hby d1_33) _ k) ?_
      clear hat24 hin24 G24 Hs24 N24 S24 q24 Ar24 cl24
      refine own_byW (T' := T16) (g' := (mkF m 36 #[.val (.ref pa), .val (.ref b4), .val (.int 1), .val (.int 5), .val (.int c5)] [(.int c5), (.int c1)])) (fun t k => XS.iload X16.here hx rfl (hb hby d1_34) rfl k) ?_
      by_cases hc36_25 : c1 = c5
      · refine own_byW (T' := T16) (g' := (mkF m 48 #[.val (.ref pa), .val (.ref b4), .val (.int 1), .val (.int 5), .val (.int c5)] [])) (fun t k => XS.icmpYes X16.here hx rfl (pc0 := 36) (pc' := 48) rfl (hb hby d1_36) rfl (teq hc36_25).1 (by decide) (by decide) k) ?_
        refine own_byW (T' := T16) (g' := (mkF m 49 #[.val (.ref pa), .val (.ref b4), .val (.int 1), .val (.int 5), .val (.int c5)] [(.ref pa)])) (fun t k => XS.aloadN X16.here hx rfl (hb hby d1_48) rfl rfl k) ?_
        refine own_byW (T' := T16) (g' := (mkF m 50 #[.val (.ref pa), .val (.ref b4), .val (.int 1), .val (.int 5), .val (.int c5)] [(.int 1), (.ref pa)])) (fun t k => XS.iloadN X16.here hx rfl (hb hby d1_49) rfl k) ?_
        obtain ⟨cl26, Ar26, q26, S26, N26, Hs26, G26⟩ := id V_pa
        have hin26 : ¬ ((1 : Int32) < 0 ∨ cl26.slots.size ≤ ((1 : Int32)).toNatClampNeg) := inb_of S26 ⟨by decide, own_lt (by decide) hlt5⟩
        have hat26 : cl26.slots[((1 : Int32)).toNatClampNeg]? = some (.int c1) := Hs26.at hin26 rfl
        refine own_byW (T' := T16) (g' := (mkF m 51 #[.val (.ref pa), .val (.ref b4), .val (.int 1), .val (.int 5), .val (.int c5)] [(.int c1)])) (fun t k => X16.caload hx (j := (1 : Int32)) (v := (.int c1)) (by rw [e16]; exact Ar26.1) (State.isArrayOf_alike hZ.alike Ar26.2.1) Ar26.2.2 hin26 hat26 (g := (mkF m 50 #[.val (.ref pa), .val (.ref b4), .val (.int 1), .val (.int 5), .val (.int c5)] [(.int 1), (.ref pa)])) rfl rfl (hb hby d1_50) _ k) ?_
        clear hat26 hin26 G26 Hs26 N26 S26 q26 Ar26 cl26
        refine own_byW (T' := T16) (g' := (mkF m 53 #[.val (.ref pa), .val (.ref b4), .val (.int 1), .val (.int 5), .val (.int c5)] [(.int c5), (.int c1)])) (fun t k => XS.iload X16.here hx rfl (hb hby d1_51) rfl k) ?_
        refine own_byW (T' := T16) (g' := (mkF m 56 #[.val (.ref pa), .val (.ref b4), .val (.int 1), .val (.int 5), .val (.int c5)] [])) (fun t k => XS.icmpNo X16.here hx rfl (hb hby d1_53) rfl (teq hc36_25).2 k) ?_
        refine own_byW (T' := T16) (g' := (mkF m 59 #[.val (.ref pa), .val (.ref b4), .val (.int 2), .val (.int 5), .val (.int c5)] [])) (fun t k => XS.iinc X16.here hx rfl (hb hby d1_56) rfl (l' := #[.val (.ref pa), .val (.ref b4), .val (.int 2), .val (.int 5), .val (.int c5)]) rfl k) ?_
        exact own_j5 l Z a0 hw hx hby hml hlk hret pa nn kp c0 c1 c2 c3 c4 c5 h0 n0 hn0 hn6 hn7 b4 k4 t1 t2 t3 1 _ hS hZ hown (X16) e16 V_pa Zle N_ K_ hk_ ne_pa_b4 g_b4 sz_b4 V_b4 HB1 HB2 HB3 (Or.inr <| Or.inl ⟨rfl, f4⟩) (own_leaf5_2 c0 c1 c2 c3 c4 c5 f4 hc36_25) hlt5
      · refine own_byW (T' := T16) (g' := (mkF m 39 #[.val (.ref pa), .val (.ref b4), .val (.int 1), .val (.int 5), .val (.int c5)] [])) (fun t k => XS.icmpNo X16.here hx rfl (hb hby d1_36) rfl (feq hc36_25).1 k) ?_
        refine own_byW (T' := T16) (g' := (mkF m 40 #[.val (.ref pa), .val (.ref b4), .val (.int 1), .val (.int 5), .val (.int c5)] [(.ref b4)])) (fun t k => XS.aloadN X16.here hx rfl (hb hby d1_39) rfl rfl k) ?_
        refine own_byW (T' := T16) (g' := (mkF m 41 #[.val (.ref pa), .val (.ref b4), .val (.int 1), .val (.int 5), .val (.int c5)] [(.int 1), (.ref b4)])) (fun t k => XS.iloadN X16.here hx rfl (hb hby d1_40) rfl k) ?_
        refine own_byW (T' := T16) (g' := (mkF m 42 #[.val (.ref pa), .val (.ref b4), .val (.int 1), .val (.int 5), .val (.int c5)] [(.int 1), (.int 1), (.ref b4)])) (fun t k => XS.iconst X16.here hx rfl (hb hby d1_41) k) ?_
        refine own_byW (T' := T16) (g' := (mkF m 43 #[.val (.ref pa), .val (.ref b4), .val (.int 1), .val (.int 5), .val (.int c5)] [(.int 0), (.ref b4)])) (fun t k => XS.isub X16.here hx rfl (hb hby d1_42) rfl k) ?_
        obtain ⟨cl27, Ar27, q27, S27, N27, Hs27, G27⟩ := id V_b4
        have hin27 : ¬ ((0 : Int32) < 0 ∨ cl27.slots.size ≤ ((0 : Int32)).toNatClampNeg) := inb_of S27 ⟨by decide, own_lt (by decide) hlt5⟩
        have hat27 : cl27.slots[((0 : Int32)).toNatClampNeg]? = some (.int 0) := Hs27.at hin27 rfl
        refine own_byW (T' := T16) (g' := (mkF m 44 #[.val (.ref pa), .val (.ref b4), .val (.int 1), .val (.int 5), .val (.int c5)] [(.int 0)])) (fun t k => X16.iaload hx (j := (0 : Int32)) (v := (.int 0)) (by rw [e16]; exact Ar27.1) (State.isArrayOf_alike hZ.alike Ar27.2.1) Ar27.2.2 hin27 hat27 (g := (mkF m 43 #[.val (.ref pa), .val (.ref b4), .val (.int 1), .val (.int 5), .val (.int c5)] [(.int 0), (.ref b4)])) rfl rfl (hb hby d1_43) _ k) ?_
        clear hat27 hin27 G27 Hs27 N27 S27 q27 Ar27 cl27
        refine own_byW (T' := T16) (g' := (mkF m 45 #[.val (.ref pa), .val (.ref b4), .val (.int 0), .val (.int 5), .val (.int c5)] [])) (fun t k => XS.istoreN X16.here hx rfl (hb hby d1_44) rfl (l' := #[.val (.ref pa), .val (.ref b4), .val (.int 0), .val (.int 5), .val (.int c5)]) rfl k) ?_
        refine own_byW (T' := T16) (g' := (mkF m 27 #[.val (.ref pa), .val (.ref b4), .val (.int 0), .val (.int 5), .val (.int c5)] [])) (fun t k => XS.goto X16.here hx rfl (pc0 := 45) (pc' := 27) rfl (hb hby d1_45) (by decide) (by decide) k) ?_
        refine own_byW (T' := T16) (g' := (mkF m 28 #[.val (.ref pa), .val (.ref b4), .val (.int 0), .val (.int 5), .val (.int c5)] [(.int 0)])) (fun t k => XS.iloadN X16.here hx rfl (hb hby d1_27) rfl k) ?_
        refine own_byW (T' := T16) (g' := (mkF m 48 #[.val (.ref pa), .val (.ref b4), .val (.int 0), .val (.int 5), .val (.int c5)] [])) (fun t k => XS.ifYes X16.here hx rfl (pc0 := 28) (pc' := 48) rfl (hb hby d1_28) rfl ((if0 _ _).trans (flt (by decide)).2.2.2) (by decide) (by decide) k) ?_
        refine own_byW (T' := T16) (g' := (mkF m 49 #[.val (.ref pa), .val (.ref b4), .val (.int 0), .val (.int 5), .val (.int c5)] [(.ref pa)])) (fun t k => XS.aloadN X16.here hx rfl (hb hby d1_48) rfl rfl k) ?_
        refine own_byW (T' := T16) (g' := (mkF m 50 #[.val (.ref pa), .val (.ref b4), .val (.int 0), .val (.int 5), .val (.int c5)] [(.int 0), (.ref pa)])) (fun t k => XS.iloadN X16.here hx rfl (hb hby d1_49) rfl k) ?_
        obtain ⟨cl28, Ar28, q28, S28, N28, Hs28, G28⟩ := id V_pa
        have hin28 : ¬ ((0 : Int32) < 0 ∨ cl28.slots.size ≤ ((0 : Int32)).toNatClampNeg) := inb_of S28 ⟨by decide, own_lt (by decide) hlt5⟩
        have hat28 : cl28.slots[((0 : Int32)).toNatClampNeg]? = some (.int c0) := Hs28.at hin28 rfl
        refine own_byW (T' := T16) (g' := (mkF m 51 #[.val (.ref pa), .val (.ref b4), .val (.int 0), .val (.int 5), .val (.int c5)] [(.int c0)])) (fun t k => X16.caload hx (j := (0 : Int32)) (v := (.int c0)) (by rw [e16]; exact Ar28.1) (State.isArrayOf_alike hZ.alike Ar28.2.1) Ar28.2.2 hin28 hat28 (g := (mkF m 50 #[.val (.ref pa), .val (.ref b4), .val (.int 0), .val (.int 5), .val (.int c5)] [(.int 0), (.ref pa)])) rfl rfl (hb hby d1_50) _ k) ?_
        clear hat28 hin28 G28 Hs28 N28 S28 q28 Ar28 cl28
        refine own_byW (T' := T16) (g' := (mkF m 53 #[.val (.ref pa), .val (.ref b4), .val (.int 0), .val (.int 5), .val (.int c5)] [(.int c5), (.int c0)])) (fun t k => XS.iload X16.here hx rfl (hb hby d1_51) rfl k) ?_
        by_cases hc53_29 : c0 = c5
        · refine own_byW (T' := T16) (g' := (mkF m 56 #[.val (.ref pa), .val (.ref b4), .val (.int 0), .val (.int 5), .val (.int c5)] [])) (fun t k => XS.icmpNo X16.here hx rfl (hb hby d1_53) rfl (teq hc53_29).2 k) ?_
          refine own_byW (T' := T16) (g' := (mkF m 59 #[.val (.ref pa), .val (.ref b4), .val (.int 1), .val (.int 5), .val (.int c5)] [])) (fun t k => XS.iinc X16.here hx rfl (hb hby d1_56) rfl (l' := #[.val (.ref pa), .val (.ref b4), .val (.int 1), .val (.int 5), .val (.int c5)]) rfl k) ?_
          exact own_j5 l Z a0 hw hx hby hml hlk hret pa nn kp c0 c1 c2 c3 c4 c5 h0 n0 hn0 hn6 hn7 b4 k4 t1 t2 t3 1 _ hS hZ hown (X16) e16 V_pa Zle N_ K_ hk_ ne_pa_b4 g_b4 sz_b4 V_b4 HB1 HB2 HB3 (Or.inr <| Or.inl ⟨rfl, f4⟩) (own_leaf5_3 c0 c1 c2 c3 c4 c5 f4 hc36_25 hc53_29) hlt5
        · refine own_byW (T' := T16) (g' := (mkF m 59 #[.val (.ref pa), .val (.ref b4), .val (.int 0), .val (.int 5), .val (.int c5)] [])) (fun t k => XS.icmpYes X16.here hx rfl (pc0 := 53) (pc' := 59) rfl (hb hby d1_53) rfl (feq hc53_29).2 (by decide) (by decide) k) ?_
          exact own_j5 l Z a0 hw hx hby hml hlk hret pa nn kp c0 c1 c2 c3 c4 c5 h0 n0 hn0 hn6 hn7 b4 k4 t1 t2 t3 1 _ hS hZ hown (X16) e16 V_pa Zle N_ K_ hk_ ne_pa_b4 g_b4 sz_b4 V_b4 HB1 HB2 HB3 (Or.inr <| Or.inl ⟨rfl, f4⟩) (own_leaf5_4 c0 c1 c2 c3 c4 c5 f4 hc36_25 hc53_29) hlt5
    · refine own_byW (T' := T16) (g' := (mkF m 28 #[.val (.ref pa), .val (.ref b4), .val (.int 2), .val (.int 5), .val (.int c5)] [(.int 2)])) (fun t k => XS.iloadN X16.here hx rfl (hb hby d1_27) rfl k) ?_
      refine own_byW (T' := T16) (g' := (mkF m 31 #[.val (.ref pa), .val (.ref b4), .val (.int 2), .val (.int 5), .val (.int c5)] [])) (fun t k => XS.ifNo X16.here hx rfl (hb hby d1_28) rfl ((if0 _ _).trans (tlt (by decide)).2.2.2) k) ?_
      refine own_byW (T' := T16) (g' := (mkF m 32 #[.val (.ref pa), .val (.ref b4), .val (.int 2), .val (.int 5), .val (.int c5)] [(.ref pa)])) (fun t k => XS.aloadN X16.here hx rfl (hb hby d1_31) rfl rfl k) ?_
      refine own_byW (T' := T16) (g' := (mkF m 33 #[.val (.ref pa), .val (.ref b4), .val (.int 2), .val (.int 5), .val (.int c5)] [(.int 2), (.ref pa)])) (fun t k => XS.iloadN X16.here hx rfl (hb hby d1_32) rfl k) ?_
      obtain ⟨cl30, Ar30, q30, S30, N30, Hs30, G30⟩ := id V_pa
      have hin30 : ¬ ((2 : Int32) < 0 ∨ cl30.slots.size ≤ ((2 : Int32)).toNatClampNeg) := inb_of S30 ⟨by decide, own_lt (by decide) hlt5⟩
      have hat30 : cl30.slots[((2 : Int32)).toNatClampNeg]? = some (.int c2) := Hs30.at hin30 rfl
      refine own_byW (T' := T16) (g' := (mkF m 34 #[.val (.ref pa), .val (.ref b4), .val (.int 2), .val (.int 5), .val (.int c5)] [(.int c2)])) (fun t k => X16.caload hx (j := (2 : Int32)) (v := (.int c2)) (by rw [e16]; exact Ar30.1) (State.isArrayOf_alike hZ.alike Ar30.2.1) Ar30.2.2 hin30 hat30 (g := (mkF m 33 #[.val (.ref pa), .val (.ref b4), .val (.int 2), .val (.int 5), .val (.int c5)] [(.int 2), (.ref pa)])) rfl rfl (hb hby d1_33) _ k) ?_
      clear hat30 hin30 G30 Hs30 N30 S30 q30 Ar30 cl30
      refine own_byW (T' := T16) (g' := (mkF m 36 #[.val (.ref pa), .val (.ref b4), .val (.int 2), .val (.int 5), .val (.int c5)] [(.int c5), (.int c2)])) (fun t k => XS.iload X16.here hx rfl (hb hby d1_34) rfl k) ?_
      by_cases hc36_31 : c2 = c5
      · refine own_byW (T' := T16) (g' := (mkF m 48 #[.val (.ref pa), .val (.ref b4), .val (.int 2), .val (.int 5), .val (.int c5)] [])) (fun t k => XS.icmpYes X16.here hx rfl (pc0 := 36) (pc' := 48) rfl (hb hby d1_36) rfl (teq hc36_31).1 (by decide) (by decide) k) ?_
        refine own_byW (T' := T16) (g' := (mkF m 49 #[.val (.ref pa), .val (.ref b4), .val (.int 2), .val (.int 5), .val (.int c5)] [(.ref pa)])) (fun t k => XS.aloadN X16.here hx rfl (hb hby d1_48) rfl rfl k) ?_
        refine own_byW (T' := T16) (g' := (mkF m 50 #[.val (.ref pa), .val (.ref b4), .val (.int 2), .val (.int 5), .val (.int c5)] [(.int 2), (.ref pa)])) (fun t k => XS.iloadN X16.here hx rfl (hb hby d1_49) rfl k) ?_
        obtain ⟨cl32, Ar32, q32, S32, N32, Hs32, G32⟩ := id V_pa
        have hin32 : ¬ ((2 : Int32) < 0 ∨ cl32.slots.size ≤ ((2 : Int32)).toNatClampNeg) := inb_of S32 ⟨by decide, own_lt (by decide) hlt5⟩
        have hat32 : cl32.slots[((2 : Int32)).toNatClampNeg]? = some (.int c2) := Hs32.at hin32 rfl
        refine own_byW (T' := T16) (g' := (mkF m 51 #[.val (.ref pa), .val (.ref b4), .val (.int 2), .val (.int 5), .val (.int c5)] [(.int c2)])) (fun t k => X16.caload hx (j := (2 : Int32)) (v := (.int c2)) (by rw [e16]; exact Ar32.1) (State.isArrayOf_alike hZ.alike Ar32.2.1) Ar32.2.2 hin32 hat32 (g := (mkF m 50 #[.val (.ref pa), .val (.ref b4), .val (.int 2), .val (.int 5), .val (.int c5)] [(.int 2), (.ref pa)])) rfl rfl (hb hby d1_50) _ k) ?_
        clear hat32 hin32 G32 Hs32 N32 S32 q32 Ar32 cl32
        refine own_byW (T' := T16) (g' := (mkF m 53 #[.val (.ref pa), .val (.ref b4), .val (.int 2), .val (.int 5), .val (.int c5)] [(.int c5), (.int c2)])) (fun t k => XS.iload X16.here hx rfl (hb hby d1_51) rfl k) ?_
        refine own_byW (T' := T16) (g' := (mkF m 56 #[.val (.ref pa), .val (.ref b4), .val (.int 2), .val (.int 5), .val (.int c5)] [])) (fun t k => XS.icmpNo X16.here hx rfl (hb hby d1_53) rfl (teq hc36_31).2 k) ?_
        refine own_byW (T' := T16) (g' := (mkF m 59 #[.val (.ref pa), .val (.ref b4), .val (.int 3), .val (.int 5), .val (.int c5)] [])) (fun t k => XS.iinc X16.here hx rfl (hb hby d1_56) rfl (l' := #[.val (.ref pa), .val (.ref b4), .val (.int 3), .val (.int 5), .val (.int c5)]) rfl k) ?_
        exact own_j5 l Z a0 hw hx hby hml hlk hret pa nn kp c0 c1 c2 c3 c4 c5 h0 n0 hn0 hn6 hn7 b4 k4 t1 t2 t3 2 _ hS hZ hown (X16) e16 V_pa Zle N_ K_ hk_ ne_pa_b4 g_b4 sz_b4 V_b4 HB1 HB2 HB3 (Or.inr <| Or.inr <| Or.inl ⟨rfl, f4⟩) (own_leaf5_5 c0 c1 c2 c3 c4 c5 f4 hc36_31) hlt5
      · refine own_byW (T' := T16) (g' := (mkF m 39 #[.val (.ref pa), .val (.ref b4), .val (.int 2), .val (.int 5), .val (.int c5)] [])) (fun t k => XS.icmpNo X16.here hx rfl (hb hby d1_36) rfl (feq hc36_31).1 k) ?_
        refine own_byW (T' := T16) (g' := (mkF m 40 #[.val (.ref pa), .val (.ref b4), .val (.int 2), .val (.int 5), .val (.int c5)] [(.ref b4)])) (fun t k => XS.aloadN X16.here hx rfl (hb hby d1_39) rfl rfl k) ?_
        refine own_byW (T' := T16) (g' := (mkF m 41 #[.val (.ref pa), .val (.ref b4), .val (.int 2), .val (.int 5), .val (.int c5)] [(.int 2), (.ref b4)])) (fun t k => XS.iloadN X16.here hx rfl (hb hby d1_40) rfl k) ?_
        refine own_byW (T' := T16) (g' := (mkF m 42 #[.val (.ref pa), .val (.ref b4), .val (.int 2), .val (.int 5), .val (.int c5)] [(.int 1), (.int 2), (.ref b4)])) (fun t k => XS.iconst X16.here hx rfl (hb hby d1_41) k) ?_
        refine own_byW (T' := T16) (g' := (mkF m 43 #[.val (.ref pa), .val (.ref b4), .val (.int 2), .val (.int 5), .val (.int c5)] [(.int 1), (.ref b4)])) (fun t k => XS.isub X16.here hx rfl (hb hby d1_42) rfl k) ?_
        obtain ⟨cl33, Ar33, q33, S33, N33, Hs33, G33⟩ := id V_b4
        have hin33 : ¬ ((1 : Int32) < 0 ∨ cl33.slots.size ≤ ((1 : Int32)).toNatClampNeg) := inb_of S33 ⟨by decide, own_lt (by decide) hlt5⟩
        have hat33 : cl33.slots[((1 : Int32)).toNatClampNeg]? = some (.int t1) := Hs33.at hin33 rfl
        refine own_byW (T' := T16) (g' := (mkF m 44 #[.val (.ref pa), .val (.ref b4), .val (.int 2), .val (.int 5), .val (.int c5)] [(.int t1)])) (fun t k => X16.iaload hx (j := (1 : Int32)) (v := (.int t1)) (by rw [e16]; exact Ar33.1) (State.isArrayOf_alike hZ.alike Ar33.2.1) Ar33.2.2 hin33 hat33 (g := (mkF m 43 #[.val (.ref pa), .val (.ref b4), .val (.int 2), .val (.int 5), .val (.int c5)] [(.int 1), (.ref b4)])) rfl rfl (hb hby d1_43) _ k) ?_
        clear hat33 hin33 G33 Hs33 N33 S33 q33 Ar33 cl33
        refine own_byW (T' := T16) (g' := (mkF m 45 #[.val (.ref pa), .val (.ref b4), .val (.int t1), .val (.int 5), .val (.int c5)] [])) (fun t k => XS.istoreN X16.here hx rfl (hb hby d1_44) rfl (l' := #[.val (.ref pa), .val (.ref b4), .val (.int t1), .val (.int 5), .val (.int c5)]) rfl k) ?_
        refine own_byW (T' := T16) (g' := (mkF m 27 #[.val (.ref pa), .val (.ref b4), .val (.int t1), .val (.int 5), .val (.int c5)] [])) (fun t k => XS.goto X16.here hx rfl (pc0 := 45) (pc' := 27) rfl (hb hby d1_45) (by decide) (by decide) k) ?_
        rcases HB1 with ⟨rfl, f1⟩ | ⟨rfl, f1⟩
        · refine own_byW (T' := T16) (g' := (mkF m 28 #[.val (.ref pa), .val (.ref b4), .val (.int 0), .val (.int 5), .val (.int c5)] [(.int 0)])) (fun t k => XS.iloadN X16.here hx rfl (hb hby d1_27) rfl k) ?_
          refine own_byW (T' := T16) (g' := (mkF m 48 #[.val (.ref pa), .val (.ref b4), .val (.int 0), .val (.int 5), .val (.int c5)] [])) (fun t k => XS.ifYes X16.here hx rfl (pc0 := 28) (pc' := 48) rfl (hb hby d1_28) rfl ((if0 _ _).trans (flt (by decide)).2.2.2) (by decide) (by decide) k) ?_
          refine own_byW (T' := T16) (g' := (mkF m 49 #[.val (.ref pa), .val (.ref b4), .val (.int 0), .val (.int 5), .val (.int c5)] [(.ref pa)])) (fun t k => XS.aloadN X16.here hx rfl (hb hby d1_48) rfl rfl k) ?_
          refine own_byW (T' := T16) (g' := (mkF m 50 #[.val (.ref pa), .val (.ref b4), .val (.int 0), .val (.int 5), .val (.int c5)] [(.int 0), (.ref pa)])) (fun t k => XS.iloadN X16.here hx rfl (hb hby d1_49) rfl k) ?_
          obtain ⟨cl34, Ar34, q34, S34, N34, Hs34, G34⟩ := id V_pa
          have hin34 : ¬ ((0 : Int32) < 0 ∨ cl34.slots.size ≤ ((0 : Int32)).toNatClampNeg) := inb_of S34 ⟨by decide, own_lt (by decide) hlt5⟩
          have hat34 : cl34.slots[((0 : Int32)).toNatClampNeg]? = some (.int c0) := Hs34.at hin34 rfl
          refine own_byW (T' := T16) (g' := (mkF m 51 #[.val (.ref pa), .val (.ref b4), .val (.int 0), .val (.int 5), .val (.int c5)] [(.int c0)])) (fun t k => X16.caload hx (j := (0 : Int32)) (v := (.int c0)) (by rw [e16]; exact Ar34.1) (State.isArrayOf_alike hZ.alike Ar34.2.1) Ar34.2.2 hin34 hat34 (g := (mkF m 50 #[.val (.ref pa), .val (.ref b4), .val (.int 0), .val (.int 5), .val (.int c5)] [(.int 0), (.ref pa)])) rfl rfl (hb hby d1_50) _ k) ?_
          clear hat34 hin34 G34 Hs34 N34 S34 q34 Ar34 cl34
          refine own_byW (T' := T16) (g' := (mkF m 53 #[.val (.ref pa), .val (.ref b4), .val (.int 0), .val (.int 5), .val (.int c5)] [(.int c5), (.int c0)])) (fun t k => XS.iload X16.here hx rfl (hb hby d1_51) rfl k) ?_
          by_cases hc53_35 : c0 = c5
          · refine own_byW (T' := T16) (g' := (mkF m 56 #[.val (.ref pa), .val (.ref b4), .val (.int 0), .val (.int 5), .val (.int c5)] [])) (fun t k => XS.icmpNo X16.here hx rfl (hb hby d1_53) rfl (teq hc53_35).2 k) ?_
            refine own_byW (T' := T16) (g' := (mkF m 59 #[.val (.ref pa), .val (.ref b4), .val (.int 1), .val (.int 5), .val (.int c5)] [])) (fun t k => XS.iinc X16.here hx rfl (hb hby d1_56) rfl (l' := #[.val (.ref pa), .val (.ref b4), .val (.int 1), .val (.int 5), .val (.int c5)]) rfl k) ?_
            exact own_j5 l Z a0 hw hx hby hml hlk hret pa nn kp c0 c1 c2 c3 c4 c5 h0 n0 hn0 hn6 hn7 b4 k4 0 t2 t3 2 _ hS hZ hown (X16) e16 V_pa Zle N_ K_ hk_ ne_pa_b4 g_b4 sz_b4 V_b4 (Or.inl ⟨rfl, f1⟩) HB2 HB3 (Or.inr <| Or.inr <| Or.inl ⟨rfl, f4⟩) (own_leaf5_6 c0 c1 c2 c3 c4 c5 f4 f1 hc36_31 hc53_35) hlt5
          · refine own_byW (T' := T16) (g' := (mkF m 59 #[.val (.ref pa), .val (.ref b4), .val (.int 0), .val (.int 5), .val (.int c5)] [])) (fun t k => XS.icmpYes X16.here hx rfl (pc0 := 53) (pc' := 59) rfl (hb hby d1_53) rfl (feq hc53_35).2 (by decide) (by decide) k) ?_
            exact own_j5 l Z a0 hw hx hby hml hlk hret pa nn kp c0 c1 c2 c3 c4 c5 h0 n0 hn0 hn6 hn7 b4 k4 0 t2 t3 2 _ hS hZ hown (X16) e16 V_pa Zle N_ K_ hk_ ne_pa_b4 g_b4 sz_b4 V_b4 (Or.inl ⟨rfl, f1⟩) HB2 HB3 (Or.inr <| Or.inr <| Or.inl ⟨rfl, f4⟩) (own_leaf5_7 c0 c1 c2 c3 c4 c5 f4 f1 hc36_31 hc53_35) hlt5
        · refine own_byW (T' := T16) (g' := (mkF m 28 #[.val (.ref pa), .val (.ref b4), .val (.int 1), .val (.int 5), .val (.int c5)] [(.int 1)])) (fun t k => XS.iloadN X16.here hx rfl (hb hby d1_27) rfl k) ?_
          refine own_byW (T' := T16) (g' := (mkF m 31 #[.val (.ref pa), .val (.ref b4), .val (.int 1), .val (.int 5), .val (.int c5)] [])) (fun t k => XS.ifNo X16.here hx rfl (hb hby d1_28) rfl ((if0 _ _).trans (tlt (by decide)).2.2.2) k) ?_
          refine own_byW (T' := T16) (g' := (mkF m 32 #[.val (.ref pa), .val (.ref b4), .val (.int 1), .val (.int 5), .val (.int c5)] [(.ref pa)])) (fun t k => XS.aloadN X16.here hx rfl (hb hby d1_31) rfl rfl k) ?_
          refine own_byW (T' := T16) (g' := (mkF m 33 #[.val (.ref pa), .val (.ref b4), .val (.int 1), .val (.int 5), .val (.int c5)] [(.int 1), (.ref pa)])) (fun t k => XS.iloadN X16.here hx rfl (hb hby d1_32) rfl k) ?_
          obtain ⟨cl36, Ar36, q36, S36, N36, Hs36, G36⟩ := id V_pa
          have hin36 : ¬ ((1 : Int32) < 0 ∨ cl36.slots.size ≤ ((1 : Int32)).toNatClampNeg) := inb_of S36 ⟨by decide, own_lt (by decide) hlt5⟩
          have hat36 : cl36.slots[((1 : Int32)).toNatClampNeg]? = some (.int c1) := Hs36.at hin36 rfl
          refine own_byW (T' := T16) (g' := (mkF m 34 #[.val (.ref pa), .val (.ref b4), .val (.int 1), .val (.int 5), .val (.int c5)] [(.int c1)])) (fun t k => X16.caload hx (j := (1 : Int32)) (v := (.int c1)) (by rw [e16]; exact Ar36.1) (State.isArrayOf_alike hZ.alike Ar36.2.1) Ar36.2.2 hin36 hat36 (g := (mkF m 33 #[.val (.ref pa), .val (.ref b4), .val (.int 1), .val (.int 5), .val (.int c5)] [(.int 1), (.ref pa)])) rfl rfl (hb hby d1_33) _ k) ?_
          clear hat36 hin36 G36 Hs36 N36 S36 q36 Ar36 cl36
          refine own_byW (T' := T16) (g' := (mkF m 36 #[.val (.ref pa), .val (.ref b4), .val (.int 1), .val (.int 5), .val (.int c5)] [(.int c5), (.int c1)])) (fun t k => XS.iload X16.here hx rfl (hb hby d1_34) rfl k) ?_
          by_cases hc36_37 : c1 = c5
          · refine own_byW (T' := T16) (g' := (mkF m 48 #[.val (.ref pa), .val (.ref b4), .val (.int 1), .val (.int 5), .val (.int c5)] [])) (fun t k => XS.icmpYes X16.here hx rfl (pc0 := 36) (pc' := 48) rfl (hb hby d1_36) rfl (teq hc36_37).1 (by decide) (by decide) k) ?_
            refine own_byW (T' := T16) (g' := (mkF m 49 #[.val (.ref pa), .val (.ref b4), .val (.int 1), .val (.int 5), .val (.int c5)] [(.ref pa)])) (fun t k => XS.aloadN X16.here hx rfl (hb hby d1_48) rfl rfl k) ?_
            refine own_byW (T' := T16) (g' := (mkF m 50 #[.val (.ref pa), .val (.ref b4), .val (.int 1), .val (.int 5), .val (.int c5)] [(.int 1), (.ref pa)])) (fun t k => XS.iloadN X16.here hx rfl (hb hby d1_49) rfl k) ?_
            obtain ⟨cl38, Ar38, q38, S38, N38, Hs38, G38⟩ := id V_pa
            have hin38 : ¬ ((1 : Int32) < 0 ∨ cl38.slots.size ≤ ((1 : Int32)).toNatClampNeg) := inb_of S38 ⟨by decide, own_lt (by decide) hlt5⟩
            have hat38 : cl38.slots[((1 : Int32)).toNatClampNeg]? = some (.int c1) := Hs38.at hin38 rfl
            refine own_byW (T' := T16) (g' := (mkF m 51 #[.val (.ref pa), .val (.ref b4), .val (.int 1), .val (.int 5), .val (.int c5)] [(.int c1)])) (fun t k => X16.caload hx (j := (1 : Int32)) (v := (.int c1)) (by rw [e16]; exact Ar38.1) (State.isArrayOf_alike hZ.alike Ar38.2.1) Ar38.2.2 hin38 hat38 (g := (mkF m 50 #[.val (.ref pa), .val (.ref b4), .val (.int 1), .val (.int 5), .val (.int c5)] [(.int 1), (.ref pa)])) rfl rfl (hb hby d1_50) _ k) ?_
            clear hat38 hin38 G38 Hs38 N38 S38 q38 Ar38 cl38
            refine own_byW (T' := T16) (g' := (mkF m 53 #[.val (.ref pa), .val (.ref b4), .val (.int 1), .val (.int 5), .val (.int c5)] [(.int c5), (.int c1)])) (fun t k => XS.iload X16.here hx rfl (hb hby d1_51) rfl k) ?_
            refine own_byW (T' := T16) (g' := (mkF m 56 #[.val (.ref pa), .val (.ref b4), .val (.int 1), .val (.int 5), .val (.int c5)] [])) (fun t k => XS.icmpNo X16.here hx rfl (hb hby d1_53) rfl (teq hc36_37).2 k) ?_
            refine own_byW (T' := T16) (g' := (mkF m 59 #[.val (.ref pa), .val (.ref b4), .val (.int 2), .val (.int 5), .val (.int c5)] [])) (fun t k => XS.iinc X16.here hx rfl (hb hby d1_56) rfl (l' := #[.val (.ref pa), .val (.ref b4), .val (.int 2), .val (.int 5), .val (.int c5)]) rfl k) ?_
            exact own_j5 l Z a0 hw hx hby hml hlk hret pa nn kp c0 c1 c2 c3 c4 c5 h0 n0 hn0 hn6 hn7 b4 k4 1 t2 t3 2 _ hS hZ hown (X16) e16 V_pa Zle N_ K_ hk_ ne_pa_b4 g_b4 sz_b4 V_b4 (Or.inr <| ⟨rfl, f1⟩) HB2 HB3 (Or.inr <| Or.inr <| Or.inl ⟨rfl, f4⟩) (own_leaf5_8 c0 c1 c2 c3 c4 c5 f4 f1 hc36_31 hc36_37) hlt5
          · refine own_byW (T' := T16) (g' := (mkF m 39 #[.val (.ref pa), .val (.ref b4), .val (.int 1), .val (.int 5), .val (.int c5)] [])) (fun t k => XS.icmpNo X16.here hx rfl (hb hby d1_36) rfl (feq hc36_37).1 k) ?_
            refine own_byW (T' := T16) (g' := (mkF m 40 #[.val (.ref pa), .val (.ref b4), .val (.int 1), .val (.int 5), .val (.int c5)] [(.ref b4)])) (fun t k => XS.aloadN X16.here hx rfl (hb hby d1_39) rfl rfl k) ?_
            refine own_byW (T' := T16) (g' := (mkF m 41 #[.val (.ref pa), .val (.ref b4), .val (.int 1), .val (.int 5), .val (.int c5)] [(.int 1), (.ref b4)])) (fun t k => XS.iloadN X16.here hx rfl (hb hby d1_40) rfl k) ?_
            refine own_byW (T' := T16) (g' := (mkF m 42 #[.val (.ref pa), .val (.ref b4), .val (.int 1), .val (.int 5), .val (.int c5)] [(.int 1), (.int 1), (.ref b4)])) (fun t k => XS.iconst X16.here hx rfl (hb hby d1_41) k) ?_
            refine own_byW (T' := T16) (g' := (mkF m 43 #[.val (.ref pa), .val (.ref b4), .val (.int 1), .val (.int 5), .val (.int c5)] [(.int 0), (.ref b4)])) (fun t k => XS.isub X16.here hx rfl (hb hby d1_42) rfl k) ?_
            obtain ⟨cl39, Ar39, q39, S39, N39, Hs39, G39⟩ := id V_b4
            have hin39 : ¬ ((0 : Int32) < 0 ∨ cl39.slots.size ≤ ((0 : Int32)).toNatClampNeg) := inb_of S39 ⟨by decide, own_lt (by decide) hlt5⟩
            have hat39 : cl39.slots[((0 : Int32)).toNatClampNeg]? = some (.int 0) := Hs39.at hin39 rfl
            refine own_byW (T' := T16) (g' := (mkF m 44 #[.val (.ref pa), .val (.ref b4), .val (.int 1), .val (.int 5), .val (.int c5)] [(.int 0)])) (fun t k => X16.iaload hx (j := (0 : Int32)) (v := (.int 0)) (by rw [e16]; exact Ar39.1) (State.isArrayOf_alike hZ.alike Ar39.2.1) Ar39.2.2 hin39 hat39 (g := (mkF m 43 #[.val (.ref pa), .val (.ref b4), .val (.int 1), .val (.int 5), .val (.int c5)] [(.int 0), (.ref b4)])) rfl rfl (hb hby d1_43) _ k) ?_
            clear hat39 hin39 G39 Hs39 N39 S39 q39 Ar39 cl39
            refine own_byW (T' := T16) (g' := (mkF m 45 #[.val (.ref pa), .val (.ref b4), .val (.int 0), .val (.int 5), .val (.int c5)] [])) (fun t k => XS.istoreN X16.here hx rfl (hb hby d1_44) rfl (l' := #[.val (.ref pa), .val (.ref b4), .val (.int 0), .val (.int 5), .val (.int c5)]) rfl k) ?_
            refine own_byW (T' := T16) (g' := (mkF m 27 #[.val (.ref pa), .val (.ref b4), .val (.int 0), .val (.int 5), .val (.int c5)] [])) (fun t k => XS.goto X16.here hx rfl (pc0 := 45) (pc' := 27) rfl (hb hby d1_45) (by decide) (by decide) k) ?_
            refine own_byW (T' := T16) (g' := (mkF m 28 #[.val (.ref pa), .val (.ref b4), .val (.int 0), .val (.int 5), .val (.int c5)] [(.int 0)])) (fun t k => XS.iloadN X16.here hx rfl (hb hby d1_27) rfl k) ?_
            refine own_byW (T' := T16) (g' := (mkF m 48 #[.val (.ref pa), .val (.ref b4), .val (.int 0), .val (.int 5), .val (.int c5)] [])) (fun t k => XS.ifYes X16.here hx rfl (pc0 := 28) (pc' := 48) rfl (hb hby d1_28) rfl ((if0 _ _).trans (flt (by decide)).2.2.2) (by decide) (by decide) k) ?_
            refine own_byW (T' := T16) (g' := (mkF m 49 #[.val (.ref pa), .val (.ref b4), .val (.int 0), .val (.int 5), .val (.int c5)] [(.ref pa)])) (fun t k => XS.aloadN X16.here hx rfl (hb hby d1_48) rfl rfl k) ?_
            refine own_byW (T' := T16) (g' := (mkF m 50 #[.val (.ref pa), .val (.ref b4), .val (.int 0), .val (.int 5), .val (.int c5)] [(.int 0), (.ref pa)])) (fun t k => XS.iloadN X16.here hx rfl (hb hby d1_49) rfl k) ?_
            obtain ⟨cl40, Ar40, q40, S40, N40, Hs40, G40⟩ := id V_pa
            have hin40 : ¬ ((0 : Int32) < 0 ∨ cl40.slots.size ≤ ((0 : Int32)).toNatClampNeg) := inb_of S40 ⟨by decide, own_lt (by decide) hlt5⟩
            have hat40 : cl40.slots[((0 : Int32)).toNatClampNeg]? = some (.int c0) := Hs40.at hin40 rfl
            refine own_byW (T' := T16) (g' := (mkF m 51 #[.val (.ref pa), .val (.ref b4), .val (.int 0), .val (.int 5), .val (.int c5)] [(.int c0)])) (fun t k => X16.caload hx (j := (0 : Int32)) (v := (.int c0)) (by rw [e16]; exact Ar40.1) (State.isArrayOf_alike hZ.alike Ar40.2.1) Ar40.2.2 hin40 hat40 (g := (mkF m 50 #[.val (.ref pa), .val (.ref b4), .val (.int 0), .val (.int 5), .val (.int c5)] [(.int 0), (.ref pa)])) rfl rfl (hb hby d1_50) _ k) ?_
            clear hat40 hin40 G40 Hs40 N40 S40 q40 Ar40 cl40
            refine own_byW (T' := T16) (g' := (mkF m 53 #[.val (.ref pa), .val (.ref b4), .val (.int 0), .val (.int 5), .val (.int c5)] [(.int c5), (.int c0)])) (fun t k => XS.iload X16.here hx rfl (hb hby d1_51) rfl k) ?_
            by_cases hc53_41 : c0 = c5
            · refine own_byW (T' := T16) (g' := (mkF m 56 #[.val (.ref pa), .val (.ref b4), .val (.int 0), .val (.int 5), .val (.int c5)] [])) (fun t k => XS.icmpNo X16.here hx rfl (hb hby d1_53) rfl (teq hc53_41).2 k) ?_
              refine own_byW (T' := T16) (g' := (mkF m 59 #[.val (.ref pa), .val (.ref b4), .val (.int 1), .val (.int 5), .val (.int c5)] [])) (fun t k => XS.iinc X16.here hx rfl (hb hby d1_56) rfl (l' := #[.val (.ref pa), .val (.ref b4), .val (.int 1), .val (.int 5), .val (.int c5)]) rfl k) ?_
              exact own_j5 l Z a0 hw hx hby hml hlk hret pa nn kp c0 c1 c2 c3 c4 c5 h0 n0 hn0 hn6 hn7 b4 k4 1 t2 t3 2 _ hS hZ hown (X16) e16 V_pa Zle N_ K_ hk_ ne_pa_b4 g_b4 sz_b4 V_b4 (Or.inr <| ⟨rfl, f1⟩) HB2 HB3 (Or.inr <| Or.inr <| Or.inl ⟨rfl, f4⟩) (own_leaf5_9 c0 c1 c2 c3 c4 c5 f4 f1 hc36_31 hc36_37 hc53_41) hlt5
            · refine own_byW (T' := T16) (g' := (mkF m 59 #[.val (.ref pa), .val (.ref b4), .val (.int 0), .val (.int 5), .val (.int c5)] [])) (fun t k => XS.icmpYes X16.here hx rfl (pc0 := 53) (pc' := 59) rfl (hb hby d1_53) rfl (feq hc53_41).2 (by decide) (by decide) k) ?_
              exact own_j5 l Z a0 hw hx hby hml hlk hret pa nn kp c0 c1 c2 c3 c4 c5 h0 n0 hn0 hn6 hn7 b4 k4 1 t2 t3 2 _ hS hZ hown (X16) e16 V_pa Zle N_ K_ hk_ ne_pa_b4 g_b4 sz_b4 V_b4 (Or.inr <| ⟨rfl, f1⟩) HB2 HB3 (Or.inr <| Or.inr <| Or.inl ⟨rfl, f4⟩) (own_leaf5_10 c0 c1 c2 c3 c4 c5 f4 f1 hc36_31 hc36_37 hc53_41) hlt5
    · refine own_byW (T' := T16) (g' := (mkF m 28 #[.val (.ref pa), .val (.ref b4), .val (.int 3), .val (.int 5), .val (.int c5)] [(.int 3)])) (fun t k => XS.iloadN X16.here hx rfl (hb hby d1_27) rfl k) ?_
      refine own_byW (T' := T16) (g' := (mkF m 31 #[.val (.ref pa), .val (.ref b4), .val (.int 3), .val (.int 5), .val (.int c5)] [])) (fun t k => XS.ifNo X16.here hx rfl (hb hby d1_28) rfl ((if0 _ _).trans (tlt (by decide)).2.2.2) k) ?_
      refine own_byW (T' := T16) (g' := (mkF m 32 #[.val (.ref pa), .val (.ref b4), .val (.int 3), .val (.int 5), .val (.int c5)] [(.ref pa)])) (fun t k => XS.aloadN X16.here hx rfl (hb hby d1_31) rfl rfl k) ?_
      refine own_byW (T' := T16) (g' := (mkF m 33 #[.val (.ref pa), .val (.ref b4), .val (.int 3), .val (.int 5), .val (.int c5)] [(.int 3), (.ref pa)])) (fun t k => XS.iloadN X16.here hx rfl (hb hby d1_32) rfl k) ?_
      obtain ⟨cl42, Ar42, q42, S42, N42, Hs42, G42⟩ := id V_pa
      have hin42 : ¬ ((3 : Int32) < 0 ∨ cl42.slots.size ≤ ((3 : Int32)).toNatClampNeg) := inb_of S42 ⟨by decide, own_lt (by decide) hlt5⟩
      have hat42 : cl42.slots[((3 : Int32)).toNatClampNeg]? = some (.int c3) := Hs42.at hin42 rfl
      refine own_byW (T' := T16) (g' := (mkF m 34 #[.val (.ref pa), .val (.ref b4), .val (.int 3), .val (.int 5), .val (.int c5)] [(.int c3)])) (fun t k => X16.caload hx (j := (3 : Int32)) (v := (.int c3)) (by rw [e16]; exact Ar42.1) (State.isArrayOf_alike hZ.alike Ar42.2.1) Ar42.2.2 hin42 hat42 (g := (mkF m 33 #[.val (.ref pa), .val (.ref b4), .val (.int 3), .val (.int 5), .val (.int c5)] [(.int 3), (.ref pa)])) rfl rfl (hb hby d1_33) _ k) ?_
      clear hat42 hin42 G42 Hs42 N42 S42 q42 Ar42 cl42
      refine own_byW (T' := T16) (g' := (mkF m 36 #[.val (.ref pa), .val (.ref b4), .val (.int 3), .val (.int 5), .val (.int c5)] [(.int c5), (.int c3)])) (fun t k => XS.iload X16.here hx rfl (hb hby d1_34) rfl k) ?_
      by_cases hc36_43 : c3 = c5
      · refine own_byW (T' := T16) (g' := (mkF m 48 #[.val (.ref pa), .val (.ref b4), .val (.int 3), .val (.int 5), .val (.int c5)] [])) (fun t k => XS.icmpYes X16.here hx rfl (pc0 := 36) (pc' := 48) rfl (hb hby d1_36) rfl (teq hc36_43).1 (by decide) (by decide) k) ?_
        refine own_byW (T' := T16) (g' := (mkF m 49 #[.val (.ref pa), .val (.ref b4), .val (.int 3), .val (.int 5), .val (.int c5)] [(.ref pa)])) (fun t k => XS.aloadN X16.here hx rfl (hb hby d1_48) rfl rfl k) ?_
        refine own_byW (T' := T16) (g' := (mkF m 50 #[.val (.ref pa), .val (.ref b4), .val (.int 3), .val (.int 5), .val (.int c5)] [(.int 3), (.ref pa)])) (fun t k => XS.iloadN X16.here hx rfl (hb hby d1_49) rfl k) ?_
        obtain ⟨cl44, Ar44, q44, S44, N44, Hs44, G44⟩ := id V_pa
        have hin44 : ¬ ((3 : Int32) < 0 ∨ cl44.slots.size ≤ ((3 : Int32)).toNatClampNeg) := inb_of S44 ⟨by decide, own_lt (by decide) hlt5⟩
        have hat44 : cl44.slots[((3 : Int32)).toNatClampNeg]? = some (.int c3) := Hs44.at hin44 rfl
        refine own_byW (T' := T16) (g' := (mkF m 51 #[.val (.ref pa), .val (.ref b4), .val (.int 3), .val (.int 5), .val (.int c5)] [(.int c3)])) (fun t k => X16.caload hx (j := (3 : Int32)) (v := (.int c3)) (by rw [e16]; exact Ar44.1) (State.isArrayOf_alike hZ.alike Ar44.2.1) Ar44.2.2 hin44 hat44 (g := (mkF m 50 #[.val (.ref pa), .val (.ref b4), .val (.int 3), .val (.int 5), .val (.int c5)] [(.int 3), (.ref pa)])) rfl rfl (hb hby d1_50) _ k) ?_
        clear hat44 hin44 G44 Hs44 N44 S44 q44 Ar44 cl44
        refine own_byW (T' := T16) (g' := (mkF m 53 #[.val (.ref pa), .val (.ref b4), .val (.int 3), .val (.int 5), .val (.int c5)] [(.int c5), (.int c3)])) (fun t k => XS.iload X16.here hx rfl (hb hby d1_51) rfl k) ?_
        refine own_byW (T' := T16) (g' := (mkF m 56 #[.val (.ref pa), .val (.ref b4), .val (.int 3), .val (.int 5), .val (.int c5)] [])) (fun t k => XS.icmpNo X16.here hx rfl (hb hby d1_53) rfl (teq hc36_43).2 k) ?_
        refine own_byW (T' := T16) (g' := (mkF m 59 #[.val (.ref pa), .val (.ref b4), .val (.int 4), .val (.int 5), .val (.int c5)] [])) (fun t k => XS.iinc X16.here hx rfl (hb hby d1_56) rfl (l' := #[.val (.ref pa), .val (.ref b4), .val (.int 4), .val (.int 5), .val (.int c5)]) rfl k) ?_
        exact own_j5 l Z a0 hw hx hby hml hlk hret pa nn kp c0 c1 c2 c3 c4 c5 h0 n0 hn0 hn6 hn7 b4 k4 t1 t2 t3 3 _ hS hZ hown (X16) e16 V_pa Zle N_ K_ hk_ ne_pa_b4 g_b4 sz_b4 V_b4 HB1 HB2 HB3 (Or.inr <| Or.inr <| Or.inr <| Or.inl ⟨rfl, f4⟩) (own_leaf5_11 c0 c1 c2 c3 c4 c5 f4 hc36_43) hlt5
      · refine own_byW (T' := T16) (g' := (mkF m 39 #[.val (.ref pa), .val (.ref b4), .val (.int 3), .val (.int 5), .val (.int c5)] [])) (fun t k => XS.icmpNo X16.here hx rfl (hb hby d1_36) rfl (feq hc36_43).1 k) ?_
        refine own_byW (T' := T16) (g' := (mkF m 40 #[.val (.ref pa), .val (.ref b4), .val (.int 3), .val (.int 5), .val (.int c5)] [(.ref b4)])) (fun t k => XS.aloadN X16.here hx rfl (hb hby d1_39) rfl rfl k) ?_
        refine own_byW (T' := T16) (g' := (mkF m 41 #[.val (.ref pa), .val (.ref b4), .val (.int 3), .val (.int 5), .val (.int c5)] [(.int 3), (.ref b4)])) (fun t k => XS.iloadN X16.here hx rfl (hb hby d1_40) rfl k) ?_
        refine own_byW (T' := T16) (g' := (mkF m 42 #[.val (.ref pa), .val (.ref b4), .val (.int 3), .val (.int 5), .val (.int c5)] [(.int 1), (.int 3), (.ref b4)])) (fun t k => XS.iconst X16.here hx rfl (hb hby d1_41) k) ?_
        refine own_byW (T' := T16) (g' := (mkF m 43 #[.val (.ref pa), .val (.ref b4), .val (.int 3), .val (.int 5), .val (.int c5)] [(.int 2), (.ref b4)])) (fun t k => XS.isub X16.here hx rfl (hb hby d1_42) rfl k) ?_
        obtain ⟨cl45, Ar45, q45, S45, N45, Hs45, G45⟩ := id V_b4
        have hin45 : ¬ ((2 : Int32) < 0 ∨ cl45.slots.size ≤ ((2 : Int32)).toNatClampNeg) := inb_of S45 ⟨by decide, own_lt (by decide) hlt5⟩
        have hat45 : cl45.slots[((2 : Int32)).toNatClampNeg]? = some (.int t2) := Hs45.at hin45 rfl
        refine own_byW (T' := T16) (g' := (mkF m 44 #[.val (.ref pa), .val (.ref b4), .val (.int 3), .val (.int 5), .val (.int c5)] [(.int t2)])) (fun t k => X16.iaload hx (j := (2 : Int32)) (v := (.int t2)) (by rw [e16]; exact Ar45.1) (State.isArrayOf_alike hZ.alike Ar45.2.1) Ar45.2.2 hin45 hat45 (g := (mkF m 43 #[.val (.ref pa), .val (.ref b4), .val (.int 3), .val (.int 5), .val (.int c5)] [(.int 2), (.ref b4)])) rfl rfl (hb hby d1_43) _ k) ?_
        clear hat45 hin45 G45 Hs45 N45 S45 q45 Ar45 cl45
        refine own_byW (T' := T16) (g' := (mkF m 45 #[.val (.ref pa), .val (.ref b4), .val (.int t2), .val (.int 5), .val (.int c5)] [])) (fun t k => XS.istoreN X16.here hx rfl (hb hby d1_44) rfl (l' := #[.val (.ref pa), .val (.ref b4), .val (.int t2), .val (.int 5), .val (.int c5)]) rfl k) ?_
        refine own_byW (T' := T16) (g' := (mkF m 27 #[.val (.ref pa), .val (.ref b4), .val (.int t2), .val (.int 5), .val (.int c5)] [])) (fun t k => XS.goto X16.here hx rfl (pc0 := 45) (pc' := 27) rfl (hb hby d1_45) (by decide) (by decide) k) ?_
        rcases HB2 with ⟨rfl, f2⟩ | ⟨rfl, f2⟩ | ⟨rfl, f2⟩
        · refine own_byW (T' := T16) (g' := (mkF m 28 #[.val (.ref pa), .val (.ref b4), .val (.int 0), .val (.int 5), .val (.int c5)] [(.int 0)])) (fun t k => XS.iloadN X16.here hx rfl (hb hby d1_27) rfl k) ?_
          refine own_byW (T' := T16) (g' := (mkF m 48 #[.val (.ref pa), .val (.ref b4), .val (.int 0), .val (.int 5), .val (.int c5)] [])) (fun t k => XS.ifYes X16.here hx rfl (pc0 := 28) (pc' := 48) rfl (hb hby d1_28) rfl ((if0 _ _).trans (flt (by decide)).2.2.2) (by decide) (by decide) k) ?_
          refine own_byW (T' := T16) (g' := (mkF m 49 #[.val (.ref pa), .val (.ref b4), .val (.int 0), .val (.int 5), .val (.int c5)] [(.ref pa)])) (fun t k => XS.aloadN X16.here hx rfl (hb hby d1_48) rfl rfl k) ?_
          refine own_byW (T' := T16) (g' := (mkF m 50 #[.val (.ref pa), .val (.ref b4), .val (.int 0), .val (.int 5), .val (.int c5)] [(.int 0), (.ref pa)])) (fun t k => XS.iloadN X16.here hx rfl (hb hby d1_49) rfl k) ?_
          obtain ⟨cl46, Ar46, q46, S46, N46, Hs46, G46⟩ := id V_pa
          have hin46 : ¬ ((0 : Int32) < 0 ∨ cl46.slots.size ≤ ((0 : Int32)).toNatClampNeg) := inb_of S46 ⟨by decide, own_lt (by decide) hlt5⟩
          have hat46 : cl46.slots[((0 : Int32)).toNatClampNeg]? = some (.int c0) := Hs46.at hin46 rfl
          refine own_byW (T' := T16) (g' := (mkF m 51 #[.val (.ref pa), .val (.ref b4), .val (.int 0), .val (.int 5), .val (.int c5)] [(.int c0)])) (fun t k => X16.caload hx (j := (0 : Int32)) (v := (.int c0)) (by rw [e16]; exact Ar46.1) (State.isArrayOf_alike hZ.alike Ar46.2.1) Ar46.2.2 hin46 hat46 (g := (mkF m 50 #[.val (.ref pa), .val (.ref b4), .val (.int 0), .val (.int 5), .val (.int c5)] [(.int 0), (.ref pa)])) rfl rfl (hb hby d1_50) _ k) ?_
          clear hat46 hin46 G46 Hs46 N46 S46 q46 Ar46 cl46
          refine own_byW (T' := T16) (g' := (mkF m 53 #[.val (.ref pa), .val (.ref b4), .val (.int 0), .val (.int 5), .val (.int c5)] [(.int c5), (.int c0)])) (fun t k => XS.iload X16.here hx rfl (hb hby d1_51) rfl k) ?_
          by_cases hc53_47 : c0 = c5
          · refine own_byW (T' := T16) (g' := (mkF m 56 #[.val (.ref pa), .val (.ref b4), .val (.int 0), .val (.int 5), .val (.int c5)] [])) (fun t k => XS.icmpNo X16.here hx rfl (hb hby d1_53) rfl (teq hc53_47).2 k) ?_
            refine own_byW (T' := T16) (g' := (mkF m 59 #[.val (.ref pa), .val (.ref b4), .val (.int 1), .val (.int 5), .val (.int c5)] [])) (fun t k => XS.iinc X16.here hx rfl (hb hby d1_56) rfl (l' := #[.val (.ref pa), .val (.ref b4), .val (.int 1), .val (.int 5), .val (.int c5)]) rfl k) ?_
            exact own_j5 l Z a0 hw hx hby hml hlk hret pa nn kp c0 c1 c2 c3 c4 c5 h0 n0 hn0 hn6 hn7 b4 k4 t1 0 t3 3 _ hS hZ hown (X16) e16 V_pa Zle N_ K_ hk_ ne_pa_b4 g_b4 sz_b4 V_b4 HB1 (Or.inl ⟨rfl, f2⟩) HB3 (Or.inr <| Or.inr <| Or.inr <| Or.inl ⟨rfl, f4⟩) (own_leaf5_12 c0 c1 c2 c3 c4 c5 f4 f2 hc36_43 hc53_47) hlt5
          · refine own_byW (T' := T16) (g' := (mkF m 59 #[.val (.ref pa), .val (.ref b4), .val (.int 0), .val (.int 5), .val (.int c5)] [])) (fun t k => XS.icmpYes X16.here hx rfl (pc0 := 53) (pc' := 59) rfl (hb hby d1_53) rfl (feq hc53_47).2 (by decide) (by decide) k) ?_
            exact own_j5 l Z a0 hw hx hby hml hlk hret pa nn kp c0 c1 c2 c3 c4 c5 h0 n0 hn0 hn6 hn7 b4 k4 t1 0 t3 3 _ hS hZ hown (X16) e16 V_pa Zle N_ K_ hk_ ne_pa_b4 g_b4 sz_b4 V_b4 HB1 (Or.inl ⟨rfl, f2⟩) HB3 (Or.inr <| Or.inr <| Or.inr <| Or.inl ⟨rfl, f4⟩) (own_leaf5_13 c0 c1 c2 c3 c4 c5 f4 f2 hc36_43 hc53_47) hlt5
        · refine own_byW (T' := T16) (g' := (mkF m 28 #[.val (.ref pa), .val (.ref b4), .val (.int 1), .val (.int 5), .val (.int c5)] [(.int 1)])) (fun t k => XS.iloadN X16.here hx rfl (hb hby d1_27) rfl k) ?_
          refine own_byW (T' := T16) (g' := (mkF m 31 #[.val (.ref pa), .val (.ref b4), .val (.int 1), .val (.int 5), .val (.int c5)] [])) (fun t k => XS.ifNo X16.here hx rfl (hb hby d1_28) rfl ((if0 _ _).trans (tlt (by decide)).2.2.2) k) ?_
          refine own_byW (T' := T16) (g' := (mkF m 32 #[.val (.ref pa), .val (.ref b4), .val (.int 1), .val (.int 5), .val (.int c5)] [(.ref pa)])) (fun t k => XS.aloadN X16.here hx rfl (hb hby d1_31) rfl rfl k) ?_
          refine own_byW (T' := T16) (g' := (mkF m 33 #[.val (.ref pa), .val (.ref b4), .val (.int 1), .val (.int 5), .val (.int c5)] [(.int 1), (.ref pa)])) (fun t k => XS.iloadN X16.here hx rfl (hb hby d1_32) rfl k) ?_
          obtain ⟨cl48, Ar48, q48, S48, N48, Hs48, G48⟩ := id V_pa
          have hin48 : ¬ ((1 : Int32) < 0 ∨ cl48.slots.size ≤ ((1 : Int32)).toNatClampNeg) := inb_of S48 ⟨by decide, own_lt (by decide) hlt5⟩
          have hat48 : cl48.slots[((1 : Int32)).toNatClampNeg]? = some (.int c1) := Hs48.at hin48 rfl
          refine own_byW (T' := T16) (g' := (mkF m 34 #[.val (.ref pa), .val (.ref b4), .val (.int 1), .val (.int 5), .val (.int c5)] [(.int c1)])) (fun t k => X16.caload hx (j := (1 : Int32)) (v := (.int c1)) (by rw [e16]; exact Ar48.1) (State.isArrayOf_alike hZ.alike Ar48.2.1) Ar48.2.2 hin48 hat48 (g := (mkF m 33 #[.val (.ref pa), .val (.ref b4), .val (.int 1), .val (.int 5), .val (.int c5)] [(.int 1), (.ref pa)])) rfl rfl (hb hby d1_33) _ k) ?_
          clear hat48 hin48 G48 Hs48 N48 S48 q48 Ar48 cl48
          refine own_byW (T' := T16) (g' := (mkF m 36 #[.val (.ref pa), .val (.ref b4), .val (.int 1), .val (.int 5), .val (.int c5)] [(.int c5), (.int c1)])) (fun t k => XS.iload X16.here hx rfl (hb hby d1_34) rfl k) ?_
          by_cases hc36_49 : c1 = c5
          · refine own_byW (T' := T16) (g' := (mkF m 48 #[.val (.ref pa), .val (.ref b4), .val (.int 1), .val (.int 5), .val (.int c5)] [])) (fun t k => XS.icmpYes X16.here hx rfl (pc0 := 36) (pc' := 48) rfl (hb hby d1_36) rfl (teq hc36_49).1 (by decide) (by decide) k) ?_
            refine own_byW (T' := T16) (g' := (mkF m 49 #[.val (.ref pa), .val (.ref b4), .val (.int 1), .val (.int 5), .val (.int c5)] [(.ref pa)])) (fun t k => XS.aloadN X16.here hx rfl (hb hby d1_48) rfl rfl k) ?_
            refine own_byW (T' := T16) (g' := (mkF m 50 #[.val (.ref pa), .val (.ref b4), .val (.int 1), .val (.int 5), .val (.int c5)] [(.int 1), (.ref pa)])) (fun t k => XS.iloadN X16.here hx rfl (hb hby d1_49) rfl k) ?_
            obtain ⟨cl50, Ar50, q50, S50, N50, Hs50, G50⟩ := id V_pa
            have hin50 : ¬ ((1 : Int32) < 0 ∨ cl50.slots.size ≤ ((1 : Int32)).toNatClampNeg) := inb_of S50 ⟨by decide, own_lt (by decide) hlt5⟩
            have hat50 : cl50.slots[((1 : Int32)).toNatClampNeg]? = some (.int c1) := Hs50.at hin50 rfl
            refine own_byW (T' := T16) (g' := (mkF m 51 #[.val (.ref pa), .val (.ref b4), .val (.int 1), .val (.int 5), .val (.int c5)] [(.int c1)])) (fun t k => X16.caload hx (j := (1 : Int32)) (v := (.int c1)) (by rw [e16]; exact Ar50.1) (State.isArrayOf_alike hZ.alike Ar50.2.1) Ar50.2.2 hin50 hat50 (g := (mkF m 50 #[.val (.ref pa), .val (.ref b4), .val (.int 1), .val (.int 5), .val (.int c5)] [(.int 1), (.ref pa)])) rfl rfl (hb hby d1_50) _ k) ?_
            clear hat50 hin50 G50 Hs50 N50 S50 q50 Ar50 cl50
            refine own_byW (T' := T16) (g' := (mkF m 53 #[.val (.ref pa), .val (.ref b4), .val (.int 1), .val (.int 5), .val (.int c5)] [(.int c5), (.int c1)])) (fun t k => XS.iload X16.here hx rfl (hb hby d1_51) rfl k) ?_
            refine own_byW (T' := T16) (g' := (mkF m 56 #[.val (.ref pa), .val (.ref b4), .val (.int 1), .val (.int 5), .val (.int c5)] [])) (fun t k => XS.icmpNo X16.here hx rfl (hb hby d1_53) rfl (teq hc36_49).2 k) ?_
            refine own_byW (T' := T16) (g' := (mkF m 59 #[.val (.ref pa), .val (.ref b4), .val (.int 2), .val (.int 5), .val (.int c5)] [])) (fun t k => XS.iinc X16.here hx rfl (hb hby d1_56) rfl (l' := #[.val (.ref pa), .val (.ref b4), .val (.int 2), .val (.int 5), .val (.int c5)]) rfl k) ?_
            exact own_j5 l Z a0 hw hx hby hml hlk hret pa nn kp c0 c1 c2 c3 c4 c5 h0 n0 hn0 hn6 hn7 b4 k4 t1 1 t3 3 _ hS hZ hown (X16) e16 V_pa Zle N_ K_ hk_ ne_pa_b4 g_b4 sz_b4 V_b4 HB1 (Or.inr <| Or.inl ⟨rfl, f2⟩) HB3 (Or.inr <| Or.inr <| Or.inr <| Or.inl ⟨rfl, f4⟩) (own_leaf5_14 c0 c1 c2 c3 c4 c5 f4 f2 hc36_43 hc36_49) hlt5
          · refine own_byW (T' := T16) (g' := (mkF m 39 #[.val (.ref pa), .val (.ref b4), .val (.int 1), .val (.int 5), .val (.int c5)] [])) (fun t k => XS.icmpNo X16.here hx rfl (hb hby d1_36) rfl (feq hc36_49).1 k) ?_
            refine own_byW (T' := T16) (g' := (mkF m 40 #[.val (.ref pa), .val (.ref b4), .val (.int 1), .val (.int 5), .val (.int c5)] [(.ref b4)])) (fun t k => XS.aloadN X16.here hx rfl (hb hby d1_39) rfl rfl k) ?_
            refine own_byW (T' := T16) (g' := (mkF m 41 #[.val (.ref pa), .val (.ref b4), .val (.int 1), .val (.int 5), .val (.int c5)] [(.int 1), (.ref b4)])) (fun t k => XS.iloadN X16.here hx rfl (hb hby d1_40) rfl k) ?_
            refine own_byW (T' := T16) (g' := (mkF m 42 #[.val (.ref pa), .val (.ref b4), .val (.int 1), .val (.int 5), .val (.int c5)] [(.int 1), (.int 1), (.ref b4)])) (fun t k => XS.iconst X16.here hx rfl (hb hby d1_41) k) ?_
            refine own_byW (T' := T16) (g' := (mkF m 43 #[.val (.ref pa), .val (.ref b4), .val (.int 1), .val (.int 5), .val (.int c5)] [(.int 0), (.ref b4)])) (fun t k => XS.isub X16.here hx rfl (hb hby d1_42) rfl k) ?_
            obtain ⟨cl51, Ar51, q51, S51, N51, Hs51, G51⟩ := id V_b4
            have hin51 : ¬ ((0 : Int32) < 0 ∨ cl51.slots.size ≤ ((0 : Int32)).toNatClampNeg) := inb_of S51 ⟨by decide, own_lt (by decide) hlt5⟩
            have hat51 : cl51.slots[((0 : Int32)).toNatClampNeg]? = some (.int 0) := Hs51.at hin51 rfl
            refine own_byW (T' := T16) (g' := (mkF m 44 #[.val (.ref pa), .val (.ref b4), .val (.int 1), .val (.int 5), .val (.int c5)] [(.int 0)])) (fun t k => X16.iaload hx (j := (0 : Int32)) (v := (.int 0)) (by rw [e16]; exact Ar51.1) (State.isArrayOf_alike hZ.alike Ar51.2.1) Ar51.2.2 hin51 hat51 (g := (mkF m 43 #[.val (.ref pa), .val (.ref b4), .val (.int 1), .val (.int 5), .val (.int c5)] [(.int 0), (.ref b4)])) rfl rfl (hb hby d1_43) _ k) ?_
            clear hat51 hin51 G51 Hs51 N51 S51 q51 Ar51 cl51
            refine own_byW (T' := T16) (g' := (mkF m 45 #[.val (.ref pa), .val (.ref b4), .val (.int 0), .val (.int 5), .val (.int c5)] [])) (fun t k => XS.istoreN X16.here hx rfl (hb hby d1_44) rfl (l' := #[.val (.ref pa), .val (.ref b4), .val (.int 0), .val (.int 5), .val (.int c5)]) rfl k) ?_
            refine own_byW (T' := T16) (g' := (mkF m 27 #[.val (.ref pa), .val (.ref b4), .val (.int 0), .val (.int 5), .val (.int c5)] [])) (fun t k => XS.goto X16.here hx rfl (pc0 := 45) (pc' := 27) rfl (hb hby d1_45) (by decide) (by decide) k) ?_
            refine own_byW (T' := T16) (g' := (mkF m 28 #[.val (.ref pa), .val (.ref b4), .val (.int 0), .val (.int 5), .val (.int c5)] [(.int 0)])) (fun t k => XS.iloadN X16.here hx rfl (hb hby d1_27) rfl k) ?_
            refine own_byW (T' := T16) (g' := (mkF m 48 #[.val (.ref pa), .val (.ref b4), .val (.int 0), .val (.int 5), .val (.int c5)] [])) (fun t k => XS.ifYes X16.here hx rfl (pc0 := 28) (pc' := 48) rfl (hb hby d1_28) rfl ((if0 _ _).trans (flt (by decide)).2.2.2) (by decide) (by decide) k) ?_
            refine own_byW (T' := T16) (g' := (mkF m 49 #[.val (.ref pa), .val (.ref b4), .val (.int 0), .val (.int 5), .val (.int c5)] [(.ref pa)])) (fun t k => XS.aloadN X16.here hx rfl (hb hby d1_48) rfl rfl k) ?_
            refine own_byW (T' := T16) (g' := (mkF m 50 #[.val (.ref pa), .val (.ref b4), .val (.int 0), .val (.int 5), .val (.int c5)] [(.int 0), (.ref pa)])) (fun t k => XS.iloadN X16.here hx rfl (hb hby d1_49) rfl k) ?_
            obtain ⟨cl52, Ar52, q52, S52, N52, Hs52, G52⟩ := id V_pa
            have hin52 : ¬ ((0 : Int32) < 0 ∨ cl52.slots.size ≤ ((0 : Int32)).toNatClampNeg) := inb_of S52 ⟨by decide, own_lt (by decide) hlt5⟩
            have hat52 : cl52.slots[((0 : Int32)).toNatClampNeg]? = some (.int c0) := Hs52.at hin52 rfl
            refine own_byW (T' := T16) (g' := (mkF m 51 #[.val (.ref pa), .val (.ref b4), .val (.int 0), .val (.int 5), .val (.int c5)] [(.int c0)])) (fun t k => X16.caload hx (j := (0 : Int32)) (v := (.int c0)) (by rw [e16]; exact Ar52.1) (State.isArrayOf_alike hZ.alike Ar52.2.1) Ar52.2.2 hin52 hat52 (g := (mkF m 50 #[.val (.ref pa), .val (.ref b4), .val (.int 0), .val (.int 5), .val (.int c5)] [(.int 0), (.ref pa)])) rfl rfl (hb hby d1_50) _ k) ?_
            clear hat52 hin52 G52 Hs52 N52 S52 q52 Ar52 cl52
            refine own_byW (T' := T16) (g' := (mkF m 53 #[.val (.ref pa), .val (.ref b4), .val (.int 0), .val (.int 5), .val (.int c5)] [(.int c5), (.int c0)])) (fun t k => XS.iload X16.here hx rfl (hb hby d1_51) rfl k) ?_
            by_cases hc53_53 : c0 = c5
            · refine own_byW (T' := T16) (g' := (mkF m 56 #[.val (.ref pa), .val (.ref b4), .val (.int 0), .val (.int 5), .val (.int c5)] [])) (fun t k => XS.icmpNo X16.here hx rfl (hb hby d1_53) rfl (teq hc53_53).2 k) ?_
              refine own_byW (T' := T16) (g' := (mkF m 59 #[.val (.ref pa), .val (.ref b4), .val (.int 1), .val (.int 5), .val (.int c5)] [])) (fun t k => XS.iinc X16.here hx rfl (hb hby d1_56) rfl (l' := #[.val (.ref pa), .val (.ref b4), .val (.int 1), .val (.int 5), .val (.int c5)]) rfl k) ?_
              exact own_j5 l Z a0 hw hx hby hml hlk hret pa nn kp c0 c1 c2 c3 c4 c5 h0 n0 hn0 hn6 hn7 b4 k4 t1 1 t3 3 _ hS hZ hown (X16) e16 V_pa Zle N_ K_ hk_ ne_pa_b4 g_b4 sz_b4 V_b4 HB1 (Or.inr <| Or.inl ⟨rfl, f2⟩) HB3 (Or.inr <| Or.inr <| Or.inr <| Or.inl ⟨rfl, f4⟩) (own_leaf5_15 c0 c1 c2 c3 c4 c5 f4 f2 hc36_43 hc36_49 hc53_53) hlt5
            · refine own_byW (T' := T16) (g' := (mkF m 59 #[.val (.ref pa), .val (.ref b4), .val (.int 0), .val (.int 5), .val (.int c5)] [])) (fun t k => XS.icmpYes X16.here hx rfl (pc0 := 53) (pc' := 59) rfl (hb hby d1_53) rfl (feq hc53_53).2 (by decide) (by decide) k) ?_
              exact own_j5 l Z a0 hw hx hby hml hlk hret pa nn kp c0 c1 c2 c3 c4 c5 h0 n0 hn0 hn6 hn7 b4 k4 t1 1 t3 3 _ hS hZ hown (X16) e16 V_pa Zle N_ K_ hk_ ne_pa_b4 g_b4 sz_b4 V_b4 HB1 (Or.inr <| Or.inl ⟨rfl, f2⟩) HB3 (Or.inr <| Or.inr <| Or.inr <| Or.inl ⟨rfl, f4⟩) (own_leaf5_16 c0 c1 c2 c3 c4 c5 f4 f2 hc36_43 hc36_49 hc53_53) hlt5
        · refine own_byW (T' := T16) (g' := (mkF m 28 #[.val (.ref pa), .val (.ref b4), .val (.int 2), .val (.int 5), .val (.int c5)] [(.int 2)])) (fun t k => XS.iloadN X16.here hx rfl (hb hby d1_27) rfl k) ?_
          refine own_byW (T' := T16) (g' := (mkF m 31 #[.val (.ref pa), .val (.ref b4), .val (.int 2), .val (.int 5), .val (.int c5)] [])) (fun t k => XS.ifNo X16.here hx rfl (hb hby d1_28) rfl ((if0 _ _).trans (tlt (by decide)).2.2.2) k) ?_
          refine own_byW (T' := T16) (g' := (mkF m 32 #[.val (.ref pa), .val (.ref b4), .val (.int 2), .val (.int 5), .val (.int c5)] [(.ref pa)])) (fun t k => XS.aloadN X16.here hx rfl (hb hby d1_31) rfl rfl k) ?_
          refine own_byW (T' := T16) (g' := (mkF m 33 #[.val (.ref pa), .val (.ref b4), .val (.int 2), .val (.int 5), .val (.int c5)] [(.int 2), (.ref pa)])) (fun t k => XS.iloadN X16.here hx rfl (hb hby d1_32) rfl k) ?_
          obtain ⟨cl54, Ar54, q54, S54, N54, Hs54, G54⟩ := id V_pa
          have hin54 : ¬ ((2 : Int32) < 0 ∨ cl54.slots.size ≤ ((2 : Int32)).toNatClampNeg) := inb_of S54 ⟨by decide, own_lt (by decide) hlt5⟩
          have hat54 : cl54.slots[((2 : Int32)).toNatClampNeg]? = some (.int c2) := Hs54.at hin54 rfl
          refine own_byW (T' := T16) (g' := (mkF m 34 #[.val (.ref pa), .val (.ref b4), .val (.int 2), .val (.int 5), .val (.int c5)] [(.int c2)])) (fun t k => X16.caload hx (j := (2 : Int32)) (v := (.int c2)) (by rw [e16]; exact Ar54.1) (State.isArrayOf_alike hZ.alike Ar54.2.1) Ar54.2.2 hin54 hat54 (g := (mkF m 33 #[.val (.ref pa), .val (.ref b4), .val (.int 2), .val (.int 5), .val (.int c5)] [(.int 2), (.ref pa)])) rfl rfl (hb hby d1_33) _ k) ?_
          clear hat54 hin54 G54 Hs54 N54 S54 q54 Ar54 cl54
          refine own_byW (T' := T16) (g' := (mkF m 36 #[.val (.ref pa), .val (.ref b4), .val (.int 2), .val (.int 5), .val (.int c5)] [(.int c5), (.int c2)])) (fun t k => XS.iload X16.here hx rfl (hb hby d1_34) rfl k) ?_
          by_cases hc36_55 : c2 = c5
          · refine own_byW (T' := T16) (g' := (mkF m 48 #[.val (.ref pa), .val (.ref b4), .val (.int 2), .val (.int 5), .val (.int c5)] [])) (fun t k => XS.icmpYes X16.here hx rfl (pc0 := 36) (pc' := 48) rfl (hb hby d1_36) rfl (teq hc36_55).1 (by decide) (by decide) k) ?_
            refine own_byW (T' := T16) (g' := (mkF m 49 #[.val (.ref pa), .val (.ref b4), .val (.int 2), .val (.int 5), .val (.int c5)] [(.ref pa)])) (fun t k => XS.aloadN X16.here hx rfl (hb hby d1_48) rfl rfl k) ?_
            refine own_byW (T' := T16) (g' := (mkF m 50 #[.val (.ref pa), .val (.ref b4), .val (.int 2), .val (.int 5), .val (.int c5)] [(.int 2), (.ref pa)])) (fun t k => XS.iloadN X16.here hx rfl (hb hby d1_49) rfl k) ?_
            obtain ⟨cl56, Ar56, q56, S56, N56, Hs56, G56⟩ := id V_pa
            have hin56 : ¬ ((2 : Int32) < 0 ∨ cl56.slots.size ≤ ((2 : Int32)).toNatClampNeg) := inb_of S56 ⟨by decide, own_lt (by decide) hlt5⟩
            have hat56 : cl56.slots[((2 : Int32)).toNatClampNeg]? = some (.int c2) := Hs56.at hin56 rfl
            refine own_byW (T' := T16) (g' := (mkF m 51 #[.val (.ref pa), .val (.ref b4), .val (.int 2), .val (.int 5), .val (.int c5)] [(.int c2)])) (fun t k => X16.caload hx (j := (2 : Int32)) (v := (.int c2)) (by rw [e16]; exact Ar56.1) (State.isArrayOf_alike hZ.alike Ar56.2.1) Ar56.2.2 hin56 hat56 (g := (mkF m 50 #[.val (.ref pa), .val (.ref b4), .val (.int 2), .val (.int 5), .val (.int c5)] [(.int 2), (.ref pa)])) rfl rfl (hb hby d1_50) _ k) ?_
            clear hat56 hin56 G56 Hs56 N56 S56 q56 Ar56 cl56
            refine own_byW (T' := T16) (g' := (mkF m 53 #[.val (.ref pa), .val (.ref b4), .val (.int 2), .val (.int 5), .val (.int c5)] [(.int c5), (.int c2)])) (fun t k => XS.iload X16.here hx rfl (hb hby d1_51) rfl k) ?_
            refine own_byW (T' := T16) (g' := (mkF m 56 #[.val (.ref pa), .val (.ref b4), .val (.int 2), .val (.int 5), .val (.int c5)] [])) (fun t k => XS.icmpNo X16.here hx rfl (hb hby d1_53) rfl (teq hc36_55).2 k) ?_
            refine own_byW (T' := T16) (g' := (mkF m 59 #[.val (.ref pa), .val (.ref b4), .val (.int 3), .val (.int 5), .val (.int c5)] [])) (fun t k => XS.iinc X16.here hx rfl (hb hby d1_56) rfl (l' := #[.val (.ref pa), .val (.ref b4), .val (.int 3), .val (.int 5), .val (.int c5)]) rfl k) ?_
            exact own_j5 l Z a0 hw hx hby hml hlk hret pa nn kp c0 c1 c2 c3 c4 c5 h0 n0 hn0 hn6 hn7 b4 k4 t1 2 t3 3 _ hS hZ hown (X16) e16 V_pa Zle N_ K_ hk_ ne_pa_b4 g_b4 sz_b4 V_b4 HB1 (Or.inr <| Or.inr <| ⟨rfl, f2⟩) HB3 (Or.inr <| Or.inr <| Or.inr <| Or.inl ⟨rfl, f4⟩) (own_leaf5_17 c0 c1 c2 c3 c4 c5 f4 f2 hc36_43 hc36_55) hlt5
          · refine own_byW (T' := T16) (g' := (mkF m 39 #[.val (.ref pa), .val (.ref b4), .val (.int 2), .val (.int 5), .val (.int c5)] [])) (fun t k => XS.icmpNo X16.here hx rfl (hb hby d1_36) rfl (feq hc36_55).1 k) ?_
            refine own_byW (T' := T16) (g' := (mkF m 40 #[.val (.ref pa), .val (.ref b4), .val (.int 2), .val (.int 5), .val (.int c5)] [(.ref b4)])) (fun t k => XS.aloadN X16.here hx rfl (hb hby d1_39) rfl rfl k) ?_
            refine own_byW (T' := T16) (g' := (mkF m 41 #[.val (.ref pa), .val (.ref b4), .val (.int 2), .val (.int 5), .val (.int c5)] [(.int 2), (.ref b4)])) (fun t k => XS.iloadN X16.here hx rfl (hb hby d1_40) rfl k) ?_
            refine own_byW (T' := T16) (g' := (mkF m 42 #[.val (.ref pa), .val (.ref b4), .val (.int 2), .val (.int 5), .val (.int c5)] [(.int 1), (.int 2), (.ref b4)])) (fun t k => XS.iconst X16.here hx rfl (hb hby d1_41) k) ?_
            refine own_byW (T' := T16) (g' := (mkF m 43 #[.val (.ref pa), .val (.ref b4), .val (.int 2), .val (.int 5), .val (.int c5)] [(.int 1), (.ref b4)])) (fun t k => XS.isub X16.here hx rfl (hb hby d1_42) rfl k) ?_
            obtain ⟨cl57, Ar57, q57, S57, N57, Hs57, G57⟩ := id V_b4
            have hin57 : ¬ ((1 : Int32) < 0 ∨ cl57.slots.size ≤ ((1 : Int32)).toNatClampNeg) := inb_of S57 ⟨by decide, own_lt (by decide) hlt5⟩
            have hat57 : cl57.slots[((1 : Int32)).toNatClampNeg]? = some (.int t1) := Hs57.at hin57 rfl
            refine own_byW (T' := T16) (g' := (mkF m 44 #[.val (.ref pa), .val (.ref b4), .val (.int 2), .val (.int 5), .val (.int c5)] [(.int t1)])) (fun t k => X16.iaload hx (j := (1 : Int32)) (v := (.int t1)) (by rw [e16]; exact Ar57.1) (State.isArrayOf_alike hZ.alike Ar57.2.1) Ar57.2.2 hin57 hat57 (g := (mkF m 43 #[.val (.ref pa), .val (.ref b4), .val (.int 2), .val (.int 5), .val (.int c5)] [(.int 1), (.ref b4)])) rfl rfl (hb hby d1_43) _ k) ?_
            clear hat57 hin57 G57 Hs57 N57 S57 q57 Ar57 cl57
            refine own_byW (T' := T16) (g' := (mkF m 45 #[.val (.ref pa), .val (.ref b4), .val (.int t1), .val (.int 5), .val (.int c5)] [])) (fun t k => XS.istoreN X16.here hx rfl (hb hby d1_44) rfl (l' := #[.val (.ref pa), .val (.ref b4), .val (.int t1), .val (.int 5), .val (.int c5)]) rfl k) ?_
            refine own_byW (T' := T16) (g' := (mkF m 27 #[.val (.ref pa), .val (.ref b4), .val (.int t1), .val (.int 5), .val (.int c5)] [])) (fun t k => XS.goto X16.here hx rfl (pc0 := 45) (pc' := 27) rfl (hb hby d1_45) (by decide) (by decide) k) ?_
            rcases HB1 with ⟨rfl, f1⟩ | ⟨rfl, f1⟩
            · refine own_byW (T' := T16) (g' := (mkF m 28 #[.val (.ref pa), .val (.ref b4), .val (.int 0), .val (.int 5), .val (.int c5)] [(.int 0)])) (fun t k => XS.iloadN X16.here hx rfl (hb hby d1_27) rfl k) ?_
              refine own_byW (T' := T16) (g' := (mkF m 48 #[.val (.ref pa), .val (.ref b4), .val (.int 0), .val (.int 5), .val (.int c5)] [])) (fun t k => XS.ifYes X16.here hx rfl (pc0 := 28) (pc' := 48) rfl (hb hby d1_28) rfl ((if0 _ _).trans (flt (by decide)).2.2.2) (by decide) (by decide) k) ?_
              refine own_byW (T' := T16) (g' := (mkF m 49 #[.val (.ref pa), .val (.ref b4), .val (.int 0), .val (.int 5), .val (.int c5)] [(.ref pa)])) (fun t k => XS.aloadN X16.here hx rfl (hb hby d1_48) rfl rfl k) ?_
              refine own_byW (T' := T16) (g' := (mkF m 50 #[.val (.ref pa), .val (.ref b4), .val (.int 0), .val (.int 5), .val (.int c5)] [(.int 0), (.ref pa)])) (fun t k => XS.iloadN X16.here hx rfl (hb hby d1_49) rfl k) ?_
              obtain ⟨cl58, Ar58, q58, S58, N58, Hs58, G58⟩ := id V_pa
              have hin58 : ¬ ((0 : Int32) < 0 ∨ cl58.slots.size ≤ ((0 : Int32)).toNatClampNeg) := inb_of S58 ⟨by decide, own_lt (by decide) hlt5⟩
              have hat58 : cl58.slots[((0 : Int32)).toNatClampNeg]? = some (.int c0) := Hs58.at hin58 rfl
              refine own_byW (T' := T16) (g' := (mkF m 51 #[.val (.ref pa), .val (.ref b4), .val (.int 0), .val (.int 5), .val (.int c5)] [(.int c0)])) (fun t k => X16.caload hx (j := (0 : Int32)) (v := (.int c0)) (by rw [e16]; exact Ar58.1) (State.isArrayOf_alike hZ.alike Ar58.2.1) Ar58.2.2 hin58 hat58 (g := (mkF m 50 #[.val (.ref pa), .val (.ref b4), .val (.int 0), .val (.int 5), .val (.int c5)] [(.int 0), (.ref pa)])) rfl rfl (hb hby d1_50) _ k) ?_
              clear hat58 hin58 G58 Hs58 N58 S58 q58 Ar58 cl58
              refine own_byW (T' := T16) (g' := (mkF m 53 #[.val (.ref pa), .val (.ref b4), .val (.int 0), .val (.int 5), .val (.int c5)] [(.int c5), (.int c0)])) (fun t k => XS.iload X16.here hx rfl (hb hby d1_51) rfl k) ?_
              by_cases hc53_59 : c0 = c5
              · refine own_byW (T' := T16) (g' := (mkF m 56 #[.val (.ref pa), .val (.ref b4), .val (.int 0), .val (.int 5), .val (.int c5)] [])) (fun t k => XS.icmpNo X16.here hx rfl (hb hby d1_53) rfl (teq hc53_59).2 k) ?_
                refine own_byW (T' := T16) (g' := (mkF m 59 #[.val (.ref pa), .val (.ref b4), .val (.int 1), .val (.int 5), .val (.int c5)] [])) (fun t k => XS.iinc X16.here hx rfl (hb hby d1_56) rfl (l' := #[.val (.ref pa), .val (.ref b4), .val (.int 1), .val (.int 5), .val (.int c5)]) rfl k) ?_
                exact own_j5 l Z a0 hw hx hby hml hlk hret pa nn kp c0 c1 c2 c3 c4 c5 h0 n0 hn0 hn6 hn7 b4 k4 0 2 t3 3 _ hS hZ hown (X16) e16 V_pa Zle N_ K_ hk_ ne_pa_b4 g_b4 sz_b4 V_b4 (Or.inl ⟨rfl, f1⟩) (Or.inr <| Or.inr <| ⟨rfl, f2⟩) HB3 (Or.inr <| Or.inr <| Or.inr <| Or.inl ⟨rfl, f4⟩) (own_leaf5_18 c0 c1 c2 c3 c4 c5 f4 f2 f1 hc36_43 hc36_55 hc53_59) hlt5
              · refine own_byW (T' := T16) (g' := (mkF m 59 #[.val (.ref pa), .val (.ref b4), .val (.int 0), .val (.int 5), .val (.int c5)] [])) (fun t k => XS.icmpYes X16.here hx rfl (pc0 := 53) (pc' := 59) rfl (hb hby d1_53) rfl (feq hc53_59).2 (by decide) (by decide) k) ?_
                exact own_j5 l Z a0 hw hx hby hml hlk hret pa nn kp c0 c1 c2 c3 c4 c5 h0 n0 hn0 hn6 hn7 b4 k4 0 2 t3 3 _ hS hZ hown (X16) e16 V_pa Zle N_ K_ hk_ ne_pa_b4 g_b4 sz_b4 V_b4 (Or.inl ⟨rfl, f1⟩) (Or.inr <| Or.inr <| ⟨rfl, f2⟩) HB3 (Or.inr <| Or.inr <| Or.inr <| Or.inl ⟨rfl, f4⟩) (own_leaf5_19 c0 c1 c2 c3 c4 c5 f4 f2 f1 hc36_43 hc36_55 hc53_59) hlt5
            · refine own_byW (T' := T16) (g' := (mkF m 28 #[.val (.ref pa), .val (.ref b4), .val (.int 1), .val (.int 5), .val (.int c5)] [(.int 1)])) (fun t k => XS.iloadN X16.here hx rfl (hb hby d1_27) rfl k) ?_
              refine own_byW (T' := T16) (g' := (mkF m 31 #[.val (.ref pa), .val (.ref b4), .val (.int 1), .val (.int 5), .val (.int c5)] [])) (fun t k => XS.ifNo X16.here hx rfl (hb hby d1_28) rfl ((if0 _ _).trans (tlt (by decide)).2.2.2) k) ?_
              refine own_byW (T' := T16) (g' := (mkF m 32 #[.val (.ref pa), .val (.ref b4), .val (.int 1), .val (.int 5), .val (.int c5)] [(.ref pa)])) (fun t k => XS.aloadN X16.here hx rfl (hb hby d1_31) rfl rfl k) ?_
              refine own_byW (T' := T16) (g' := (mkF m 33 #[.val (.ref pa), .val (.ref b4), .val (.int 1), .val (.int 5), .val (.int c5)] [(.int 1), (.ref pa)])) (fun t k => XS.iloadN X16.here hx rfl (hb hby d1_32) rfl k) ?_
              obtain ⟨cl60, Ar60, q60, S60, N60, Hs60, G60⟩ := id V_pa
              have hin60 : ¬ ((1 : Int32) < 0 ∨ cl60.slots.size ≤ ((1 : Int32)).toNatClampNeg) := inb_of S60 ⟨by decide, own_lt (by decide) hlt5⟩
              have hat60 : cl60.slots[((1 : Int32)).toNatClampNeg]? = some (.int c1) := Hs60.at hin60 rfl
              refine own_byW (T' := T16) (g' := (mkF m 34 #[.val (.ref pa), .val (.ref b4), .val (.int 1), .val (.int 5), .val (.int c5)] [(.int c1)])) (fun t k => X16.caload hx (j := (1 : Int32)) (v := (.int c1)) (by rw [e16]; exact Ar60.1) (State.isArrayOf_alike hZ.alike Ar60.2.1) Ar60.2.2 hin60 hat60 (g := (mkF m 33 #[.val (.ref pa), .val (.ref b4), .val (.int 1), .val (.int 5), .val (.int c5)] [(.int 1), (.ref pa)])) rfl rfl (hb hby d1_33) _ k) ?_
              clear hat60 hin60 G60 Hs60 N60 S60 q60 Ar60 cl60
              refine own_byW (T' := T16) (g' := (mkF m 36 #[.val (.ref pa), .val (.ref b4), .val (.int 1), .val (.int 5), .val (.int c5)] [(.int c5), (.int c1)])) (fun t k => XS.iload X16.here hx rfl (hb hby d1_34) rfl k) ?_
              by_cases hc36_61 : c1 = c5
              · refine own_byW (T' := T16) (g' := (mkF m 48 #[.val (.ref pa), .val (.ref b4), .val (.int 1), .val (.int 5), .val (.int c5)] [])) (fun t k => XS.icmpYes X16.here hx rfl (pc0 := 36) (pc' := 48) rfl (hb hby d1_36) rfl (teq hc36_61).1 (by decide) (by decide) k) ?_
                refine own_byW (T' := T16) (g' := (mkF m 49 #[.val (.ref pa), .val (.ref b4), .val (.int 1), .val (.int 5), .val (.int c5)] [(.ref pa)])) (fun t k => XS.aloadN X16.here hx rfl (hb hby d1_48) rfl rfl k) ?_
                refine own_byW (T' := T16) (g' := (mkF m 50 #[.val (.ref pa), .val (.ref b4), .val (.int 1), .val (.int 5), .val (.int c5)] [(.int 1), (.ref pa)])) (fun t k => XS.iloadN X16.here hx rfl (hb hby d1_49) rfl k) ?_
                obtain ⟨cl62, Ar62, q62, S62, N62, Hs62, G62⟩ := id V_pa
                have hin62 : ¬ ((1 : Int32) < 0 ∨ cl62.slots.size ≤ ((1 : Int32)).toNatClampNeg) := inb_of S62 ⟨by decide, own_lt (by decide) hlt5⟩
                have hat62 : cl62.slots[((1 : Int32)).toNatClampNeg]? = some (.int c1) := Hs62.at hin62 rfl
                refine own_byW (T' := T16) (g' := (mkF m 51 #[.val (.ref pa), .val (.ref b4), .val (.int 1), .val (.int 5), .val (.int c5)] [(.int c1)])) (fun t k => X16.caload hx (j := (1 : Int32)) (v := (.int c1)) (by rw [e16]; exact Ar62.1) (State.isArrayOf_alike hZ.alike Ar62.2.1) Ar62.2.2 hin62 hat62 (g := (mkF m 50 #[.val (.ref pa), .val (.ref b4), .val (.int 1), .val (.int 5), .val (.int c5)] [(.int 1), (.ref pa)])) rfl rfl (hb hby d1_50) _ k) ?_
                clear hat62 hin62 G62 Hs62 N62 S62 q62 Ar62 cl62
                refine own_byW (T' := T16) (g' := (mkF m 53 #[.val (.ref pa), .val (.ref b4), .val (.int 1), .val (.int 5), .val (.int c5)] [(.int c5), (.int c1)])) (fun t k => XS.iload X16.here hx rfl (hb hby d1_51) rfl k) ?_
                refine own_byW (T' := T16) (g' := (mkF m 56 #[.val (.ref pa), .val (.ref b4), .val (.int 1), .val (.int 5), .val (.int c5)] [])) (fun t k => XS.icmpNo X16.here hx rfl (hb hby d1_53) rfl (teq hc36_61).2 k) ?_
                refine own_byW (T' := T16) (g' := (mkF m 59 #[.val (.ref pa), .val (.ref b4), .val (.int 2), .val (.int 5), .val (.int c5)] [])) (fun t k => XS.iinc X16.here hx rfl (hb hby d1_56) rfl (l' := #[.val (.ref pa), .val (.ref b4), .val (.int 2), .val (.int 5), .val (.int c5)]) rfl k) ?_
                exact own_j5 l Z a0 hw hx hby hml hlk hret pa nn kp c0 c1 c2 c3 c4 c5 h0 n0 hn0 hn6 hn7 b4 k4 1 2 t3 3 _ hS hZ hown (X16) e16 V_pa Zle N_ K_ hk_ ne_pa_b4 g_b4 sz_b4 V_b4 (Or.inr <| ⟨rfl, f1⟩) (Or.inr <| Or.inr <| ⟨rfl, f2⟩) HB3 (Or.inr <| Or.inr <| Or.inr <| Or.inl ⟨rfl, f4⟩) (own_leaf5_20 c0 c1 c2 c3 c4 c5 f4 f2 f1 hc36_43 hc36_55 hc36_61) hlt5
              · refine own_byW (T' := T16) (g' := (mkF m 39 #[.val (.ref pa), .val (.ref b4), .val (.int 1), .val (.int 5), .val (.int c5)] [])) (fun t k => XS.icmpNo X16.here hx rfl (hb hby d1_36) rfl (feq hc36_61).1 k) ?_
                refine own_byW (T' := T16) (g' := (mkF m 40 #[.val (.ref pa), .val (.ref b4), .val (.int 1), .val (.int 5), .val (.int c5)] [(.ref b4)])) (fun t k => XS.aloadN X16.here hx rfl (hb hby d1_39) rfl rfl k) ?_
                refine own_byW (T' := T16) (g' := (mkF m 41 #[.val (.ref pa), .val (.ref b4), .val (.int 1), .val (.int 5), .val (.int c5)] [(.int 1), (.ref b4)])) (fun t k => XS.iloadN X16.here hx rfl (hb hby d1_40) rfl k) ?_
                refine own_byW (T' := T16) (g' := (mkF m 42 #[.val (.ref pa), .val (.ref b4), .val (.int 1), .val (.int 5), .val (.int c5)] [(.int 1), (.int 1), (.ref b4)])) (fun t k => XS.iconst X16.here hx rfl (hb hby d1_41) k) ?_
                refine own_byW (T' := T16) (g' := (mkF m 43 #[.val (.ref pa), .val (.ref b4), .val (.int 1), .val (.int 5), .val (.int c5)] [(.int 0), (.ref b4)])) (fun t k => XS.isub X16.here hx rfl (hb hby d1_42) rfl k) ?_
                obtain ⟨cl63, Ar63, q63, S63, N63, Hs63, G63⟩ := id V_b4
                have hin63 : ¬ ((0 : Int32) < 0 ∨ cl63.slots.size ≤ ((0 : Int32)).toNatClampNeg) := inb_of S63 ⟨by decide, own_lt (by decide) hlt5⟩
                have hat63 : cl63.slots[((0 : Int32)).toNatClampNeg]? = some (.int 0) := Hs63.at hin63 rfl
                refine own_byW (T' := T16) (g' := (mkF m 44 #[.val (.ref pa), .val (.ref b4), .val (.int 1), .val (.int 5), .val (.int c5)] [(.int 0)])) (fun t k => X16.iaload hx (j := (0 : Int32)) (v := (.int 0)) (by rw [e16]; exact Ar63.1) (State.isArrayOf_alike hZ.alike Ar63.2.1) Ar63.2.2 hin63 hat63 (g := (mkF m 43 #[.val (.ref pa), .val (.ref b4), .val (.int 1), .val (.int 5), .val (.int c5)] [(.int 0), (.ref b4)])) rfl rfl (hb hby d1_43) _ k) ?_
                clear hat63 hin63 G63 Hs63 N63 S63 q63 Ar63 cl63
                refine own_byW (T' := T16) (g' := (mkF m 45 #[.val (.ref pa), .val (.ref b4), .val (.int 0), .val (.int 5), .val (.int c5)] [])) (fun t k => XS.istoreN X16.here hx rfl (hb hby d1_44) rfl (l' := #[.val (.ref pa), .val (.ref b4), .val (.int 0), .val (.int 5), .val (.int c5)]) rfl k) ?_
                refine own_byW (T' := T16) (g' := (mkF m 27 #[.val (.ref pa), .val (.ref b4), .val (.int 0), .val (.int 5), .val (.int c5)] [])) (fun t k => XS.goto X16.here hx rfl (pc0 := 45) (pc' := 27) rfl (hb hby d1_45) (by decide) (by decide) k) ?_
                refine own_byW (T' := T16) (g' := (mkF m 28 #[.val (.ref pa), .val (.ref b4), .val (.int 0), .val (.int 5), .val (.int c5)] [(.int 0)])) (fun t k => XS.iloadN X16.here hx rfl (hb hby d1_27) rfl k) ?_
                refine own_byW (T' := T16) (g' := (mkF m 48 #[.val (.ref pa), .val (.ref b4), .val (.int 0), .val (.int 5), .val (.int c5)] [])) (fun t k => XS.ifYes X16.here hx rfl (pc0 := 28) (pc' := 48) rfl (hb hby d1_28) rfl ((if0 _ _).trans (flt (by decide)).2.2.2) (by decide) (by decide) k) ?_
                refine own_byW (T' := T16) (g' := (mkF m 49 #[.val (.ref pa), .val (.ref b4), .val (.int 0), .val (.int 5), .val (.int c5)] [(.ref pa)])) (fun t k => XS.aloadN X16.here hx rfl (hb hby d1_48) rfl rfl k) ?_
                refine own_byW (T' := T16) (g' := (mkF m 50 #[.val (.ref pa), .val (.ref b4), .val (.int 0), .val (.int 5), .val (.int c5)] [(.int 0), (.ref pa)])) (fun t k => XS.iloadN X16.here hx rfl (hb hby d1_49) rfl k) ?_
                obtain ⟨cl64, Ar64, q64, S64, N64, Hs64, G64⟩ := id V_pa
                have hin64 : ¬ ((0 : Int32) < 0 ∨ cl64.slots.size ≤ ((0 : Int32)).toNatClampNeg) := inb_of S64 ⟨by decide, own_lt (by decide) hlt5⟩
                have hat64 : cl64.slots[((0 : Int32)).toNatClampNeg]? = some (.int c0) := Hs64.at hin64 rfl
                refine own_byW (T' := T16) (g' := (mkF m 51 #[.val (.ref pa), .val (.ref b4), .val (.int 0), .val (.int 5), .val (.int c5)] [(.int c0)])) (fun t k => X16.caload hx (j := (0 : Int32)) (v := (.int c0)) (by rw [e16]; exact Ar64.1) (State.isArrayOf_alike hZ.alike Ar64.2.1) Ar64.2.2 hin64 hat64 (g := (mkF m 50 #[.val (.ref pa), .val (.ref b4), .val (.int 0), .val (.int 5), .val (.int c5)] [(.int 0), (.ref pa)])) rfl rfl (hb hby d1_50) _ k) ?_
                clear hat64 hin64 G64 Hs64 N64 S64 q64 Ar64 cl64
                refine own_byW (T' := T16) (g' := (mkF m 53 #[.val (.ref pa), .val (.ref b4), .val (.int 0), .val (.int 5), .val (.int c5)] [(.int c5), (.int c0)])) (fun t k => XS.iload X16.here hx rfl (hb hby d1_51) rfl k) ?_
                by_cases hc53_65 : c0 = c5
                · refine own_byW (T' := T16) (g' := (mkF m 56 #[.val (.ref pa), .val (.ref b4), .val (.int 0), .val (.int 5), .val (.int c5)] [])) (fun t k => XS.icmpNo X16.here hx rfl (hb hby d1_53) rfl (teq hc53_65).2 k) ?_
                  refine own_byW (T' := T16) (g' := (mkF m 59 #[.val (.ref pa), .val (.ref b4), .val (.int 1), .val (.int 5), .val (.int c5)] [])) (fun t k => XS.iinc X16.here hx rfl (hb hby d1_56) rfl (l' := #[.val (.ref pa), .val (.ref b4), .val (.int 1), .val (.int 5), .val (.int c5)]) rfl k) ?_
                  exact own_j5 l Z a0 hw hx hby hml hlk hret pa nn kp c0 c1 c2 c3 c4 c5 h0 n0 hn0 hn6 hn7 b4 k4 1 2 t3 3 _ hS hZ hown (X16) e16 V_pa Zle N_ K_ hk_ ne_pa_b4 g_b4 sz_b4 V_b4 (Or.inr <| ⟨rfl, f1⟩) (Or.inr <| Or.inr <| ⟨rfl, f2⟩) HB3 (Or.inr <| Or.inr <| Or.inr <| Or.inl ⟨rfl, f4⟩) (own_leaf5_21 c0 c1 c2 c3 c4 c5 f4 f2 f1 hc36_43 hc36_55 hc36_61 hc53_65) hlt5
                · refine own_byW (T' := T16) (g' := (mkF m 59 #[.val (.ref pa), .val (.ref b4), .val (.int 0), .val (.int 5), .val (.int c5)] [])) (fun t k => XS.icmpYes X16.here hx rfl (pc0 := 53) (pc' := 59) rfl (hb hby d1_53) rfl (feq hc53_65).2 (by decide) (by decide) k) ?_
                  exact own_j5 l Z a0 hw hx hby hml hlk hret pa nn kp c0 c1 c2 c3 c4 c5 h0 n0 hn0 hn6 hn7 b4 k4 1 2 t3 3 _ hS hZ hown (X16) e16 V_pa Zle N_ K_ hk_ ne_pa_b4 g_b4 sz_b4 V_b4 (Or.inr <| ⟨rfl, f1⟩) (Or.inr <| Or.inr <| ⟨rfl, f2⟩) HB3 (Or.inr <| Or.inr <| Or.inr <| Or.inl ⟨rfl, f4⟩) (own_leaf5_22 c0 c1 c2 c3 c4 c5 f4 f2 f1 hc36_43 hc36_55 hc36_61 hc53_65) hlt5
    · refine own_byW (T' := T16) (g' := (mkF m 28 #[.val (.ref pa), .val (.ref b4), .val (.int 4), .val (.int 5), .val (.int c5)] [(.int 4)])) (fun t k => XS.iloadN X16.here hx rfl (hb hby d1_27) rfl k) ?_
      refine own_byW (T' := T16) (g' := (mkF m 31 #[.val (.ref pa), .val (.ref b4), .val (.int 4), .val (.int 5), .val (.int c5)] [])) (fun t k => XS.ifNo X16.here hx rfl (hb hby d1_28) rfl ((if0 _ _).trans (tlt (by decide)).2.2.2) k) ?_
      refine own_byW (T' := T16) (g' := (mkF m 32 #[.val (.ref pa), .val (.ref b4), .val (.int 4), .val (.int 5), .val (.int c5)] [(.ref pa)])) (fun t k => XS.aloadN X16.here hx rfl (hb hby d1_31) rfl rfl k) ?_
      refine own_byW (T' := T16) (g' := (mkF m 33 #[.val (.ref pa), .val (.ref b4), .val (.int 4), .val (.int 5), .val (.int c5)] [(.int 4), (.ref pa)])) (fun t k => XS.iloadN X16.here hx rfl (hb hby d1_32) rfl k) ?_
      obtain ⟨cl66, Ar66, q66, S66, N66, Hs66, G66⟩ := id V_pa
      have hin66 : ¬ ((4 : Int32) < 0 ∨ cl66.slots.size ≤ ((4 : Int32)).toNatClampNeg) := inb_of S66 ⟨by decide, own_lt (by decide) hlt5⟩
      have hat66 : cl66.slots[((4 : Int32)).toNatClampNeg]? = some (.int c4) := Hs66.at hin66 rfl
      refine own_byW (T' := T16) (g' := (mkF m 34 #[.val (.ref pa), .val (.ref b4), .val (.int 4), .val (.int 5), .val (.int c5)] [(.int c4)])) (fun t k => X16.caload hx (j := (4 : Int32)) (v := (.int c4)) (by rw [e16]; exact Ar66.1) (State.isArrayOf_alike hZ.alike Ar66.2.1) Ar66.2.2 hin66 hat66 (g := (mkF m 33 #[.val (.ref pa), .val (.ref b4), .val (.int 4), .val (.int 5), .val (.int c5)] [(.int 4), (.ref pa)])) rfl rfl (hb hby d1_33) _ k) ?_
      clear hat66 hin66 G66 Hs66 N66 S66 q66 Ar66 cl66
      refine own_byW (T' := T16) (g' := (mkF m 36 #[.val (.ref pa), .val (.ref b4), .val (.int 4), .val (.int 5), .val (.int c5)] [(.int c5), (.int c4)])) (fun t k => XS.iload X16.here hx rfl (hb hby d1_34) rfl k) ?_
      by_cases hc36_67 : c4 = c5
      · refine own_byW (T' := T16) (g' := (mkF m 48 #[.val (.ref pa), .val (.ref b4), .val (.int 4), .val (.int 5), .val (.int c5)] [])) (fun t k => XS.icmpYes X16.here hx rfl (pc0 := 36) (pc' := 48) rfl (hb hby d1_36) rfl (teq hc36_67).1 (by decide) (by decide) k) ?_
        refine own_byW (T' := T16) (g' := (mkF m 49 #[.val (.ref pa), .val (.ref b4), .val (.int 4), .val (.int 5), .val (.int c5)] [(.ref pa)])) (fun t k => XS.aloadN X16.here hx rfl (hb hby d1_48) rfl rfl k) ?_
        refine own_byW (T' := T16) (g' := (mkF m 50 #[.val (.ref pa), .val (.ref b4), .val (.int 4), .val (.int 5), .val (.int c5)] [(.int 4), (.ref pa)])) (fun t k => XS.iloadN X16.here hx rfl (hb hby d1_49) rfl k) ?_
        obtain ⟨cl68, Ar68, q68, S68, N68, Hs68, G68⟩ := id V_pa
        have hin68 : ¬ ((4 : Int32) < 0 ∨ cl68.slots.size ≤ ((4 : Int32)).toNatClampNeg) := inb_of S68 ⟨by decide, own_lt (by decide) hlt5⟩
        have hat68 : cl68.slots[((4 : Int32)).toNatClampNeg]? = some (.int c4) := Hs68.at hin68 rfl
        refine own_byW (T' := T16) (g' := (mkF m 51 #[.val (.ref pa), .val (.ref b4), .val (.int 4), .val (.int 5), .val (.int c5)] [(.int c4)])) (fun t k => X16.caload hx (j := (4 : Int32)) (v := (.int c4)) (by rw [e16]; exact Ar68.1) (State.isArrayOf_alike hZ.alike Ar68.2.1) Ar68.2.2 hin68 hat68 (g := (mkF m 50 #[.val (.ref pa), .val (.ref b4), .val (.int 4), .val (.int 5), .val (.int c5)] [(.int 4), (.ref pa)])) rfl rfl (hb hby d1_50) _ k) ?_
        clear hat68 hin68 G68 Hs68 N68 S68 q68 Ar68 cl68
        refine own_byW (T' := T16) (g' := (mkF m 53 #[.val (.ref pa), .val (.ref b4), .val (.int 4), .val (.int 5), .val (.int c5)] [(.int c5), (.int c4)])) (fun t k => XS.iload X16.here hx rfl (hb hby d1_51) rfl k) ?_
        refine own_byW (T' := T16) (g' := (mkF m 56 #[.val (.ref pa), .val (.ref b4), .val (.int 4), .val (.int 5), .val (.int c5)] [])) (fun t k => XS.icmpNo X16.here hx rfl (hb hby d1_53) rfl (teq hc36_67).2 k) ?_
        refine own_byW (T' := T16) (g' := (mkF m 59 #[.val (.ref pa), .val (.ref b4), .val (.int 5), .val (.int 5), .val (.int c5)] [])) (fun t k => XS.iinc X16.here hx rfl (hb hby d1_56) rfl (l' := #[.val (.ref pa), .val (.ref b4), .val (.int 5), .val (.int 5), .val (.int c5)]) rfl k) ?_
        exact own_j5 l Z a0 hw hx hby hml hlk hret pa nn kp c0 c1 c2 c3 c4 c5 h0 n0 hn0 hn6 hn7 b4 k4 t1 t2 t3 4 _ hS hZ hown (X16) e16 V_pa Zle N_ K_ hk_ ne_pa_b4 g_b4 sz_b4 V_b4 HB1 HB2 HB3 (Or.inr <| Or.inr <| Or.inr <| Or.inr <| ⟨rfl, f4⟩) (own_leaf5_23 c0 c1 c2 c3 c4 c5 f4 hc36_67) hlt5
      · refine own_byW (T' := T16) (g' := (mkF m 39 #[.val (.ref pa), .val (.ref b4), .val (.int 4), .val (.int 5), .val (.int c5)] [])) (fun t k => XS.icmpNo X16.here hx rfl (hb hby d1_36) rfl (feq hc36_67).1 k) ?_
        refine own_byW (T' := T16) (g' := (mkF m 40 #[.val (.ref pa), .val (.ref b4), .val (.int 4), .val (.int 5), .val (.int c5)] [(.ref b4)])) (fun t k => XS.aloadN X16.here hx rfl (hb hby d1_39) rfl rfl k) ?_
        refine own_byW (T' := T16) (g' := (mkF m 41 #[.val (.ref pa), .val (.ref b4), .val (.int 4), .val (.int 5), .val (.int c5)] [(.int 4), (.ref b4)])) (fun t k => XS.iloadN X16.here hx rfl (hb hby d1_40) rfl k) ?_
        refine own_byW (T' := T16) (g' := (mkF m 42 #[.val (.ref pa), .val (.ref b4), .val (.int 4), .val (.int 5), .val (.int c5)] [(.int 1), (.int 4), (.ref b4)])) (fun t k => XS.iconst X16.here hx rfl (hb hby d1_41) k) ?_
        refine own_byW (T' := T16) (g' := (mkF m 43 #[.val (.ref pa), .val (.ref b4), .val (.int 4), .val (.int 5), .val (.int c5)] [(.int 3), (.ref b4)])) (fun t k => XS.isub X16.here hx rfl (hb hby d1_42) rfl k) ?_
        obtain ⟨cl69, Ar69, q69, S69, N69, Hs69, G69⟩ := id V_b4
        have hin69 : ¬ ((3 : Int32) < 0 ∨ cl69.slots.size ≤ ((3 : Int32)).toNatClampNeg) := inb_of S69 ⟨by decide, own_lt (by decide) hlt5⟩
        have hat69 : cl69.slots[((3 : Int32)).toNatClampNeg]? = some (.int t3) := Hs69.at hin69 rfl
        refine own_byW (T' := T16) (g' := (mkF m 44 #[.val (.ref pa), .val (.ref b4), .val (.int 4), .val (.int 5), .val (.int c5)] [(.int t3)])) (fun t k => X16.iaload hx (j := (3 : Int32)) (v := (.int t3)) (by rw [e16]; exact Ar69.1) (State.isArrayOf_alike hZ.alike Ar69.2.1) Ar69.2.2 hin69 hat69 (g := (mkF m 43 #[.val (.ref pa), .val (.ref b4), .val (.int 4), .val (.int 5), .val (.int c5)] [(.int 3), (.ref b4)])) rfl rfl (hb hby d1_43) _ k) ?_
        clear hat69 hin69 G69 Hs69 N69 S69 q69 Ar69 cl69
        refine own_byW (T' := T16) (g' := (mkF m 45 #[.val (.ref pa), .val (.ref b4), .val (.int t3), .val (.int 5), .val (.int c5)] [])) (fun t k => XS.istoreN X16.here hx rfl (hb hby d1_44) rfl (l' := #[.val (.ref pa), .val (.ref b4), .val (.int t3), .val (.int 5), .val (.int c5)]) rfl k) ?_
        refine own_byW (T' := T16) (g' := (mkF m 27 #[.val (.ref pa), .val (.ref b4), .val (.int t3), .val (.int 5), .val (.int c5)] [])) (fun t k => XS.goto X16.here hx rfl (pc0 := 45) (pc' := 27) rfl (hb hby d1_45) (by decide) (by decide) k) ?_
        rcases HB3 with ⟨rfl, f3⟩ | ⟨rfl, f3⟩ | ⟨rfl, f3⟩ | ⟨rfl, f3⟩
        · refine own_byW (T' := T16) (g' := (mkF m 28 #[.val (.ref pa), .val (.ref b4), .val (.int 0), .val (.int 5), .val (.int c5)] [(.int 0)])) (fun t k => XS.iloadN X16.here hx rfl (hb hby d1_27) rfl k) ?_
          refine own_byW (T' := T16) (g' := (mkF m 48 #[.val (.ref pa), .val (.ref b4), .val (.int 0), .val (.int 5), .val (.int c5)] [])) (fun t k => XS.ifYes X16.here hx rfl (pc0 := 28) (pc' := 48) rfl (hb hby d1_28) rfl ((if0 _ _).trans (flt (by decide)).2.2.2) (by decide) (by decide) k) ?_
          refine own_byW (T' := T16) (g' := (mkF m 49 #[.val (.ref pa), .val (.ref b4), .val (.int 0), .val (.int 5), .val (.int c5)] [(.ref pa)])) (fun t k => XS.aloadN X16.here hx rfl (hb hby d1_48) rfl rfl k) ?_
          refine own_byW (T' := T16) (g' := (mkF m 50 #[.val (.ref pa), .val (.ref b4), .val (.int 0), .val (.int 5), .val (.int c5)] [(.int 0), (.ref pa)])) (fun t k => XS.iloadN X16.here hx rfl (hb hby d1_49) rfl k) ?_
          obtain ⟨cl70, Ar70, q70, S70, N70, Hs70, G70⟩ := id V_pa
          have hin70 : ¬ ((0 : Int32) < 0 ∨ cl70.slots.size ≤ ((0 : Int32)).toNatClampNeg) := inb_of S70 ⟨by decide, own_lt (by decide) hlt5⟩
          have hat70 : cl70.slots[((0 : Int32)).toNatClampNeg]? = some (.int c0) := Hs70.at hin70 rfl
          refine own_byW (T' := T16) (g' := (mkF m 51 #[.val (.ref pa), .val (.ref b4), .val (.int 0), .val (.int 5), .val (.int c5)] [(.int c0)])) (fun t k => X16.caload hx (j := (0 : Int32)) (v := (.int c0)) (by rw [e16]; exact Ar70.1) (State.isArrayOf_alike hZ.alike Ar70.2.1) Ar70.2.2 hin70 hat70 (g := (mkF m 50 #[.val (.ref pa), .val (.ref b4), .val (.int 0), .val (.int 5), .val (.int c5)] [(.int 0), (.ref pa)])) rfl rfl (hb hby d1_50) _ k) ?_
          clear hat70 hin70 G70 Hs70 N70 S70 q70 Ar70 cl70
          refine own_byW (T' := T16) (g' := (mkF m 53 #[.val (.ref pa), .val (.ref b4), .val (.int 0), .val (.int 5), .val (.int c5)] [(.int c5), (.int c0)])) (fun t k => XS.iload X16.here hx rfl (hb hby d1_51) rfl k) ?_
          by_cases hc53_71 : c0 = c5
          · refine own_byW (T' := T16) (g' := (mkF m 56 #[.val (.ref pa), .val (.ref b4), .val (.int 0), .val (.int 5), .val (.int c5)] [])) (fun t k => XS.icmpNo X16.here hx rfl (hb hby d1_53) rfl (teq hc53_71).2 k) ?_
            refine own_byW (T' := T16) (g' := (mkF m 59 #[.val (.ref pa), .val (.ref b4), .val (.int 1), .val (.int 5), .val (.int c5)] [])) (fun t k => XS.iinc X16.here hx rfl (hb hby d1_56) rfl (l' := #[.val (.ref pa), .val (.ref b4), .val (.int 1), .val (.int 5), .val (.int c5)]) rfl k) ?_
            exact own_j5 l Z a0 hw hx hby hml hlk hret pa nn kp c0 c1 c2 c3 c4 c5 h0 n0 hn0 hn6 hn7 b4 k4 t1 t2 0 4 _ hS hZ hown (X16) e16 V_pa Zle N_ K_ hk_ ne_pa_b4 g_b4 sz_b4 V_b4 HB1 HB2 (Or.inl ⟨rfl, f3⟩) (Or.inr <| Or.inr <| Or.inr <| Or.inr <| ⟨rfl, f4⟩) (own_leaf5_24 c0 c1 c2 c3 c4 c5 f4 f3 hc36_67 hc53_71) hlt5
          · refine own_byW (T' := T16) (g' := (mkF m 59 #[.val (.ref pa), .val (.ref b4), .val (.int 0), .val (.int 5), .val (.int c5)] [])) (fun t k => XS.icmpYes X16.here hx rfl (pc0 := 53) (pc' := 59) rfl (hb hby d1_53) rfl (feq hc53_71).2 (by decide) (by decide) k) ?_
            exact own_j5 l Z a0 hw hx hby hml hlk hret pa nn kp c0 c1 c2 c3 c4 c5 h0 n0 hn0 hn6 hn7 b4 k4 t1 t2 0 4 _ hS hZ hown (X16) e16 V_pa Zle N_ K_ hk_ ne_pa_b4 g_b4 sz_b4 V_b4 HB1 HB2 (Or.inl ⟨rfl, f3⟩) (Or.inr <| Or.inr <| Or.inr <| Or.inr <| ⟨rfl, f4⟩) (own_leaf5_25 c0 c1 c2 c3 c4 c5 f4 f3 hc36_67 hc53_71) hlt5
        · refine own_byW (T' := T16) (g' := (mkF m 28 #[.val (.ref pa), .val (.ref b4), .val (.int 1), .val (.int 5), .val (.int c5)] [(.int 1)])) (fun t k => XS.iloadN X16.here hx rfl (hb hby d1_27) rfl k) ?_
          refine own_byW (T' := T16) (g' := (mkF m 31 #[.val (.ref pa), .val (.ref b4), .val (.int 1), .val (.int 5), .val (.int c5)] [])) (fun t k => XS.ifNo X16.here hx rfl (hb hby d1_28) rfl ((if0 _ _).trans (tlt (by decide)).2.2.2) k) ?_
          refine own_byW (T' := T16) (g' := (mkF m 32 #[.val (.ref pa), .val (.ref b4), .val (.int 1), .val (.int 5), .val (.int c5)] [(.ref pa)])) (fun t k => XS.aloadN X16.here hx rfl (hb hby d1_31) rfl rfl k) ?_
          refine own_byW (T' := T16) (g' := (mkF m 33 #[.val (.ref pa), .val (.ref b4), .val (.int 1), .val (.int 5), .val (.int c5)] [(.int 1), (.ref pa)])) (fun t k => XS.iloadN X16.here hx rfl (hb hby d1_32) rfl k) ?_
          obtain ⟨cl72, Ar72, q72, S72, N72, Hs72, G72⟩ := id V_pa
          have hin72 : ¬ ((1 : Int32) < 0 ∨ cl72.slots.size ≤ ((1 : Int32)).toNatClampNeg) := inb_of S72 ⟨by decide, own_lt (by decide) hlt5⟩
          have hat72 : cl72.slots[((1 : Int32)).toNatClampNeg]? = some (.int c1) := Hs72.at hin72 rfl
          refine own_byW (T' := T16) (g' := (mkF m 34 #[.val (.ref pa), .val (.ref b4), .val (.int 1), .val (.int 5), .val (.int c5)] [(.int c1)])) (fun t k => X16.caload hx (j := (1 : Int32)) (v := (.int c1)) (by rw [e16]; exact Ar72.1) (State.isArrayOf_alike hZ.alike Ar72.2.1) Ar72.2.2 hin72 hat72 (g := (mkF m 33 #[.val (.ref pa), .val (.ref b4), .val (.int 1), .val (.int 5), .val (.int c5)] [(.int 1), (.ref pa)])) rfl rfl (hb hby d1_33) _ k) ?_
          clear hat72 hin72 G72 Hs72 N72 S72 q72 Ar72 cl72
          refine own_byW (T' := T16) (g' := (mkF m 36 #[.val (.ref pa), .val (.ref b4), .val (.int 1), .val (.int 5), .val (.int c5)] [(.int c5), (.int c1)])) (fun t k => XS.iload X16.here hx rfl (hb hby d1_34) rfl k) ?_
          by_cases hc36_73 : c1 = c5
          · refine own_byW (T' := T16) (g' := (mkF m 48 #[.val (.ref pa), .val (.ref b4), .val (.int 1), .val (.int 5), .val (.int c5)] [])) (fun t k => XS.icmpYes X16.here hx rfl (pc0 := 36) (pc' := 48) rfl (hb hby d1_36) rfl (teq hc36_73).1 (by decide) (by decide) k) ?_
            refine own_byW (T' := T16) (g' := (mkF m 49 #[.val (.ref pa), .val (.ref b4), .val (.int 1), .val (.int 5), .val (.int c5)] [(.ref pa)])) (fun t k => XS.aloadN X16.here hx rfl (hb hby d1_48) rfl rfl k) ?_
            refine own_byW (T' := T16) (g' := (mkF m 50 #[.val (.ref pa), .val (.ref b4), .val (.int 1), .val (.int 5), .val (.int c5)] [(.int 1), (.ref pa)])) (fun t k => XS.iloadN X16.here hx rfl (hb hby d1_49) rfl k) ?_
            obtain ⟨cl74, Ar74, q74, S74, N74, Hs74, G74⟩ := id V_pa
            have hin74 : ¬ ((1 : Int32) < 0 ∨ cl74.slots.size ≤ ((1 : Int32)).toNatClampNeg) := inb_of S74 ⟨by decide, own_lt (by decide) hlt5⟩
            have hat74 : cl74.slots[((1 : Int32)).toNatClampNeg]? = some (.int c1) := Hs74.at hin74 rfl
            refine own_byW (T' := T16) (g' := (mkF m 51 #[.val (.ref pa), .val (.ref b4), .val (.int 1), .val (.int 5), .val (.int c5)] [(.int c1)])) (fun t k => X16.caload hx (j := (1 : Int32)) (v := (.int c1)) (by rw [e16]; exact Ar74.1) (State.isArrayOf_alike hZ.alike Ar74.2.1) Ar74.2.2 hin74 hat74 (g := (mkF m 50 #[.val (.ref pa), .val (.ref b4), .val (.int 1), .val (.int 5), .val (.int c5)] [(.int 1), (.ref pa)])) rfl rfl (hb hby d1_50) _ k) ?_
            clear hat74 hin74 G74 Hs74 N74 S74 q74 Ar74 cl74
            refine own_byW (T' := T16) (g' := (mkF m 53 #[.val (.ref pa), .val (.ref b4), .val (.int 1), .val (.int 5), .val (.int c5)] [(.int c5), (.int c1)])) (fun t k => XS.iload X16.here hx rfl (hb hby d1_51) rfl k) ?_
            refine own_byW (T' := T16) (g' := (mkF m 56 #[.val (.ref pa), .val (.ref b4), .val (.int 1), .val (.int 5), .val (.int c5)] [])) (fun t k => XS.icmpNo X16.here hx rfl (hb hby d1_53) rfl (teq hc36_73).2 k) ?_
            refine own_byW (T' := T16) (g' := (mkF m 59 #[.val (.ref pa), .val (.ref b4), .val (.int 2), .val (.int 5), .val (.int c5)] [])) (fun t k => XS.iinc X16.here hx rfl (hb hby d1_56) rfl (l' := #[.val (.ref pa), .val (.ref b4), .val (.int 2), .val (.int 5), .val (.int c5)]) rfl k) ?_
            exact own_j5 l Z a0 hw hx hby hml hlk hret pa nn kp c0 c1 c2 c3 c4 c5 h0 n0 hn0 hn6 hn7 b4 k4 t1 t2 1 4 _ hS hZ hown (X16) e16 V_pa Zle N_ K_ hk_ ne_pa_b4 g_b4 sz_b4 V_b4 HB1 HB2 (Or.inr <| Or.inl ⟨rfl, f3⟩) (Or.inr <| Or.inr <| Or.inr <| Or.inr <| ⟨rfl, f4⟩) (own_leaf5_26 c0 c1 c2 c3 c4 c5 f4 f3 hc36_67 hc36_73) hlt5
          · refine own_byW (T' := T16) (g' := (mkF m 39 #[.val (.ref pa), .val (.ref b4), .val (.int 1), .val (.int 5), .val (.int c5)] [])) (fun t k => XS.icmpNo X16.here hx rfl (hb hby d1_36) rfl (feq hc36_73).1 k) ?_
            refine own_byW (T' := T16) (g' := (mkF m 40 #[.val (.ref pa), .val (.ref b4), .val (.int 1), .val (.int 5), .val (.int c5)] [(.ref b4)])) (fun t k => XS.aloadN X16.here hx rfl (hb hby d1_39) rfl rfl k) ?_
            refine own_byW (T' := T16) (g' := (mkF m 41 #[.val (.ref pa), .val (.ref b4), .val (.int 1), .val (.int 5), .val (.int c5)] [(.int 1), (.ref b4)])) (fun t k => XS.iloadN X16.here hx rfl (hb hby d1_40) rfl k) ?_
            refine own_byW (T' := T16) (g' := (mkF m 42 #[.val (.ref pa), .val (.ref b4), .val (.int 1), .val (.int 5), .val (.int c5)] [(.int 1), (.int 1), (.ref b4)])) (fun t k => XS.iconst X16.here hx rfl (hb hby d1_41) k) ?_
            refine own_byW (T' := T16) (g' := (mkF m 43 #[.val (.ref pa), .val (.ref b4), .val (.int 1), .val (.int 5), .val (.int c5)] [(.int 0), (.ref b4)])) (fun t k => XS.isub X16.here hx rfl (hb hby d1_42) rfl k) ?_
            obtain ⟨cl75, Ar75, q75, S75, N75, Hs75, G75⟩ := id V_b4
            have hin75 : ¬ ((0 : Int32) < 0 ∨ cl75.slots.size ≤ ((0 : Int32)).toNatClampNeg) := inb_of S75 ⟨by decide, own_lt (by decide) hlt5⟩
            have hat75 : cl75.slots[((0 : Int32)).toNatClampNeg]? = some (.int 0) := Hs75.at hin75 rfl
            refine own_byW (T' := T16) (g' := (mkF m 44 #[.val (.ref pa), .val (.ref b4), .val (.int 1), .val (.int 5), .val (.int c5)] [(.int 0)])) (fun t k => X16.iaload hx (j := (0 : Int32)) (v := (.int 0)) (by rw [e16]; exact Ar75.1) (State.isArrayOf_alike hZ.alike Ar75.2.1) Ar75.2.2 hin75 hat75 (g := (mkF m 43 #[.val (.ref pa), .val (.ref b4), .val (.int 1), .val (.int 5), .val (.int c5)] [(.int 0), (.ref b4)])) rfl rfl (hb hby d1_43) _ k) ?_
            clear hat75 hin75 G75 Hs75 N75 S75 q75 Ar75 cl75
            refine own_byW (T' := T16) (g' := (mkF m 45 #[.val (.ref pa), .val (.ref b4), .val (.int 0), .val (.int 5), .val (.int c5)] [])) (fun t k => XS.istoreN X16.here hx rfl (hb hby d1_44) rfl (l' := #[.val (.ref pa), .val (.ref b4), .val (.int 0), .val (.int 5), .val (.int c5)]) rfl k) ?_
            refine own_byW (T' := T16) (g' := (mkF m 27 #[.val (.ref pa), .val (.ref b4), .val (.int 0), .val (.int 5), .val (.int c5)] [])) (fun t k => XS.goto X16.here hx rfl (pc0 := 45) (pc' := 27) rfl (hb hby d1_45) (by decide) (by decide) k) ?_
            refine own_byW (T' := T16) (g' := (mkF m 28 #[.val (.ref pa), .val (.ref b4), .val (.int 0), .val (.int 5), .val (.int c5)] [(.int 0)])) (fun t k => XS.iloadN X16.here hx rfl (hb hby d1_27) rfl k) ?_
            refine own_byW (T' := T16) (g' := (mkF m 48 #[.val (.ref pa), .val (.ref b4), .val (.int 0), .val (.int 5), .val (.int c5)] [])) (fun t k => XS.ifYes X16.here hx rfl (pc0 := 28) (pc' := 48) rfl (hb hby d1_28) rfl ((if0 _ _).trans (flt (by decide)).2.2.2) (by decide) (by decide) k) ?_
            refine own_byW (T' := T16) (g' := (mkF m 49 #[.val (.ref pa), .val (.ref b4), .val (.int 0), .val (.int 5), .val (.int c5)] [(.ref pa)])) (fun t k => XS.aloadN X16.here hx rfl (hb hby d1_48) rfl rfl k) ?_
            refine own_byW (T' := T16) (g' := (mkF m 50 #[.val (.ref pa), .val (.ref b4), .val (.int 0), .val (.int 5), .val (.int c5)] [(.int 0), (.ref pa)])) (fun t k => XS.iloadN X16.here hx rfl (hb hby d1_49) rfl k) ?_
            obtain ⟨cl76, Ar76, q76, S76, N76, Hs76, G76⟩ := id V_pa
            have hin76 : ¬ ((0 : Int32) < 0 ∨ cl76.slots.size ≤ ((0 : Int32)).toNatClampNeg) := inb_of S76 ⟨by decide, own_lt (by decide) hlt5⟩
            have hat76 : cl76.slots[((0 : Int32)).toNatClampNeg]? = some (.int c0) := Hs76.at hin76 rfl
            refine own_byW (T' := T16) (g' := (mkF m 51 #[.val (.ref pa), .val (.ref b4), .val (.int 0), .val (.int 5), .val (.int c5)] [(.int c0)])) (fun t k => X16.caload hx (j := (0 : Int32)) (v := (.int c0)) (by rw [e16]; exact Ar76.1) (State.isArrayOf_alike hZ.alike Ar76.2.1) Ar76.2.2 hin76 hat76 (g := (mkF m 50 #[.val (.ref pa), .val (.ref b4), .val (.int 0), .val (.int 5), .val (.int c5)] [(.int 0), (.ref pa)])) rfl rfl (hb hby d1_50) _ k) ?_
            clear hat76 hin76 G76 Hs76 N76 S76 q76 Ar76 cl76
            refine own_byW (T' := T16) (g' := (mkF m 53 #[.val (.ref pa), .val (.ref b4), .val (.int 0), .val (.int 5), .val (.int c5)] [(.int c5), (.int c0)])) (fun t k => XS.iload X16.here hx rfl (hb hby d1_51) rfl k) ?_
            by_cases hc53_77 : c0 = c5
            · refine own_byW (T' := T16) (g' := (mkF m 56 #[.val (.ref pa), .val (.ref b4), .val (.int 0), .val (.int 5), .val (.int c5)] [])) (fun t k => XS.icmpNo X16.here hx rfl (hb hby d1_53) rfl (teq hc53_77).2 k) ?_
              refine own_byW (T' := T16) (g' := (mkF m 59 #[.val (.ref pa), .val (.ref b4), .val (.int 1), .val (.int 5), .val (.int c5)] [])) (fun t k => XS.iinc X16.here hx rfl (hb hby d1_56) rfl (l' := #[.val (.ref pa), .val (.ref b4), .val (.int 1), .val (.int 5), .val (.int c5)]) rfl k) ?_
              exact own_j5 l Z a0 hw hx hby hml hlk hret pa nn kp c0 c1 c2 c3 c4 c5 h0 n0 hn0 hn6 hn7 b4 k4 t1 t2 1 4 _ hS hZ hown (X16) e16 V_pa Zle N_ K_ hk_ ne_pa_b4 g_b4 sz_b4 V_b4 HB1 HB2 (Or.inr <| Or.inl ⟨rfl, f3⟩) (Or.inr <| Or.inr <| Or.inr <| Or.inr <| ⟨rfl, f4⟩) (own_leaf5_27 c0 c1 c2 c3 c4 c5 f4 f3 hc36_67 hc36_73 hc53_77) hlt5
            · refine own_byW (T' := T16) (g' := (mkF m 59 #[.val (.ref pa), .val (.ref b4), .val (.int 0), .val (.int 5), .val (.int c5)] [])) (fun t k => XS.icmpYes X16.here hx rfl (pc0 := 53) (pc' := 59) rfl (hb hby d1_53) rfl (feq hc53_77).2 (by decide) (by decide) k) ?_
              exact own_j5 l Z a0 hw hx hby hml hlk hret pa nn kp c0 c1 c2 c3 c4 c5 h0 n0 hn0 hn6 hn7 b4 k4 t1 t2 1 4 _ hS hZ hown (X16) e16 V_pa Zle N_ K_ hk_ ne_pa_b4 g_b4 sz_b4 V_b4 HB1 HB2 (Or.inr <| Or.inl ⟨rfl, f3⟩) (Or.inr <| Or.inr <| Or.inr <| Or.inr <| ⟨rfl, f4⟩) (own_leaf5_28 c0 c1 c2 c3 c4 c5 f4 f3 hc36_67 hc36_73 hc53_77) hlt5
        · refine own_byW (T' := T16) (g' := (mkF m 28 #[.val (.ref pa), .val (.ref b4), .val (.int 2), .val (.int 5), .val (.int c5)] [(.int 2)])) (fun t k => XS.iloadN X16.here hx rfl (hb hby d1_27) rfl k) ?_
          refine own_byW (T' := T16) (g' := (mkF m 31 #[.val (.ref pa), .val (.ref b4), .val (.int 2), .val (.int 5), .val (.int c5)] [])) (fun t k => XS.ifNo X16.here hx rfl (hb hby d1_28) rfl ((if0 _ _).trans (tlt (by decide)).2.2.2) k) ?_
          refine own_byW (T' := T16) (g' := (mkF m 32 #[.val (.ref pa), .val (.ref b4), .val (.int 2), .val (.int 5), .val (.int c5)] [(.ref pa)])) (fun t k => XS.aloadN X16.here hx rfl (hb hby d1_31) rfl rfl k) ?_
          refine own_byW (T' := T16) (g' := (mkF m 33 #[.val (.ref pa), .val (.ref b4), .val (.int 2), .val (.int 5), .val (.int c5)] [(.int 2), (.ref pa)])) (fun t k => XS.iloadN X16.here hx rfl (hb hby d1_32) rfl k) ?_
          obtain ⟨cl78, Ar78, q78, S78, N78, Hs78, G78⟩ := id V_pa
          have hin78 : ¬ ((2 : Int32) < 0 ∨ cl78.slots.size ≤ ((2 : Int32)).toNatClampNeg) := inb_of S78 ⟨by decide, own_lt (by decide) hlt5⟩
          have hat78 : cl78.slots[((2 : Int32)).toNatClampNeg]? = some (.int c2) := Hs78.at hin78 rfl
          refine own_byW (T' := T16) (g' := (mkF m 34 #[.val (.ref pa), .val (.ref b4), .val (.int 2), .val (.int 5), .val (.int c5)] [(.int c2)])) (fun t k => X16.caload hx (j := (2 : Int32)) (v := (.int c2)) (by rw [e16]; exact Ar78.1) (State.isArrayOf_alike hZ.alike Ar78.2.1) Ar78.2.2 hin78 hat78 (g := (mkF m 33 #[.val (.ref pa), .val (.ref b4), .val (.int 2), .val (.int 5), .val (.int c5)] [(.int 2), (.ref pa)])) rfl rfl (hb hby d1_33) _ k) ?_
          clear hat78 hin78 G78 Hs78 N78 S78 q78 Ar78 cl78
          refine own_byW (T' := T16) (g' := (mkF m 36 #[.val (.ref pa), .val (.ref b4), .val (.int 2), .val (.int 5), .val (.int c5)] [(.int c5), (.int c2)])) (fun t k => XS.iload X16.here hx rfl (hb hby d1_34) rfl k) ?_
          by_cases hc36_79 : c2 = c5
          · refine own_byW (T' := T16) (g' := (mkF m 48 #[.val (.ref pa), .val (.ref b4), .val (.int 2), .val (.int 5), .val (.int c5)] [])) (fun t k => XS.icmpYes X16.here hx rfl (pc0 := 36) (pc' := 48) rfl (hb hby d1_36) rfl (teq hc36_79).1 (by decide) (by decide) k) ?_
            refine own_byW (T' := T16) (g' := (mkF m 49 #[.val (.ref pa), .val (.ref b4), .val (.int 2), .val (.int 5), .val (.int c5)] [(.ref pa)])) (fun t k => XS.aloadN X16.here hx rfl (hb hby d1_48) rfl rfl k) ?_
            refine own_byW (T' := T16) (g' := (mkF m 50 #[.val (.ref pa), .val (.ref b4), .val (.int 2), .val (.int 5), .val (.int c5)] [(.int 2), (.ref pa)])) (fun t k => XS.iloadN X16.here hx rfl (hb hby d1_49) rfl k) ?_
            obtain ⟨cl80, Ar80, q80, S80, N80, Hs80, G80⟩ := id V_pa
            have hin80 : ¬ ((2 : Int32) < 0 ∨ cl80.slots.size ≤ ((2 : Int32)).toNatClampNeg) := inb_of S80 ⟨by decide, own_lt (by decide) hlt5⟩
            have hat80 : cl80.slots[((2 : Int32)).toNatClampNeg]? = some (.int c2) := Hs80.at hin80 rfl
            refine own_byW (T' := T16) (g' := (mkF m 51 #[.val (.ref pa), .val (.ref b4), .val (.int 2), .val (.int 5), .val (.int c5)] [(.int c2)])) (fun t k => X16.caload hx (j := (2 : Int32)) (v := (.int c2)) (by rw [e16]; exact Ar80.1) (State.isArrayOf_alike hZ.alike Ar80.2.1) Ar80.2.2 hin80 hat80 (g := (mkF m 50 #[.val (.ref pa), .val (.ref b4), .val (.int 2), .val (.int 5), .val (.int c5)] [(.int 2), (.ref pa)])) rfl rfl (hb hby d1_50) _ k) ?_
            clear hat80 hin80 G80 Hs80 N80 S80 q80 Ar80 cl80
            refine own_byW (T' := T16) (g' := (mkF m 53 #[.val (.ref pa), .val (.ref b4), .val (.int 2), .val (.int 5), .val (.int c5)] [(.int c5), (.int c2)])) (fun t k => XS.iload X16.here hx rfl (hb hby d1_51) rfl k) ?_
            refine own_byW (T' := T16) (g' := (mkF m 56 #[.val (.ref pa), .val (.ref b4), .val (.int 2), .val (.int 5), .val (.int c5)] [])) (fun t k => XS.icmpNo X16.here hx rfl (hb hby d1_53) rfl (teq hc36_79).2 k) ?_
            refine own_byW (T' := T16) (g' := (mkF m 59 #[.val (.ref pa), .val (.ref b4), .val (.int 3), .val (.int 5), .val (.int c5)] [])) (fun t k => XS.iinc X16.here hx rfl (hb hby d1_56) rfl (l' := #[.val (.ref pa), .val (.ref b4), .val (.int 3), .val (.int 5), .val (.int c5)]) rfl k) ?_
            exact own_j5 l Z a0 hw hx hby hml hlk hret pa nn kp c0 c1 c2 c3 c4 c5 h0 n0 hn0 hn6 hn7 b4 k4 t1 t2 2 4 _ hS hZ hown (X16) e16 V_pa Zle N_ K_ hk_ ne_pa_b4 g_b4 sz_b4 V_b4 HB1 HB2 (Or.inr <| Or.inr <| Or.inl ⟨rfl, f3⟩) (Or.inr <| Or.inr <| Or.inr <| Or.inr <| ⟨rfl, f4⟩) (own_leaf5_29 c0 c1 c2 c3 c4 c5 f4 f3 hc36_67 hc36_79) hlt5
          · refine own_byW (T' := T16) (g' := (mkF m 39 #[.val (.ref pa), .val (.ref b4), .val (.int 2), .val (.int 5), .val (.int c5)] [])) (fun t k => XS.icmpNo X16.here hx rfl (hb hby d1_36) rfl (feq hc36_79).1 k) ?_
            refine own_byW (T' := T16) (g' := (mkF m 40 #[.val (.ref pa), .val (.ref b4), .val (.int 2), .val (.int 5), .val (.int c5)] [(.ref b4)])) (fun t k => XS.aloadN X16.here hx rfl (hb hby d1_39) rfl rfl k) ?_
            refine own_byW (T' := T16) (g' := (mkF m 41 #[.val (.ref pa), .val (.ref b4), .val (.int 2), .val (.int 5), .val (.int c5)] [(.int 2), (.ref b4)])) (fun t k => XS.iloadN X16.here hx rfl (hb hby d1_40) rfl k) ?_
            refine own_byW (T' := T16) (g' := (mkF m 42 #[.val (.ref pa), .val (.ref b4), .val (.int 2), .val (.int 5), .val (.int c5)] [(.int 1), (.int 2), (.ref b4)])) (fun t k => XS.iconst X16.here hx rfl (hb hby d1_41) k) ?_
            refine own_byW (T' := T16) (g' := (mkF m 43 #[.val (.ref pa), .val (.ref b4), .val (.int 2), .val (.int 5), .val (.int c5)] [(.int 1), (.ref b4)])) (fun t k => XS.isub X16.here hx rfl (hb hby d1_42) rfl k) ?_
            obtain ⟨cl81, Ar81, q81, S81, N81, Hs81, G81⟩ := id V_b4
            have hin81 : ¬ ((1 : Int32) < 0 ∨ cl81.slots.size ≤ ((1 : Int32)).toNatClampNeg) := inb_of S81 ⟨by decide, own_lt (by decide) hlt5⟩
            have hat81 : cl81.slots[((1 : Int32)).toNatClampNeg]? = some (.int t1) := Hs81.at hin81 rfl
            refine own_byW (T' := T16) (g' := (mkF m 44 #[.val (.ref pa), .val (.ref b4), .val (.int 2), .val (.int 5), .val (.int c5)] [(.int t1)])) (fun t k => X16.iaload hx (j := (1 : Int32)) (v := (.int t1)) (by rw [e16]; exact Ar81.1) (State.isArrayOf_alike hZ.alike Ar81.2.1) Ar81.2.2 hin81 hat81 (g := (mkF m 43 #[.val (.ref pa), .val (.ref b4), .val (.int 2), .val (.int 5), .val (.int c5)] [(.int 1), (.ref b4)])) rfl rfl (hb hby d1_43) _ k) ?_
            clear hat81 hin81 G81 Hs81 N81 S81 q81 Ar81 cl81
            refine own_byW (T' := T16) (g' := (mkF m 45 #[.val (.ref pa), .val (.ref b4), .val (.int t1), .val (.int 5), .val (.int c5)] [])) (fun t k => XS.istoreN X16.here hx rfl (hb hby d1_44) rfl (l' := #[.val (.ref pa), .val (.ref b4), .val (.int t1), .val (.int 5), .val (.int c5)]) rfl k) ?_
            refine own_byW (T' := T16) (g' := (mkF m 27 #[.val (.ref pa), .val (.ref b4), .val (.int t1), .val (.int 5), .val (.int c5)] [])) (fun t k => XS.goto X16.here hx rfl (pc0 := 45) (pc' := 27) rfl (hb hby d1_45) (by decide) (by decide) k) ?_
            rcases HB1 with ⟨rfl, f1⟩ | ⟨rfl, f1⟩
            · refine own_byW (T' := T16) (g' := (mkF m 28 #[.val (.ref pa), .val (.ref b4), .val (.int 0), .val (.int 5), .val (.int c5)] [(.int 0)])) (fun t k => XS.iloadN X16.here hx rfl (hb hby d1_27) rfl k) ?_
              refine own_byW (T' := T16) (g' := (mkF m 48 #[.val (.ref pa), .val (.ref b4), .val (.int 0), .val (.int 5), .val (.int c5)] [])) (fun t k => XS.ifYes X16.here hx rfl (pc0 := 28) (pc' := 48) rfl (hb hby d1_28) rfl ((if0 _ _).trans (flt (by decide)).2.2.2) (by decide) (by decide) k) ?_
              refine own_byW (T' := T16) (g' := (mkF m 49 #[.val (.ref pa), .val (.ref b4), .val (.int 0), .val (.int 5), .val (.int c5)] [(.ref pa)])) (fun t k => XS.aloadN X16.here hx rfl (hb hby d1_48) rfl rfl k) ?_
              refine own_byW (T' := T16) (g' := (mkF m 50 #[.val (.ref pa), .val (.ref b4), .val (.int 0), .val (.int 5), .val (.int c5)] [(.int 0), (.ref pa)])) (fun t k => XS.iloadN X16.here hx rfl (hb hby d1_49) rfl k) ?_
              obtain ⟨cl82, Ar82, q82, S82, N82, Hs82, G82⟩ := id V_pa
              have hin82 : ¬ ((0 : Int32) < 0 ∨ cl82.slots.size ≤ ((0 : Int32)).toNatClampNeg) := inb_of S82 ⟨by decide, own_lt (by decide) hlt5⟩
              have hat82 : cl82.slots[((0 : Int32)).toNatClampNeg]? = some (.int c0) := Hs82.at hin82 rfl
              refine own_byW (T' := T16) (g' := (mkF m 51 #[.val (.ref pa), .val (.ref b4), .val (.int 0), .val (.int 5), .val (.int c5)] [(.int c0)])) (fun t k => X16.caload hx (j := (0 : Int32)) (v := (.int c0)) (by rw [e16]; exact Ar82.1) (State.isArrayOf_alike hZ.alike Ar82.2.1) Ar82.2.2 hin82 hat82 (g := (mkF m 50 #[.val (.ref pa), .val (.ref b4), .val (.int 0), .val (.int 5), .val (.int c5)] [(.int 0), (.ref pa)])) rfl rfl (hb hby d1_50) _ k) ?_
              clear hat82 hin82 G82 Hs82 N82 S82 q82 Ar82 cl82
              refine own_byW (T' := T16) (g' := (mkF m 53 #[.val (.ref pa), .val (.ref b4), .val (.int 0), .val (.int 5), .val (.int c5)] [(.int c5), (.int c0)])) (fun t k => XS.iload X16.here hx rfl (hb hby d1_51) rfl k) ?_
              by_cases hc53_83 : c0 = c5
              · refine own_byW (T' := T16) (g' := (mkF m 56 #[.val (.ref pa), .val (.ref b4), .val (.int 0), .val (.int 5), .val (.int c5)] [])) (fun t k => XS.icmpNo X16.here hx rfl (hb hby d1_53) rfl (teq hc53_83).2 k) ?_
                refine own_byW (T' := T16) (g' := (mkF m 59 #[.val (.ref pa), .val (.ref b4), .val (.int 1), .val (.int 5), .val (.int c5)] [])) (fun t k => XS.iinc X16.here hx rfl (hb hby d1_56) rfl (l' := #[.val (.ref pa), .val (.ref b4), .val (.int 1), .val (.int 5), .val (.int c5)]) rfl k) ?_
                exact own_j5 l Z a0 hw hx hby hml hlk hret pa nn kp c0 c1 c2 c3 c4 c5 h0 n0 hn0 hn6 hn7 b4 k4 0 t2 2 4 _ hS hZ hown (X16) e16 V_pa Zle N_ K_ hk_ ne_pa_b4 g_b4 sz_b4 V_b4 (Or.inl ⟨rfl, f1⟩) HB2 (Or.inr <| Or.inr <| Or.inl ⟨rfl, f3⟩) (Or.inr <| Or.inr <| Or.inr <| Or.inr <| ⟨rfl, f4⟩) (own_leaf5_30 c0 c1 c2 c3 c4 c5 f4 f3 f1 hc36_67 hc36_79 hc53_83) hlt5
              · refine own_byW (T' := T16) (g' := (mkF m 59 #[.val (.ref pa), .val (.ref b4), .val (.int 0), .val (.int 5), .val (.int c5)] [])) (fun t k => XS.icmpYes X16.here hx rfl (pc0 := 53) (pc' := 59) rfl (hb hby d1_53) rfl (feq hc53_83).2 (by decide) (by decide) k) ?_
                exact own_j5 l Z a0 hw hx hby hml hlk hret pa nn kp c0 c1 c2 c3 c4 c5 h0 n0 hn0 hn6 hn7 b4 k4 0 t2 2 4 _ hS hZ hown (X16) e16 V_pa Zle N_ K_ hk_ ne_pa_b4 g_b4 sz_b4 V_b4 (Or.inl ⟨rfl, f1⟩) HB2 (Or.inr <| Or.inr <| Or.inl ⟨rfl, f3⟩) (Or.inr <| Or.inr <| Or.inr <| Or.inr <| ⟨rfl, f4⟩) (own_leaf5_31 c0 c1 c2 c3 c4 c5 f4 f3 f1 hc36_67 hc36_79 hc53_83) hlt5
            · refine own_byW (T' := T16) (g' := (mkF m 28 #[.val (.ref pa), .val (.ref b4), .val (.int 1), .val (.int 5), .val (.int c5)] [(.int 1)])) (fun t k => XS.iloadN X16.here hx rfl (hb hby d1_27) rfl k) ?_
              refine own_byW (T' := T16) (g' := (mkF m 31 #[.val (.ref pa), .val (.ref b4), .val (.int 1), .val (.int 5), .val (.int c5)] [])) (fun t k => XS.ifNo X16.here hx rfl (hb hby d1_28) rfl ((if0 _ _).trans (tlt (by decide)).2.2.2) k) ?_
              refine own_byW (T' := T16) (g' := (mkF m 32 #[.val (.ref pa), .val (.ref b4), .val (.int 1), .val (.int 5), .val (.int c5)] [(.ref pa)])) (fun t k => XS.aloadN X16.here hx rfl (hb hby d1_31) rfl rfl k) ?_
              refine own_byW (T' := T16) (g' := (mkF m 33 #[.val (.ref pa), .val (.ref b4), .val (.int 1), .val (.int 5), .val (.int c5)] [(.int 1), (.ref pa)])) (fun t k => XS.iloadN X16.here hx rfl (hb hby d1_32) rfl k) ?_
              obtain ⟨cl84, Ar84, q84, S84, N84, Hs84, G84⟩ := id V_pa
              have hin84 : ¬ ((1 : Int32) < 0 ∨ cl84.slots.size ≤ ((1 : Int32)).toNatClampNeg) := inb_of S84 ⟨by decide, own_lt (by decide) hlt5⟩
              have hat84 : cl84.slots[((1 : Int32)).toNatClampNeg]? = some (.int c1) := Hs84.at hin84 rfl
              refine own_byW (T' := T16) (g' := (mkF m 34 #[.val (.ref pa), .val (.ref b4), .val (.int 1), .val (.int 5), .val (.int c5)] [(.int c1)])) (fun t k => X16.caload hx (j := (1 : Int32)) (v := (.int c1)) (by rw [e16]; exact Ar84.1) (State.isArrayOf_alike hZ.alike Ar84.2.1) Ar84.2.2 hin84 hat84 (g := (mkF m 33 #[.val (.ref pa), .val (.ref b4), .val (.int 1), .val (.int 5), .val (.int c5)] [(.int 1), (.ref pa)])) rfl rfl (hb hby d1_33) _ k) ?_
              clear hat84 hin84 G84 Hs84 N84 S84 q84 Ar84 cl84
              refine own_byW (T' := T16) (g' := (mkF m 36 #[.val (.ref pa), .val (.ref b4), .val (.int 1), .val (.int 5), .val (.int c5)] [(.int c5), (.int c1)])) (fun t k => XS.iload X16.here hx rfl (hb hby d1_34) rfl k) ?_
              by_cases hc36_85 : c1 = c5
              · refine own_byW (T' := T16) (g' := (mkF m 48 #[.val (.ref pa), .val (.ref b4), .val (.int 1), .val (.int 5), .val (.int c5)] [])) (fun t k => XS.icmpYes X16.here hx rfl (pc0 := 36) (pc' := 48) rfl (hb hby d1_36) rfl (teq hc36_85).1 (by decide) (by decide) k) ?_
                refine own_byW (T' := T16) (g' := (mkF m 49 #[.val (.ref pa), .val (.ref b4), .val (.int 1), .val (.int 5), .val (.int c5)] [(.ref pa)])) (fun t k => XS.aloadN X16.here hx rfl (hb hby d1_48) rfl rfl k) ?_
                refine own_byW (T' := T16) (g' := (mkF m 50 #[.val (.ref pa), .val (.ref b4), .val (.int 1), .val (.int 5), .val (.int c5)] [(.int 1), (.ref pa)])) (fun t k => XS.iloadN X16.here hx rfl (hb hby d1_49) rfl k) ?_
                obtain ⟨cl86, Ar86, q86, S86, N86, Hs86, G86⟩ := id V_pa
                have hin86 : ¬ ((1 : Int32) < 0 ∨ cl86.slots.size ≤ ((1 : Int32)).toNatClampNeg) := inb_of S86 ⟨by decide, own_lt (by decide) hlt5⟩
                have hat86 : cl86.slots[((1 : Int32)).toNatClampNeg]? = some (.int c1) := Hs86.at hin86 rfl
                refine own_byW (T' := T16) (g' := (mkF m 51 #[.val (.ref pa), .val (.ref b4), .val (.int 1), .val (.int 5), .val (.int c5)] [(.int c1)])) (fun t k => X16.caload hx (j := (1 : Int32)) (v := (.int c1)) (by rw [e16]; exact Ar86.1) (State.isArrayOf_alike hZ.alike Ar86.2.1) Ar86.2.2 hin86 hat86 (g := (mkF m 50 #[.val (.ref pa), .val (.ref b4), .val (.int 1), .val (.int 5), .val (.int c5)] [(.int 1), (.ref pa)])) rfl rfl (hb hby d1_50) _ k) ?_
                clear hat86 hin86 G86 Hs86 N86 S86 q86 Ar86 cl86
                refine own_byW (T' := T16) (g' := (mkF m 53 #[.val (.ref pa), .val (.ref b4), .val (.int 1), .val (.int 5), .val (.int c5)] [(.int c5), (.int c1)])) (fun t k => XS.iload X16.here hx rfl (hb hby d1_51) rfl k) ?_
                refine own_byW (T' := T16) (g' := (mkF m 56 #[.val (.ref pa), .val (.ref b4), .val (.int 1), .val (.int 5), .val (.int c5)] [])) (fun t k => XS.icmpNo X16.here hx rfl (hb hby d1_53) rfl (teq hc36_85).2 k) ?_
                refine own_byW (T' := T16) (g' := (mkF m 59 #[.val (.ref pa), .val (.ref b4), .val (.int 2), .val (.int 5), .val (.int c5)] [])) (fun t k => XS.iinc X16.here hx rfl (hb hby d1_56) rfl (l' := #[.val (.ref pa), .val (.ref b4), .val (.int 2), .val (.int 5), .val (.int c5)]) rfl k) ?_
                exact own_j5 l Z a0 hw hx hby hml hlk hret pa nn kp c0 c1 c2 c3 c4 c5 h0 n0 hn0 hn6 hn7 b4 k4 1 t2 2 4 _ hS hZ hown (X16) e16 V_pa Zle N_ K_ hk_ ne_pa_b4 g_b4 sz_b4 V_b4 (Or.inr <| ⟨rfl, f1⟩) HB2 (Or.inr <| Or.inr <| Or.inl ⟨rfl, f3⟩) (Or.inr <| Or.inr <| Or.inr <| Or.inr <| ⟨rfl, f4⟩) (own_leaf5_32 c0 c1 c2 c3 c4 c5 f4 f3 f1 hc36_67 hc36_79 hc36_85) hlt5
              · refine own_byW (T' := T16) (g' := (mkF m 39 #[.val (.ref pa), .val (.ref b4), .val (.int 1), .val (.int 5), .val (.int c5)] [])) (fun t k => XS.icmpNo X16.here hx rfl (hb hby d1_36) rfl (feq hc36_85).1 k) ?_
                refine own_byW (T' := T16) (g' := (mkF m 40 #[.val (.ref pa), .val (.ref b4), .val (.int 1), .val (.int 5), .val (.int c5)] [(.ref b4)])) (fun t k => XS.aloadN X16.here hx rfl (hb hby d1_39) rfl rfl k) ?_
                refine own_byW (T' := T16) (g' := (mkF m 41 #[.val (.ref pa), .val (.ref b4), .val (.int 1), .val (.int 5), .val (.int c5)] [(.int 1), (.ref b4)])) (fun t k => XS.iloadN X16.here hx rfl (hb hby d1_40) rfl k) ?_
                refine own_byW (T' := T16) (g' := (mkF m 42 #[.val (.ref pa), .val (.ref b4), .val (.int 1), .val (.int 5), .val (.int c5)] [(.int 1), (.int 1), (.ref b4)])) (fun t k => XS.iconst X16.here hx rfl (hb hby d1_41) k) ?_
                refine own_byW (T' := T16) (g' := (mkF m 43 #[.val (.ref pa), .val (.ref b4), .val (.int 1), .val (.int 5), .val (.int c5)] [(.int 0), (.ref b4)])) (fun t k => XS.isub X16.here hx rfl (hb hby d1_42) rfl k) ?_
                obtain ⟨cl87, Ar87, q87, S87, N87, Hs87, G87⟩ := id V_b4
                have hin87 : ¬ ((0 : Int32) < 0 ∨ cl87.slots.size ≤ ((0 : Int32)).toNatClampNeg) := inb_of S87 ⟨by decide, own_lt (by decide) hlt5⟩
                have hat87 : cl87.slots[((0 : Int32)).toNatClampNeg]? = some (.int 0) := Hs87.at hin87 rfl
                refine own_byW (T' := T16) (g' := (mkF m 44 #[.val (.ref pa), .val (.ref b4), .val (.int 1), .val (.int 5), .val (.int c5)] [(.int 0)])) (fun t k => X16.iaload hx (j := (0 : Int32)) (v := (.int 0)) (by rw [e16]; exact Ar87.1) (State.isArrayOf_alike hZ.alike Ar87.2.1) Ar87.2.2 hin87 hat87 (g := (mkF m 43 #[.val (.ref pa), .val (.ref b4), .val (.int 1), .val (.int 5), .val (.int c5)] [(.int 0), (.ref b4)])) rfl rfl (hb hby d1_43) _ k) ?_
                clear hat87 hin87 G87 Hs87 N87 S87 q87 Ar87 cl87
                refine own_byW (T' := T16) (g' := (mkF m 45 #[.val (.ref pa), .val (.ref b4), .val (.int 0), .val (.int 5), .val (.int c5)] [])) (fun t k => XS.istoreN X16.here hx rfl (hb hby d1_44) rfl (l' := #[.val (.ref pa), .val (.ref b4), .val (.int 0), .val (.int 5), .val (.int c5)]) rfl k) ?_
                refine own_byW (T' := T16) (g' := (mkF m 27 #[.val (.ref pa), .val (.ref b4), .val (.int 0), .val (.int 5), .val (.int c5)] [])) (fun t k => XS.goto X16.here hx rfl (pc0 := 45) (pc' := 27) rfl (hb hby d1_45) (by decide) (by decide) k) ?_
                refine own_byW (T' := T16) (g' := (mkF m 28 #[.val (.ref pa), .val (.ref b4), .val (.int 0), .val (.int 5), .val (.int c5)] [(.int 0)])) (fun t k => XS.iloadN X16.here hx rfl (hb hby d1_27) rfl k) ?_
                refine own_byW (T' := T16) (g' := (mkF m 48 #[.val (.ref pa), .val (.ref b4), .val (.int 0), .val (.int 5), .val (.int c5)] [])) (fun t k => XS.ifYes X16.here hx rfl (pc0 := 28) (pc' := 48) rfl (hb hby d1_28) rfl ((if0 _ _).trans (flt (by decide)).2.2.2) (by decide) (by decide) k) ?_
                refine own_byW (T' := T16) (g' := (mkF m 49 #[.val (.ref pa), .val (.ref b4), .val (.int 0), .val (.int 5), .val (.int c5)] [(.ref pa)])) (fun t k => XS.aloadN X16.here hx rfl (hb hby d1_48) rfl rfl k) ?_
                refine own_byW (T' := T16) (g' := (mkF m 50 #[.val (.ref pa), .val (.ref b4), .val (.int 0), .val (.int 5), .val (.int c5)] [(.int 0), (.ref pa)])) (fun t k => XS.iloadN X16.here hx rfl (hb hby d1_49) rfl k) ?_
                obtain ⟨cl88, Ar88, q88, S88, N88, Hs88, G88⟩ := id V_pa
                have hin88 : ¬ ((0 : Int32) < 0 ∨ cl88.slots.size ≤ ((0 : Int32)).toNatClampNeg) := inb_of S88 ⟨by decide, own_lt (by decide) hlt5⟩
                have hat88 : cl88.slots[((0 : Int32)).toNatClampNeg]? = some (.int c0) := Hs88.at hin88 rfl
                refine own_byW (T' := T16) (g' := (mkF m 51 #[.val (.ref pa), .val (.ref b4), .val (.int 0), .val (.int 5), .val (.int c5)] [(.int c0)])) (fun t k => X16.caload hx (j := (0 : Int32)) (v := (.int c0)) (by rw [e16]; exact Ar88.1) (State.isArrayOf_alike hZ.alike Ar88.2.1) Ar88.2.2 hin88 hat88 (g := (mkF m 50 #[.val (.ref pa), .val (.ref b4), .val (.int 0), .val (.int 5), .val (.int c5)] [(.int 0), (.ref pa)])) rfl rfl (hb hby d1_50) _ k) ?_
                clear hat88 hin88 G88 Hs88 N88 S88 q88 Ar88 cl88
                refine own_byW (T' := T16) (g' := (mkF m 53 #[.val (.ref pa), .val (.ref b4), .val (.int 0), .val (.int 5), .val (.int c5)] [(.int c5), (.int c0)])) (fun t k => XS.iload X16.here hx rfl (hb hby d1_51) rfl k) ?_
                by_cases hc53_89 : c0 = c5
                · refine own_byW (T' := T16) (g' := (mkF m 56 #[.val (.ref pa), .val (.ref b4), .val (.int 0), .val (.int 5), .val (.int c5)] [])) (fun t k => XS.icmpNo X16.here hx rfl (hb hby d1_53) rfl (teq hc53_89).2 k) ?_
                  refine own_byW (T' := T16) (g' := (mkF m 59 #[.val (.ref pa), .val (.ref b4), .val (.int 1), .val (.int 5), .val (.int c5)] [])) (fun t k => XS.iinc X16.here hx rfl (hb hby d1_56) rfl (l' := #[.val (.ref pa), .val (.ref b4), .val (.int 1), .val (.int 5), .val (.int c5)]) rfl k) ?_
                  exact own_j5 l Z a0 hw hx hby hml hlk hret pa nn kp c0 c1 c2 c3 c4 c5 h0 n0 hn0 hn6 hn7 b4 k4 1 t2 2 4 _ hS hZ hown (X16) e16 V_pa Zle N_ K_ hk_ ne_pa_b4 g_b4 sz_b4 V_b4 (Or.inr <| ⟨rfl, f1⟩) HB2 (Or.inr <| Or.inr <| Or.inl ⟨rfl, f3⟩) (Or.inr <| Or.inr <| Or.inr <| Or.inr <| ⟨rfl, f4⟩) (own_leaf5_33 c0 c1 c2 c3 c4 c5 f4 f3 f1 hc36_67 hc36_79 hc36_85 hc53_89) hlt5
                · refine own_byW (T' := T16) (g' := (mkF m 59 #[.val (.ref pa), .val (.ref b4), .val (.int 0), .val (.int 5), .val (.int c5)] [])) (fun t k => XS.icmpYes X16.here hx rfl (pc0 := 53) (pc' := 59) rfl (hb hby d1_53) rfl (feq hc53_89).2 (by decide) (by decide) k) ?_
                  exact own_j5 l Z a0 hw hx hby hml hlk hret pa nn kp c0 c1 c2 c3 c4 c5 h0 n0 hn0 hn6 hn7 b4 k4 1 t2 2 4 _ hS hZ hown (X16) e16 V_pa Zle N_ K_ hk_ ne_pa_b4 g_b4 sz_b4 V_b4 (Or.inr <| ⟨rfl, f1⟩) HB2 (Or.inr <| Or.inr <| Or.inl ⟨rfl, f3⟩) (Or.inr <| Or.inr <| Or.inr <| Or.inr <| ⟨rfl, f4⟩) (own_leaf5_34 c0 c1 c2 c3 c4 c5 f4 f3 f1 hc36_67 hc36_79 hc36_85 hc53_89) hlt5
        · refine own_byW (T' := T16) (g' := (mkF m 28 #[.val (.ref pa), .val (.ref b4), .val (.int 3), .val (.int 5), .val (.int c5)] [(.int 3)])) (fun t k => XS.iloadN X16.here hx rfl (hb hby d1_27) rfl k) ?_
          refine own_byW (T' := T16) (g' := (mkF m 31 #[.val (.ref pa), .val (.ref b4), .val (.int 3), .val (.int 5), .val (.int c5)] [])) (fun t k => XS.ifNo X16.here hx rfl (hb hby d1_28) rfl ((if0 _ _).trans (tlt (by decide)).2.2.2) k) ?_
          refine own_byW (T' := T16) (g' := (mkF m 32 #[.val (.ref pa), .val (.ref b4), .val (.int 3), .val (.int 5), .val (.int c5)] [(.ref pa)])) (fun t k => XS.aloadN X16.here hx rfl (hb hby d1_31) rfl rfl k) ?_
          refine own_byW (T' := T16) (g' := (mkF m 33 #[.val (.ref pa), .val (.ref b4), .val (.int 3), .val (.int 5), .val (.int c5)] [(.int 3), (.ref pa)])) (fun t k => XS.iloadN X16.here hx rfl (hb hby d1_32) rfl k) ?_
          obtain ⟨cl90, Ar90, q90, S90, N90, Hs90, G90⟩ := id V_pa
          have hin90 : ¬ ((3 : Int32) < 0 ∨ cl90.slots.size ≤ ((3 : Int32)).toNatClampNeg) := inb_of S90 ⟨by decide, own_lt (by decide) hlt5⟩
          have hat90 : cl90.slots[((3 : Int32)).toNatClampNeg]? = some (.int c3) := Hs90.at hin90 rfl
          refine own_byW (T' := T16) (g' := (mkF m 34 #[.val (.ref pa), .val (.ref b4), .val (.int 3), .val (.int 5), .val (.int c5)] [(.int c3)])) (fun t k => X16.caload hx (j := (3 : Int32)) (v := (.int c3)) (by rw [e16]; exact Ar90.1) (State.isArrayOf_alike hZ.alike Ar90.2.1) Ar90.2.2 hin90 hat90 (g := (mkF m 33 #[.val (.ref pa), .val (.ref b4), .val (.int 3), .val (.int 5), .val (.int c5)] [(.int 3), (.ref pa)])) rfl rfl (hb hby d1_33) _ k) ?_
          clear hat90 hin90 G90 Hs90 N90 S90 q90 Ar90 cl90
          refine own_byW (T' := T16) (g' := (mkF m 36 #[.val (.ref pa), .val (.ref b4), .val (.int 3), .val (.int 5), .val (.int c5)] [(.int c5), (.int c3)])) (fun t k => XS.iload X16.here hx rfl (hb hby d1_34) rfl k) ?_
          by_cases hc36_91 : c3 = c5
          · refine own_byW (T' := T16) (g' := (mkF m 48 #[.val (.ref pa), .val (.ref b4), .val (.int 3), .val (.int 5), .val (.int c5)] [])) (fun t k => XS.icmpYes X16.here hx rfl (pc0 := 36) (pc' := 48) rfl (hb hby d1_36) rfl (teq hc36_91).1 (by decide) (by decide) k) ?_
            refine own_byW (T' := T16) (g' := (mkF m 49 #[.val (.ref pa), .val (.ref b4), .val (.int 3), .val (.int 5), .val (.int c5)] [(.ref pa)])) (fun t k => XS.aloadN X16.here hx rfl (hb hby d1_48) rfl rfl k) ?_
            refine own_byW (T' := T16) (g' := (mkF m 50 #[.val (.ref pa), .val (.ref b4), .val (.int 3), .val (.int 5), .val (.int c5)] [(.int 3), (.ref pa)])) (fun t k => XS.iloadN X16.here hx rfl (hb hby d1_49) rfl k) ?_
            obtain ⟨cl92, Ar92, q92, S92, N92, Hs92, G92⟩ := id V_pa
            have hin92 : ¬ ((3 : Int32) < 0 ∨ cl92.slots.size ≤ ((3 : Int32)).toNatClampNeg) := inb_of S92 ⟨by decide, own_lt (by decide) hlt5⟩
            have hat92 : cl92.slots[((3 : Int32)).toNatClampNeg]? = some (.int c3) := Hs92.at hin92 rfl
            refine own_byW (T' := T16) (g' := (mkF m 51 #[.val (.ref pa), .val (.ref b4), .val (.int 3), .val (.int 5), .val (.int c5)] [(.int c3)])) (fun t k => X16.caload hx (j := (3 : Int32)) (v := (.int c3)) (by rw [e16]; exact Ar92.1) (State.isArrayOf_alike hZ.alike Ar92.2.1) Ar92.2.2 hin92 hat92 (g := (mkF m 50 #[.val (.ref pa), .val (.ref b4), .val (.int 3), .val (.int 5), .val (.int c5)] [(.int 3), (.ref pa)])) rfl rfl (hb hby d1_50) _ k) ?_
            clear hat92 hin92 G92 Hs92 N92 S92 q92 Ar92 cl92
            refine own_byW (T' := T16) (g' := (mkF m 53 #[.val (.ref pa), .val (.ref b4), .val (.int 3), .val (.int 5), .val (.int c5)] [(.int c5), (.int c3)])) (fun t k => XS.iload X16.here hx rfl (hb hby d1_51) rfl k) ?_
            refine own_byW (T' := T16) (g' := (mkF m 56 #[.val (.ref pa), .val (.ref b4), .val (.int 3), .val (.int 5), .val (.int c5)] [])) (fun t k => XS.icmpNo X16.here hx rfl (hb hby d1_53) rfl (teq hc36_91).2 k) ?_
            refine own_byW (T' := T16) (g' := (mkF m 59 #[.val (.ref pa), .val (.ref b4), .val (.int 4), .val (.int 5), .val (.int c5)] [])) (fun t k => XS.iinc X16.here hx rfl (hb hby d1_56) rfl (l' := #[.val (.ref pa), .val (.ref b4), .val (.int 4), .val (.int 5), .val (.int c5)]) rfl k) ?_
            exact own_j5 l Z a0 hw hx hby hml hlk hret pa nn kp c0 c1 c2 c3 c4 c5 h0 n0 hn0 hn6 hn7 b4 k4 t1 t2 3 4 _ hS hZ hown (X16) e16 V_pa Zle N_ K_ hk_ ne_pa_b4 g_b4 sz_b4 V_b4 HB1 HB2 (Or.inr <| Or.inr <| Or.inr <| ⟨rfl, f3⟩) (Or.inr <| Or.inr <| Or.inr <| Or.inr <| ⟨rfl, f4⟩) (own_leaf5_35 c0 c1 c2 c3 c4 c5 f4 f3 hc36_67 hc36_91) hlt5
          · refine own_byW (T' := T16) (g' := (mkF m 39 #[.val (.ref pa), .val (.ref b4), .val (.int 3), .val (.int 5), .val (.int c5)] [])) (fun t k => XS.icmpNo X16.here hx rfl (hb hby d1_36) rfl (feq hc36_91).1 k) ?_
            refine own_byW (T' := T16) (g' := (mkF m 40 #[.val (.ref pa), .val (.ref b4), .val (.int 3), .val (.int 5), .val (.int c5)] [(.ref b4)])) (fun t k => XS.aloadN X16.here hx rfl (hb hby d1_39) rfl rfl k) ?_
            refine own_byW (T' := T16) (g' := (mkF m 41 #[.val (.ref pa), .val (.ref b4), .val (.int 3), .val (.int 5), .val (.int c5)] [(.int 3), (.ref b4)])) (fun t k => XS.iloadN X16.here hx rfl (hb hby d1_40) rfl k) ?_
            refine own_byW (T' := T16) (g' := (mkF m 42 #[.val (.ref pa), .val (.ref b4), .val (.int 3), .val (.int 5), .val (.int c5)] [(.int 1), (.int 3), (.ref b4)])) (fun t k => XS.iconst X16.here hx rfl (hb hby d1_41) k) ?_
            refine own_byW (T' := T16) (g' := (mkF m 43 #[.val (.ref pa), .val (.ref b4), .val (.int 3), .val (.int 5), .val (.int c5)] [(.int 2), (.ref b4)])) (fun t k => XS.isub X16.here hx rfl (hb hby d1_42) rfl k) ?_
            obtain ⟨cl93, Ar93, q93, S93, N93, Hs93, G93⟩ := id V_b4
            have hin93 : ¬ ((2 : Int32) < 0 ∨ cl93.slots.size ≤ ((2 : Int32)).toNatClampNeg) := inb_of S93 ⟨by decide, own_lt (by decide) hlt5⟩
            have hat93 : cl93.slots[((2 : Int32)).toNatClampNeg]? = some (.int t2) := Hs93.at hin93 rfl
            refine own_byW (T' := T16) (g' := (mkF m 44 #[.val (.ref pa), .val (.ref b4), .val (.int 3), .val (.int 5), .val (.int c5)] [(.int t2)])) (fun t k => X16.iaload hx (j := (2 : Int32)) (v := (.int t2)) (by rw [e16]; exact Ar93.1) (State.isArrayOf_alike hZ.alike Ar93.2.1) Ar93.2.2 hin93 hat93 (g := (mkF m 43 #[.val (.ref pa), .val (.ref b4), .val (.int 3), .val (.int 5), .val (.int c5)] [(.int 2), (.ref b4)])) rfl rfl (hb hby d1_43) _ k) ?_
            clear hat93 hin93 G93 Hs93 N93 S93 q93 Ar93 cl93
            refine own_byW (T' := T16) (g' := (mkF m 45 #[.val (.ref pa), .val (.ref b4), .val (.int t2), .val (.int 5), .val (.int c5)] [])) (fun t k => XS.istoreN X16.here hx rfl (hb hby d1_44) rfl (l' := #[.val (.ref pa), .val (.ref b4), .val (.int t2), .val (.int 5), .val (.int c5)]) rfl k) ?_
            refine own_byW (T' := T16) (g' := (mkF m 27 #[.val (.ref pa), .val (.ref b4), .val (.int t2), .val (.int 5), .val (.int c5)] [])) (fun t k => XS.goto X16.here hx rfl (pc0 := 45) (pc' := 27) rfl (hb hby d1_45) (by decide) (by decide) k) ?_
            rcases HB2 with ⟨rfl, f2⟩ | ⟨rfl, f2⟩ | ⟨rfl, f2⟩
            · refine own_byW (T' := T16) (g' := (mkF m 28 #[.val (.ref pa), .val (.ref b4), .val (.int 0), .val (.int 5), .val (.int c5)] [(.int 0)])) (fun t k => XS.iloadN X16.here hx rfl (hb hby d1_27) rfl k) ?_
              refine own_byW (T' := T16) (g' := (mkF m 48 #[.val (.ref pa), .val (.ref b4), .val (.int 0), .val (.int 5), .val (.int c5)] [])) (fun t k => XS.ifYes X16.here hx rfl (pc0 := 28) (pc' := 48) rfl (hb hby d1_28) rfl ((if0 _ _).trans (flt (by decide)).2.2.2) (by decide) (by decide) k) ?_
              refine own_byW (T' := T16) (g' := (mkF m 49 #[.val (.ref pa), .val (.ref b4), .val (.int 0), .val (.int 5), .val (.int c5)] [(.ref pa)])) (fun t k => XS.aloadN X16.here hx rfl (hb hby d1_48) rfl rfl k) ?_
              refine own_byW (T' := T16) (g' := (mkF m 50 #[.val (.ref pa), .val (.ref b4), .val (.int 0), .val (.int 5), .val (.int c5)] [(.int 0), (.ref pa)])) (fun t k => XS.iloadN X16.here hx rfl (hb hby d1_49) rfl k) ?_
              obtain ⟨cl94, Ar94, q94, S94, N94, Hs94, G94⟩ := id V_pa
              have hin94 : ¬ ((0 : Int32) < 0 ∨ cl94.slots.size ≤ ((0 : Int32)).toNatClampNeg) := inb_of S94 ⟨by decide, own_lt (by decide) hlt5⟩
              have hat94 : cl94.slots[((0 : Int32)).toNatClampNeg]? = some (.int c0) := Hs94.at hin94 rfl
              refine own_byW (T' := T16) (g' := (mkF m 51 #[.val (.ref pa), .val (.ref b4), .val (.int 0), .val (.int 5), .val (.int c5)] [(.int c0)])) (fun t k => X16.caload hx (j := (0 : Int32)) (v := (.int c0)) (by rw [e16]; exact Ar94.1) (State.isArrayOf_alike hZ.alike Ar94.2.1) Ar94.2.2 hin94 hat94 (g := (mkF m 50 #[.val (.ref pa), .val (.ref b4), .val (.int 0), .val (.int 5), .val (.int c5)] [(.int 0), (.ref pa)])) rfl rfl (hb hby d1_50) _ k) ?_
              clear hat94 hin94 G94 Hs94 N94 S94 q94 Ar94 cl94
              refine own_byW (T' := T16) (g' := (mkF m 53 #[.val (.ref pa), .val (.ref b4), .val (.int 0), .val (.int 5), .val (.int c5)] [(.int c5), (.int c0)])) (fun t k => XS.iload X16.here hx rfl (hb hby d1_51) rfl k) ?_
              by_cases hc53_95 : c0 = c5
              · refine own_byW (T' := T16) (g' := (mkF m 56 #[.val (.ref pa), .val (.ref b4), .val (.int 0), .val (.int 5), .val (.int c5)] [])) (fun t k => XS.icmpNo X16.here hx rfl (hb hby d1_53) rfl (teq hc53_95).2 k) ?_
                refine own_byW (T' := T16) (g' := (mkF m 59 #[.val (.ref pa), .val (.ref b4), .val (.int 1), .val (.int 5), .val (.int c5)] [])) (fun t k => XS.iinc X16.here hx rfl (hb hby d1_56) rfl (l' := #[.val (.ref pa), .val (.ref b4), .val (.int 1), .val (.int 5), .val (.int c5)]) rfl k) ?_
                exact own_j5 l Z a0 hw hx hby hml hlk hret pa nn kp c0 c1 c2 c3 c4 c5 h0 n0 hn0 hn6 hn7 b4 k4 t1 0 3 4 _ hS hZ hown (X16) e16 V_pa Zle N_ K_ hk_ ne_pa_b4 g_b4 sz_b4 V_b4 HB1 (Or.inl ⟨rfl, f2⟩) (Or.inr <| Or.inr <| Or.inr <| ⟨rfl, f3⟩) (Or.inr <| Or.inr <| Or.inr <| Or.inr <| ⟨rfl, f4⟩) (own_leaf5_36 c0 c1 c2 c3 c4 c5 f4 f3 f2 hc36_67 hc36_91 hc53_95) hlt5
              · refine own_byW (T' := T16) (g' := (mkF m 59 #[.val (.ref pa), .val (.ref b4), .val (.int 0), .val (.int 5), .val (.int c5)] [])) (fun t k => XS.icmpYes X16.here hx rfl (pc0 := 53) (pc' := 59) rfl (hb hby d1_53) rfl (feq hc53_95).2 (by decide) (by decide) k) ?_
                exact own_j5 l Z a0 hw hx hby hml hlk hret pa nn kp c0 c1 c2 c3 c4 c5 h0 n0 hn0 hn6 hn7 b4 k4 t1 0 3 4 _ hS hZ hown (X16) e16 V_pa Zle N_ K_ hk_ ne_pa_b4 g_b4 sz_b4 V_b4 HB1 (Or.inl ⟨rfl, f2⟩) (Or.inr <| Or.inr <| Or.inr <| ⟨rfl, f3⟩) (Or.inr <| Or.inr <| Or.inr <| Or.inr <| ⟨rfl, f4⟩) (own_leaf5_37 c0 c1 c2 c3 c4 c5 f4 f3 f2 hc36_67 hc36_91 hc53_95) hlt5
            · refine own_byW (T' := T16) (g' := (mkF m 28 #[.val (.ref pa), .val (.ref b4), .val (.int 1), .val (.int 5), .val (.int c5)] [(.int 1)])) (fun t k => XS.iloadN X16.here hx rfl (hb hby d1_27) rfl k) ?_
              refine own_byW (T' := T16) (g' := (mkF m 31 #[.val (.ref pa), .val (.ref b4), .val (.int 1), .val (.int 5), .val (.int c5)] [])) (fun t k => XS.ifNo X16.here hx rfl (hb hby d1_28) rfl ((if0 _ _).trans (tlt (by decide)).2.2.2) k) ?_
              refine own_byW (T' := T16) (g' := (mkF m 32 #[.val (.ref pa), .val (.ref b4), .val (.int 1), .val (.int 5), .val (.int c5)] [(.ref pa)])) (fun t k => XS.aloadN X16.here hx rfl (hb hby d1_31) rfl rfl k) ?_
              refine own_byW (T' := T16) (g' := (mkF m 33 #[.val (.ref pa), .val (.ref b4), .val (.int 1), .val (.int 5), .val (.int c5)] [(.int 1), (.ref pa)])) (fun t k => XS.iloadN X16.here hx rfl (hb hby d1_32) rfl k) ?_
              obtain ⟨cl96, Ar96, q96, S96, N96, Hs96, G96⟩ := id V_pa
              have hin96 : ¬ ((1 : Int32) < 0 ∨ cl96.slots.size ≤ ((1 : Int32)).toNatClampNeg) := inb_of S96 ⟨by decide, own_lt (by decide) hlt5⟩
              have hat96 : cl96.slots[((1 : Int32)).toNatClampNeg]? = some (.int c1) := Hs96.at hin96 rfl
              refine own_byW (T' := T16) (g' := (mkF m 34 #[.val (.ref pa), .val (.ref b4), .val (.int 1), .val (.int 5), .val (.int c5)] [(.int c1)])) (fun t k => X16.caload hx (j := (1 : Int32)) (v := (.int c1)) (by rw [e16]; exact Ar96.1) (State.isArrayOf_alike hZ.alike Ar96.2.1) Ar96.2.2 hin96 hat96 (g := (mkF m 33 #[.val (.ref pa), .val (.ref b4), .val (.int 1), .val (.int 5), .val (.int c5)] [(.int 1), (.ref pa)])) rfl rfl (hb hby d1_33) _ k) ?_
              clear hat96 hin96 G96 Hs96 N96 S96 q96 Ar96 cl96
              refine own_byW (T' := T16) (g' := (mkF m 36 #[.val (.ref pa), .val (.ref b4), .val (.int 1), .val (.int 5), .val (.int c5)] [(.int c5), (.int c1)])) (fun t k => XS.iload X16.here hx rfl (hb hby d1_34) rfl k) ?_
              by_cases hc36_97 : c1 = c5
              · refine own_byW (T' := T16) (g' := (mkF m 48 #[.val (.ref pa), .val (.ref b4), .val (.int 1), .val (.int 5), .val (.int c5)] [])) (fun t k => XS.icmpYes X16.here hx rfl (pc0 := 36) (pc' := 48) rfl (hb hby d1_36) rfl (teq hc36_97).1 (by decide) (by decide) k) ?_
                refine own_byW (T' := T16) (g' := (mkF m 49 #[.val (.ref pa), .val (.ref b4), .val (.int 1), .val (.int 5), .val (.int c5)] [(.ref pa)])) (fun t k => XS.aloadN X16.here hx rfl (hb hby d1_48) rfl rfl k) ?_
                refine own_byW (T' := T16) (g' := (mkF m 50 #[.val (.ref pa), .val (.ref b4), .val (.int 1), .val (.int 5), .val (.int c5)] [(.int 1), (.ref pa)])) (fun t k => XS.iloadN X16.here hx rfl (hb hby d1_49) rfl k) ?_
                obtain ⟨cl98, Ar98, q98, S98, N98, Hs98, G98⟩ := id V_pa
                have hin98 : ¬ ((1 : Int32) < 0 ∨ cl98.slots.size ≤ ((1 : Int32)).toNatClampNeg) := inb_of S98 ⟨by decide, own_lt (by decide) hlt5⟩
                have hat98 : cl98.slots[((1 : Int32)).toNatClampNeg]? = some (.int c1) := Hs98.at hin98 rfl
                refine own_byW (T' := T16) (g' := (mkF m 51 #[.val (.ref pa), .val (.ref b4), .val (.int 1), .val (.int 5), .val (.int c5)] [(.int c1)])) (fun t k => X16.caload hx (j := (1 : Int32)) (v := (.int c1)) (by rw [e16]; exact Ar98.1) (State.isArrayOf_alike hZ.alike Ar98.2.1) Ar98.2.2 hin98 hat98 (g := (mkF m 50 #[.val (.ref pa), .val (.ref b4), .val (.int 1), .val (.int 5), .val (.int c5)] [(.int 1), (.ref pa)])) rfl rfl (hb hby d1_50) _ k) ?_
                clear hat98 hin98 G98 Hs98 N98 S98 q98 Ar98 cl98
                refine own_byW (T' := T16) (g' := (mkF m 53 #[.val (.ref pa), .val (.ref b4), .val (.int 1), .val (.int 5), .val (.int c5)] [(.int c5), (.int c1)])) (fun t k => XS.iload X16.here hx rfl (hb hby d1_51) rfl k) ?_
                refine own_byW (T' := T16) (g' := (mkF m 56 #[.val (.ref pa), .val (.ref b4), .val (.int 1), .val (.int 5), .val (.int c5)] [])) (fun t k => XS.icmpNo X16.here hx rfl (hb hby d1_53) rfl (teq hc36_97).2 k) ?_
                refine own_byW (T' := T16) (g' := (mkF m 59 #[.val (.ref pa), .val (.ref b4), .val (.int 2), .val (.int 5), .val (.int c5)] [])) (fun t k => XS.iinc X16.here hx rfl (hb hby d1_56) rfl (l' := #[.val (.ref pa), .val (.ref b4), .val (.int 2), .val (.int 5), .val (.int c5)]) rfl k) ?_
                exact own_j5 l Z a0 hw hx hby hml hlk hret pa nn kp c0 c1 c2 c3 c4 c5 h0 n0 hn0 hn6 hn7 b4 k4 t1 1 3 4 _ hS hZ hown (X16) e16 V_pa Zle N_ K_ hk_ ne_pa_b4 g_b4 sz_b4 V_b4 HB1 (Or.inr <| Or.inl ⟨rfl, f2⟩) (Or.inr <| Or.inr <| Or.inr <| ⟨rfl, f3⟩) (Or.inr <| Or.inr <| Or.inr <| Or.inr <| ⟨rfl, f4⟩) (own_leaf5_38 c0 c1 c2 c3 c4 c5 f4 f3 f2 hc36_67 hc36_91 hc36_97) hlt5
              · refine own_byW (T' := T16) (g' := (mkF m 39 #[.val (.ref pa), .val (.ref b4), .val (.int 1), .val (.int 5), .val (.int c5)] [])) (fun t k => XS.icmpNo X16.here hx rfl (hb hby d1_36) rfl (feq hc36_97).1 k) ?_
                refine own_byW (T' := T16) (g' := (mkF m 40 #[.val (.ref pa), .val (.ref b4), .val (.int 1), .val (.int 5), .val (.int c5)] [(.ref b4)])) (fun t k => XS.aloadN X16.here hx rfl (hb hby d1_39) rfl rfl k) ?_
                refine own_byW (T' := T16) (g' := (mkF m 41 #[.val (.ref pa), .val (.ref b4), .val (.int 1), .val (.int 5), .val (.int c5)] [(.int 1), (.ref b4)])) (fun t k => XS.iloadN X16.here hx rfl (hb hby d1_40) rfl k) ?_
                refine own_byW (T' := T16) (g' := (mkF m 42 #[.val (.ref pa), .val (.ref b4), .val (.int 1), .val (.int 5), .val (.int c5)] [(.int 1), (.int 1), (.ref b4)])) (fun t k => XS.iconst X16.here hx rfl (hb hby d1_41) k) ?_
                refine own_byW (T' := T16) (g' := (mkF m 43 #[.val (.ref pa), .val (.ref b4), .val (.int 1), .val (.int 5), .val (.int c5)] [(.int 0), (.ref b4)])) (fun t k => XS.isub X16.here hx rfl (hb hby d1_42) rfl k) ?_
                obtain ⟨cl99, Ar99, q99, S99, N99, Hs99, G99⟩ := id V_b4
                have hin99 : ¬ ((0 : Int32) < 0 ∨ cl99.slots.size ≤ ((0 : Int32)).toNatClampNeg) := inb_of S99 ⟨by decide, own_lt (by decide) hlt5⟩
                have hat99 : cl99.slots[((0 : Int32)).toNatClampNeg]? = some (.int 0) := Hs99.at hin99 rfl
                refine own_byW (T' := T16) (g' := (mkF m 44 #[.val (.ref pa), .val (.ref b4), .val (.int 1), .val (.int 5), .val (.int c5)] [(.int 0)])) (fun t k => X16.iaload hx (j := (0 : Int32)) (v := (.int 0)) (by rw [e16]; exact Ar99.1) (State.isArrayOf_alike hZ.alike Ar99.2.1) Ar99.2.2 hin99 hat99 (g := (mkF m 43 #[.val (.ref pa), .val (.ref b4), .val (.int 1), .val (.int 5), .val (.int c5)] [(.int 0), (.ref b4)])) rfl rfl (hb hby d1_43) _ k) ?_
                clear hat99 hin99 G99 Hs99 N99 S99 q99 Ar99 cl99
                refine own_byW (T' := T16) (g' := (mkF m 45 #[.val (.ref pa), .val (.ref b4), .val (.int 0), .val (.int 5), .val (.int c5)] [])) (fun t k => XS.istoreN X16.here hx rfl (hb hby d1_44) rfl (l' := #[.val (.ref pa), .val (.ref b4), .val (.int 0), .val (.int 5), .val (.int c5)]) rfl k) ?_
                refine own_byW (T' := T16) (g' := (mkF m 27 #[.val (.ref pa), .val (.ref b4), .val (.int 0), .val (.int 5), .val (.int c5)] [])) (fun t k => XS.goto X16.here hx rfl (pc0 := 45) (pc' := 27) rfl (hb hby d1_45) (by decide) (by decide) k) ?_
                refine own_byW (T' := T16) (g' := (mkF m 28 #[.val (.ref pa), .val (.ref b4), .val (.int 0), .val (.int 5), .val (.int c5)] [(.int 0)])) (fun t k => XS.iloadN X16.here hx rfl (hb hby d1_27) rfl k) ?_
                refine own_byW (T' := T16) (g' := (mkF m 48 #[.val (.ref pa), .val (.ref b4), .val (.int 0), .val (.int 5), .val (.int c5)] [])) (fun t k => XS.ifYes X16.here hx rfl (pc0 := 28) (pc' := 48) rfl (hb hby d1_28) rfl ((if0 _ _).trans (flt (by decide)).2.2.2) (by decide) (by decide) k) ?_
                refine own_byW (T' := T16) (g' := (mkF m 49 #[.val (.ref pa), .val (.ref b4), .val (.int 0), .val (.int 5), .val (.int c5)] [(.ref pa)])) (fun t k => XS.aloadN X16.here hx rfl (hb hby d1_48) rfl rfl k) ?_
                refine own_byW (T' := T16) (g' := (mkF m 50 #[.val (.ref pa), .val (.ref b4), .val (.int 0), .val (.int 5), .val (.int c5)] [(.int 0), (.ref pa)])) (fun t k => XS.iloadN X16.here hx rfl (hb hby d1_49) rfl k) ?_
                obtain ⟨cl100, Ar100, q100, S100, N100, Hs100, G100⟩ := id V_pa
                have hin100 : ¬ ((0 : Int32) < 0 ∨ cl100.slots.size ≤ ((0 : Int32)).toNatClampNeg) := inb_of S100 ⟨by decide, own_lt (by decide) hlt5⟩
                have hat100 : cl100.slots[((0 : Int32)).toNatClampNeg]? = some (.int c0) := Hs100.at hin100 rfl
                refine own_byW (T' := T16) (g' := (mkF m 51 #[.val (.ref pa), .val (.ref b4), .val (.int 0), .val (.int 5), .val (.int c5)] [(.int c0)])) (fun t k => X16.caload hx (j := (0 : Int32)) (v := (.int c0)) (by rw [e16]; exact Ar100.1) (State.isArrayOf_alike hZ.alike Ar100.2.1) Ar100.2.2 hin100 hat100 (g := (mkF m 50 #[.val (.ref pa), .val (.ref b4), .val (.int 0), .val (.int 5), .val (.int c5)] [(.int 0), (.ref pa)])) rfl rfl (hb hby d1_50) _ k) ?_
                clear hat100 hin100 G100 Hs100 N100 S100 q100 Ar100 cl100
                refine own_byW (T' := T16) (g' := (mkF m 53 #[.val (.ref pa), .val (.ref b4), .val (.int 0), .val (.int 5), .val (.int c5)] [(.int c5), (.int c0)])) (fun t k => XS.iload X16.here hx rfl (hb hby d1_51) rfl k) ?_
                by_cases hc53_101 : c0 = c5
                · refine own_byW (T' := T16) (g' := (mkF m 56 #[.val (.ref pa), .val (.ref b4), .val (.int 0), .val (.int 5), .val (.int c5)] [])) (fun t k => XS.icmpNo X16.here hx rfl (hb hby d1_53) rfl (teq hc53_101).2 k) ?_
                  refine own_byW (T' := T16) (g' := (mkF m 59 #[.val (.ref pa), .val (.ref b4), .val (.int 1), .val (.int 5), .val (.int c5)] [])) (fun t k => XS.iinc X16.here hx rfl (hb hby d1_56) rfl (l' := #[.val (.ref pa), .val (.ref b4), .val (.int 1), .val (.int 5), .val (.int c5)]) rfl k) ?_
                  exact own_j5 l Z a0 hw hx hby hml hlk hret pa nn kp c0 c1 c2 c3 c4 c5 h0 n0 hn0 hn6 hn7 b4 k4 t1 1 3 4 _ hS hZ hown (X16) e16 V_pa Zle N_ K_ hk_ ne_pa_b4 g_b4 sz_b4 V_b4 HB1 (Or.inr <| Or.inl ⟨rfl, f2⟩) (Or.inr <| Or.inr <| Or.inr <| ⟨rfl, f3⟩) (Or.inr <| Or.inr <| Or.inr <| Or.inr <| ⟨rfl, f4⟩) (own_leaf5_39 c0 c1 c2 c3 c4 c5 f4 f3 f2 hc36_67 hc36_91 hc36_97 hc53_101) hlt5
                · refine own_byW (T' := T16) (g' := (mkF m 59 #[.val (.ref pa), .val (.ref b4), .val (.int 0), .val (.int 5), .val (.int c5)] [])) (fun t k => XS.icmpYes X16.here hx rfl (pc0 := 53) (pc' := 59) rfl (hb hby d1_53) rfl (feq hc53_101).2 (by decide) (by decide) k) ?_
                  exact own_j5 l Z a0 hw hx hby hml hlk hret pa nn kp c0 c1 c2 c3 c4 c5 h0 n0 hn0 hn6 hn7 b4 k4 t1 1 3 4 _ hS hZ hown (X16) e16 V_pa Zle N_ K_ hk_ ne_pa_b4 g_b4 sz_b4 V_b4 HB1 (Or.inr <| Or.inl ⟨rfl, f2⟩) (Or.inr <| Or.inr <| Or.inr <| ⟨rfl, f3⟩) (Or.inr <| Or.inr <| Or.inr <| Or.inr <| ⟨rfl, f4⟩) (own_leaf5_40 c0 c1 c2 c3 c4 c5 f4 f3 f2 hc36_67 hc36_91 hc36_97 hc53_101) hlt5
            · refine own_byW (T' := T16) (g' := (mkF m 28 #[.val (.ref pa), .val (.ref b4), .val (.int 2), .val (.int 5), .val (.int c5)] [(.int 2)])) (fun t k => XS.iloadN X16.here hx rfl (hb hby d1_27) rfl k) ?_
              refine own_byW (T' := T16) (g' := (mkF m 31 #[.val (.ref pa), .val (.ref b4), .val (.int 2), .val (.int 5), .val (.int c5)] [])) (fun t k => XS.ifNo X16.here hx rfl (hb hby d1_28) rfl ((if0 _ _).trans (tlt (by decide)).2.2.2) k) ?_
              refine own_byW (T' := T16) (g' := (mkF m 32 #[.val (.ref pa), .val (.ref b4), .val (.int 2), .val (.int 5), .val (.int c5)] [(.ref pa)])) (fun t k => XS.aloadN X16.here hx rfl (hb hby d1_31) rfl rfl k) ?_
              refine own_byW (T' := T16) (g' := (mkF m 33 #[.val (.ref pa), .val (.ref b4), .val (.int 2), .val (.int 5), .val (.int c5)] [(.int 2), (.ref pa)])) (fun t k => XS.iloadN X16.here hx rfl (hb hby d1_32) rfl k) ?_
              obtain ⟨cl102, Ar102, q102, S102, N102, Hs102, G102⟩ := id V_pa
              have hin102 : ¬ ((2 : Int32) < 0 ∨ cl102.slots.size ≤ ((2 : Int32)).toNatClampNeg) := inb_of S102 ⟨by decide, own_lt (by decide) hlt5⟩
              have hat102 : cl102.slots[((2 : Int32)).toNatClampNeg]? = some (.int c2) := Hs102.at hin102 rfl
              refine own_byW (T' := T16) (g' := (mkF m 34 #[.val (.ref pa), .val (.ref b4), .val (.int 2), .val (.int 5), .val (.int c5)] [(.int c2)])) (fun t k => X16.caload hx (j := (2 : Int32)) (v := (.int c2)) (by rw [e16]; exact Ar102.1) (State.isArrayOf_alike hZ.alike Ar102.2.1) Ar102.2.2 hin102 hat102 (g := (mkF m 33 #[.val (.ref pa), .val (.ref b4), .val (.int 2), .val (.int 5), .val (.int c5)] [(.int 2), (.ref pa)])) rfl rfl (hb hby d1_33) _ k) ?_
              clear hat102 hin102 G102 Hs102 N102 S102 q102 Ar102 cl102
              refine own_byW (T' := T16) (g' := (mkF m 36 #[.val (.ref pa), .val (.ref b4), .val (.int 2), .val (.int 5), .val (.int c5)] [(.int c5), (.int c2)])) (fun t k => XS.iload X16.here hx rfl (hb hby d1_34) rfl k) ?_
              by_cases hc36_103 : c2 = c5
              · refine own_byW (T' := T16) (g' := (mkF m 48 #[.val (.ref pa), .val (.ref b4), .val (.int 2), .val (.int 5), .val (.int c5)] [])) (fun t k => XS.icmpYes X16.here hx rfl (pc0 := 36) (pc' := 48) rfl (hb hby d1_36) rfl (teq hc36_103).1 (by decide) (by decide) k) ?_
                refine own_byW (T' := T16) (g' := (mkF m 49 #[.val (.ref pa), .val (.ref b4), .val (.int 2), .val (.int 5), .val (.int c5)] [(.ref pa)])) (fun t k => XS.aloadN X16.here hx rfl (hb hby d1_48) rfl rfl k) ?_
                refine own_byW (T' := T16) (g' := (mkF m 50 #[.val (.ref pa), .val (.ref b4), .val (.int 2), .val (.int 5), .val (.int c5)] [(.int 2), (.ref pa)])) (fun t k => XS.iloadN X16.here hx rfl (hb hby d1_49) rfl k) ?_
                obtain ⟨cl104, Ar104, q104, S104, N104, Hs104, G104⟩ := id V_pa
                have hin104 : ¬ ((2 : Int32) < 0 ∨ cl104.slots.size ≤ ((2 : Int32)).toNatClampNeg) := inb_of S104 ⟨by decide, own_lt (by decide) hlt5⟩
                have hat104 : cl104.slots[((2 : Int32)).toNatClampNeg]? = some (.int c2) := Hs104.at hin104 rfl
                refine own_byW (T' := T16) (g' := (mkF m 51 #[.val (.ref pa), .val (.ref b4), .val (.int 2), .val (.int 5), .val (.int c5)] [(.int c2)])) (fun t k => X16.caload hx (j := (2 : Int32)) (v := (.int c2)) (by rw [e16]; exact Ar104.1) (State.isArrayOf_alike hZ.alike Ar104.2.1) Ar104.2.2 hin104 hat104 (g := (mkF m 50 #[.val (.ref pa), .val (.ref b4), .val (.int 2), .val (.int 5), .val (.int c5)] [(.int 2), (.ref pa)])) rfl rfl (hb hby d1_50) _ k) ?_
                clear hat104 hin104 G104 Hs104 N104 S104 q104 Ar104 cl104
                refine own_byW (T' := T16) (g' := (mkF m 53 #[.val (.ref pa), .val (.ref b4), .val (.int 2), .val (.int 5), .val (.int c5)] [(.int c5), (.int c2)])) (fun t k => XS.iload X16.here hx rfl (hb hby d1_51) rfl k) ?_
                refine own_byW (T' := T16) (g' := (mkF m 56 #[.val (.ref pa), .val (.ref b4), .val (.int 2), .val (.int 5), .val (.int c5)] [])) (fun t k => XS.icmpNo X16.here hx rfl (hb hby d1_53) rfl (teq hc36_103).2 k) ?_
                refine own_byW (T' := T16) (g' := (mkF m 59 #[.val (.ref pa), .val (.ref b4), .val (.int 3), .val (.int 5), .val (.int c5)] [])) (fun t k => XS.iinc X16.here hx rfl (hb hby d1_56) rfl (l' := #[.val (.ref pa), .val (.ref b4), .val (.int 3), .val (.int 5), .val (.int c5)]) rfl k) ?_
                exact own_j5 l Z a0 hw hx hby hml hlk hret pa nn kp c0 c1 c2 c3 c4 c5 h0 n0 hn0 hn6 hn7 b4 k4 t1 2 3 4 _ hS hZ hown (X16) e16 V_pa Zle N_ K_ hk_ ne_pa_b4 g_b4 sz_b4 V_b4 HB1 (Or.inr <| Or.inr <| ⟨rfl, f2⟩) (Or.inr <| Or.inr <| Or.inr <| ⟨rfl, f3⟩) (Or.inr <| Or.inr <| Or.inr <| Or.inr <| ⟨rfl, f4⟩) (own_leaf5_41 c0 c1 c2 c3 c4 c5 f4 f3 f2 hc36_67 hc36_91 hc36_103) hlt5
              · refine own_byW (T' := T16) (g' := (mkF m 39 #[.val (.ref pa), .val (.ref b4), .val (.int 2), .val (.int 5), .val (.int c5)] [])) (fun t k => XS.icmpNo X16.here hx rfl (hb hby d1_36) rfl (feq hc36_103).1 k) ?_
                refine own_byW (T' := T16) (g' := (mkF m 40 #[.val (.ref pa), .val (.ref b4), .val (.int 2), .val (.int 5), .val (.int c5)] [(.ref b4)])) (fun t k => XS.aloadN X16.here hx rfl (hb hby d1_39) rfl rfl k) ?_
                refine own_byW (T' := T16) (g' := (mkF m 41 #[.val (.ref pa), .val (.ref b4), .val (.int 2), .val (.int 5), .val (.int c5)] [(.int 2), (.ref b4)])) (fun t k => XS.iloadN X16.here hx rfl (hb hby d1_40) rfl k) ?_
                refine own_byW (T' := T16) (g' := (mkF m 42 #[.val (.ref pa), .val (.ref b4), .val (.int 2), .val (.int 5), .val (.int c5)] [(.int 1), (.int 2), (.ref b4)])) (fun t k => XS.iconst X16.here hx rfl (hb hby d1_41) k) ?_
                refine own_byW (T' := T16) (g' := (mkF m 43 #[.val (.ref pa), .val (.ref b4), .val (.int 2), .val (.int 5), .val (.int c5)] [(.int 1), (.ref b4)])) (fun t k => XS.isub X16.here hx rfl (hb hby d1_42) rfl k) ?_
                obtain ⟨cl105, Ar105, q105, S105, N105, Hs105, G105⟩ := id V_b4
                have hin105 : ¬ ((1 : Int32) < 0 ∨ cl105.slots.size ≤ ((1 : Int32)).toNatClampNeg) := inb_of S105 ⟨by decide, own_lt (by decide) hlt5⟩
                have hat105 : cl105.slots[((1 : Int32)).toNatClampNeg]? = some (.int t1) := Hs105.at hin105 rfl
                refine own_byW (T' := T16) (g' := (mkF m 44 #[.val (.ref pa), .val (.ref b4), .val (.int 2), .val (.int 5), .val (.int c5)] [(.int t1)])) (fun t k => X16.iaload hx (j := (1 : Int32)) (v := (.int t1)) (by rw [e16]; exact Ar105.1) (State.isArrayOf_alike hZ.alike Ar105.2.1) Ar105.2.2 hin105 hat105 (g := (mkF m 43 #[.val (.ref pa), .val (.ref b4), .val (.int 2), .val (.int 5), .val (.int c5)] [(.int 1), (.ref b4)])) rfl rfl (hb hby d1_43) _ k) ?_
                clear hat105 hin105 G105 Hs105 N105 S105 q105 Ar105 cl105
                refine own_byW (T' := T16) (g' := (mkF m 45 #[.val (.ref pa), .val (.ref b4), .val (.int t1), .val (.int 5), .val (.int c5)] [])) (fun t k => XS.istoreN X16.here hx rfl (hb hby d1_44) rfl (l' := #[.val (.ref pa), .val (.ref b4), .val (.int t1), .val (.int 5), .val (.int c5)]) rfl k) ?_
                refine own_byW (T' := T16) (g' := (mkF m 27 #[.val (.ref pa), .val (.ref b4), .val (.int t1), .val (.int 5), .val (.int c5)] [])) (fun t k => XS.goto X16.here hx rfl (pc0 := 45) (pc' := 27) rfl (hb hby d1_45) (by decide) (by decide) k) ?_
                rcases HB1 with ⟨rfl, f1⟩ | ⟨rfl, f1⟩
                · refine own_byW (T' := T16) (g' := (mkF m 28 #[.val (.ref pa), .val (.ref b4), .val (.int 0), .val (.int 5), .val (.int c5)] [(.int 0)])) (fun t k => XS.iloadN X16.here hx rfl (hb hby d1_27) rfl k) ?_
                  refine own_byW (T' := T16) (g' := (mkF m 48 #[.val (.ref pa), .val (.ref b4), .val (.int 0), .val (.int 5), .val (.int c5)] [])) (fun t k => XS.ifYes X16.here hx rfl (pc0 := 28) (pc' := 48) rfl (hb hby d1_28) rfl ((if0 _ _).trans (flt (by decide)).2.2.2) (by decide) (by decide) k) ?_
                  refine own_byW (T' := T16) (g' := (mkF m 49 #[.val (.ref pa), .val (.ref b4), .val (.int 0), .val (.int 5), .val (.int c5)] [(.ref pa)])) (fun t k => XS.aloadN X16.here hx rfl (hb hby d1_48) rfl rfl k) ?_
                  refine own_byW (T' := T16) (g' := (mkF m 50 #[.val (.ref pa), .val (.ref b4), .val (.int 0), .val (.int 5), .val (.int c5)] [(.int 0), (.ref pa)])) (fun t k => XS.iloadN X16.here hx rfl (hb hby d1_49) rfl k) ?_
                  obtain ⟨cl106, Ar106, q106, S106, N106, Hs106, G106⟩ := id V_pa
                  have hin106 : ¬ ((0 : Int32) < 0 ∨ cl106.slots.size ≤ ((0 : Int32)).toNatClampNeg) := inb_of S106 ⟨by decide, own_lt (by decide) hlt5⟩
                  have hat106 : cl106.slots[((0 : Int32)).toNatClampNeg]? = some (.int c0) := Hs106.at hin106 rfl
                  refine own_byW (T' := T16) (g' := (mkF m 51 #[.val (.ref pa), .val (.ref b4), .val (.int 0), .val (.int 5), .val (.int c5)] [(.int c0)])) (fun t k => X16.caload hx (j := (0 : Int32)) (v := (.int c0)) (by rw [e16]; exact Ar106.1) (State.isArrayOf_alike hZ.alike Ar106.2.1) Ar106.2.2 hin106 hat106 (g := (mkF m 50 #[.val (.ref pa), .val (.ref b4), .val (.int 0), .val (.int 5), .val (.int c5)] [(.int 0), (.ref pa)])) rfl rfl (hb hby d1_50) _ k) ?_
                  clear hat106 hin106 G106 Hs106 N106 S106 q106 Ar106 cl106
                  refine own_byW (T' := T16) (g' := (mkF m 53 #[.val (.ref pa), .val (.ref b4), .val (.int 0), .val (.int 5), .val (.int c5)] [(.int c5), (.int c0)])) (fun t k => XS.iload X16.here hx rfl (hb hby d1_51) rfl k) ?_
                  by_cases hc53_107 : c0 = c5
                  · refine own_byW (T' := T16) (g' := (mkF m 56 #[.val (.ref pa), .val (.ref b4), .val (.int 0), .val (.int 5), .val (.int c5)] [])) (fun t k => XS.icmpNo X16.here hx rfl (hb hby d1_53) rfl (teq hc53_107).2 k) ?_
                    refine own_byW (T' := T16) (g' := (mkF m 59 #[.val (.ref pa), .val (.ref b4), .val (.int 1), .val (.int 5), .val (.int c5)] [])) (fun t k => XS.iinc X16.here hx rfl (hb hby d1_56) rfl (l' := #[.val (.ref pa), .val (.ref b4), .val (.int 1), .val (.int 5), .val (.int c5)]) rfl k) ?_
                    exact own_j5 l Z a0 hw hx hby hml hlk hret pa nn kp c0 c1 c2 c3 c4 c5 h0 n0 hn0 hn6 hn7 b4 k4 0 2 3 4 _ hS hZ hown (X16) e16 V_pa Zle N_ K_ hk_ ne_pa_b4 g_b4 sz_b4 V_b4 (Or.inl ⟨rfl, f1⟩) (Or.inr <| Or.inr <| ⟨rfl, f2⟩) (Or.inr <| Or.inr <| Or.inr <| ⟨rfl, f3⟩) (Or.inr <| Or.inr <| Or.inr <| Or.inr <| ⟨rfl, f4⟩) (own_leaf5_42 c0 c1 c2 c3 c4 c5 f4 f3 f2 f1 hc36_67 hc36_91 hc36_103 hc53_107) hlt5
                  · refine own_byW (T' := T16) (g' := (mkF m 59 #[.val (.ref pa), .val (.ref b4), .val (.int 0), .val (.int 5), .val (.int c5)] [])) (fun t k => XS.icmpYes X16.here hx rfl (pc0 := 53) (pc' := 59) rfl (hb hby d1_53) rfl (feq hc53_107).2 (by decide) (by decide) k) ?_
                    exact own_j5 l Z a0 hw hx hby hml hlk hret pa nn kp c0 c1 c2 c3 c4 c5 h0 n0 hn0 hn6 hn7 b4 k4 0 2 3 4 _ hS hZ hown (X16) e16 V_pa Zle N_ K_ hk_ ne_pa_b4 g_b4 sz_b4 V_b4 (Or.inl ⟨rfl, f1⟩) (Or.inr <| Or.inr <| ⟨rfl, f2⟩) (Or.inr <| Or.inr <| Or.inr <| ⟨rfl, f3⟩) (Or.inr <| Or.inr <| Or.inr <| Or.inr <| ⟨rfl, f4⟩) (own_leaf5_43 c0 c1 c2 c3 c4 c5 f4 f3 f2 f1 hc36_67 hc36_91 hc36_103 hc53_107) hlt5
                · refine own_byW (T' := T16) (g' := (mkF m 28 #[.val (.ref pa), .val (.ref b4), .val (.int 1), .val (.int 5), .val (.int c5)] [(.int 1)])) (fun t k => XS.iloadN X16.here hx rfl (hb hby d1_27) rfl k) ?_
                  refine own_byW (T' := T16) (g' := (mkF m 31 #[.val (.ref pa), .val (.ref b4), .val (.int 1), .val (.int 5), .val (.int c5)] [])) (fun t k => XS.ifNo X16.here hx rfl (hb hby d1_28) rfl ((if0 _ _).trans (tlt (by decide)).2.2.2) k) ?_
                  refine own_byW (T' := T16) (g' := (mkF m 32 #[.val (.ref pa), .val (.ref b4), .val (.int 1), .val (.int 5), .val (.int c5)] [(.ref pa)])) (fun t k => XS.aloadN X16.here hx rfl (hb hby d1_31) rfl rfl k) ?_
                  refine own_byW (T' := T16) (g' := (mkF m 33 #[.val (.ref pa), .val (.ref b4), .val (.int 1), .val (.int 5), .val (.int c5)] [(.int 1), (.ref pa)])) (fun t k => XS.iloadN X16.here hx rfl (hb hby d1_32) rfl k) ?_
                  obtain ⟨cl108, Ar108, q108, S108, N108, Hs108, G108⟩ := id V_pa
                  have hin108 : ¬ ((1 : Int32) < 0 ∨ cl108.slots.size ≤ ((1 : Int32)).toNatClampNeg) := inb_of S108 ⟨by decide, own_lt (by decide) hlt5⟩
                  have hat108 : cl108.slots[((1 : Int32)).toNatClampNeg]? = some (.int c1) := Hs108.at hin108 rfl
                  refine own_byW (T' := T16) (g' := (mkF m 34 #[.val (.ref pa), .val (.ref b4), .val (.int 1), .val (.int 5), .val (.int c5)] [(.int c1)])) (fun t k => X16.caload hx (j := (1 : Int32)) (v := (.int c1)) (by rw [e16]; exact Ar108.1) (State.isArrayOf_alike hZ.alike Ar108.2.1) Ar108.2.2 hin108 hat108 (g := (mkF m 33 #[.val (.ref pa), .val (.ref b4), .val (.int 1), .val (.int 5), .val (.int c5)] [(.int 1), (.ref pa)])) rfl rfl (hb hby d1_33) _ k) ?_
                  clear hat108 hin108 G108 Hs108 N108 S108 q108 Ar108 cl108
                  refine own_byW (T' := T16) (g' := (mkF m 36 #[.val (.ref pa), .val (.ref b4), .val (.int 1), .val (.int 5), .val (.int c5)] [(.int c5), (.int c1)])) (fun t k => XS.iload X16.here hx rfl (hb hby d1_34) rfl k) ?_
                  by_cases hc36_109 : c1 = c5
                  · refine own_byW (T' := T16) (g' := (mkF m 48 #[.val (.ref pa), .val (.ref b4), .val (.int 1), .val (.int 5), .val (.int c5)] [])) (fun t k => XS.icmpYes X16.here hx rfl (pc0 := 36) (pc' := 48) rfl (hb hby d1_36) rfl (teq hc36_109).1 (by decide) (by decide) k) ?_
                    refine own_byW (T' := T16) (g' := (mkF m 49 #[.val (.ref pa), .val (.ref b4), .val (.int 1), .val (.int 5), .val (.int c5)] [(.ref pa)])) (fun t k => XS.aloadN X16.here hx rfl (hb hby d1_48) rfl rfl k) ?_
                    refine own_byW (T' := T16) (g' := (mkF m 50 #[.val (.ref pa), .val (.ref b4), .val (.int 1), .val (.int 5), .val (.int c5)] [(.int 1), (.ref pa)])) (fun t k => XS.iloadN X16.here hx rfl (hb hby d1_49) rfl k) ?_
                    obtain ⟨cl110, Ar110, q110, S110, N110, Hs110, G110⟩ := id V_pa
                    have hin110 : ¬ ((1 : Int32) < 0 ∨ cl110.slots.size ≤ ((1 : Int32)).toNatClampNeg) := inb_of S110 ⟨by decide, own_lt (by decide) hlt5⟩
                    have hat110 : cl110.slots[((1 : Int32)).toNatClampNeg]? = some (.int c1) := Hs110.at hin110 rfl
                    refine own_byW (T' := T16) (g' := (mkF m 51 #[.val (.ref pa), .val (.ref b4), .val (.int 1), .val (.int 5), .val (.int c5)] [(.int c1)])) (fun t k => X16.caload hx (j := (1 : Int32)) (v := (.int c1)) (by rw [e16]; exact Ar110.1) (State.isArrayOf_alike hZ.alike Ar110.2.1) Ar110.2.2 hin110 hat110 (g := (mkF m 50 #[.val (.ref pa), .val (.ref b4), .val (.int 1), .val (.int 5), .val (.int c5)] [(.int 1), (.ref pa)])) rfl rfl (hb hby d1_50) _ k) ?_
                    clear hat110 hin110 G110 Hs110 N110 S110 q110 Ar110 cl110
                    refine own_byW (T' := T16) (g' := (mkF m 53 #[.val (.ref pa), .val (.ref b4), .val (.int 1), .val (.int 5), .val (.int c5)] [(.int c5), (.int c1)])) (fun t k => XS.iload X16.here hx rfl (hb hby d1_51) rfl k) ?_
                    refine own_byW (T' := T16) (g' := (mkF m 56 #[.val (.ref pa), .val (.ref b4), .val (.int 1), .val (.int 5), .val (.int c5)] [])) (fun t k => XS.icmpNo X16.here hx rfl (hb hby d1_53) rfl (teq hc36_109).2 k) ?_
                    refine own_byW (T' := T16) (g' := (mkF m 59 #[.val (.ref pa), .val (.ref b4), .val (.int 2), .val (.int 5), .val (.int c5)] [])) (fun t k => XS.iinc X16.here hx rfl (hb hby d1_56) rfl (l' := #[.val (.ref pa), .val (.ref b4), .val (.int 2), .val (.int 5), .val (.int c5)]) rfl k) ?_
                    exact own_j5 l Z a0 hw hx hby hml hlk hret pa nn kp c0 c1 c2 c3 c4 c5 h0 n0 hn0 hn6 hn7 b4 k4 1 2 3 4 _ hS hZ hown (X16) e16 V_pa Zle N_ K_ hk_ ne_pa_b4 g_b4 sz_b4 V_b4 (Or.inr <| ⟨rfl, f1⟩) (Or.inr <| Or.inr <| ⟨rfl, f2⟩) (Or.inr <| Or.inr <| Or.inr <| ⟨rfl, f3⟩) (Or.inr <| Or.inr <| Or.inr <| Or.inr <| ⟨rfl, f4⟩) (own_leaf5_44 c0 c1 c2 c3 c4 c5 f4 f3 f2 f1 hc36_67 hc36_91 hc36_103 hc36_109) hlt5
                  · refine own_byW (T' := T16) (g' := (mkF m 39 #[.val (.ref pa), .val (.ref b4), .val (.int 1), .val (.int 5), .val (.int c5)] [])) (fun t k => XS.icmpNo X16.here hx rfl (hb hby d1_36) rfl (feq hc36_109).1 k) ?_
                    refine own_byW (T' := T16) (g' := (mkF m 40 #[.val (.ref pa), .val (.ref b4), .val (.int 1), .val (.int 5), .val (.int c5)] [(.ref b4)])) (fun t k => XS.aloadN X16.here hx rfl (hb hby d1_39) rfl rfl k) ?_
                    refine own_byW (T' := T16) (g' := (mkF m 41 #[.val (.ref pa), .val (.ref b4), .val (.int 1), .val (.int 5), .val (.int c5)] [(.int 1), (.ref b4)])) (fun t k => XS.iloadN X16.here hx rfl (hb hby d1_40) rfl k) ?_
                    refine own_byW (T' := T16) (g' := (mkF m 42 #[.val (.ref pa), .val (.ref b4), .val (.int 1), .val (.int 5), .val (.int c5)] [(.int 1), (.int 1), (.ref b4)])) (fun t k => XS.iconst X16.here hx rfl (hb hby d1_41) k) ?_
                    refine own_byW (T' := T16) (g' := (mkF m 43 #[.val (.ref pa), .val (.ref b4), .val (.int 1), .val (.int 5), .val (.int c5)] [(.int 0), (.ref b4)])) (fun t k => XS.isub X16.here hx rfl (hb hby d1_42) rfl k) ?_
                    obtain ⟨cl111, Ar111, q111, S111, N111, Hs111, G111⟩ := id V_b4
                    have hin111 : ¬ ((0 : Int32) < 0 ∨ cl111.slots.size ≤ ((0 : Int32)).toNatClampNeg) := inb_of S111 ⟨by decide, own_lt (by decide) hlt5⟩
                    have hat111 : cl111.slots[((0 : Int32)).toNatClampNeg]? = some (.int 0) := Hs111.at hin111 rfl
                    refine own_byW (T' := T16) (g' := (mkF m 44 #[.val (.ref pa), .val (.ref b4), .val (.int 1), .val (.int 5), .val (.int c5)] [(.int 0)])) (fun t k => X16.iaload hx (j := (0 : Int32)) (v := (.int 0)) (by rw [e16]; exact Ar111.1) (State.isArrayOf_alike hZ.alike Ar111.2.1) Ar111.2.2 hin111 hat111 (g := (mkF m 43 #[.val (.ref pa), .val (.ref b4), .val (.int 1), .val (.int 5), .val (.int c5)] [(.int 0), (.ref b4)])) rfl rfl (hb hby d1_43) _ k) ?_
                    clear hat111 hin111 G111 Hs111 N111 S111 q111 Ar111 cl111
                    refine own_byW (T' := T16) (g' := (mkF m 45 #[.val (.ref pa), .val (.ref b4), .val (.int 0), .val (.int 5), .val (.int c5)] [])) (fun t k => XS.istoreN X16.here hx rfl (hb hby d1_44) rfl (l' := #[.val (.ref pa), .val (.ref b4), .val (.int 0), .val (.int 5), .val (.int c5)]) rfl k) ?_
                    refine own_byW (T' := T16) (g' := (mkF m 27 #[.val (.ref pa), .val (.ref b4), .val (.int 0), .val (.int 5), .val (.int c5)] [])) (fun t k => XS.goto X16.here hx rfl (pc0 := 45) (pc' := 27) rfl (hb hby d1_45) (by decide) (by decide) k) ?_
                    refine own_byW (T' := T16) (g' := (mkF m 28 #[.val (.ref pa), .val (.ref b4), .val (.int 0), .val (.int 5), .val (.int c5)] [(.int 0)])) (fun t k => XS.iloadN X16.here hx rfl (hb hby d1_27) rfl k) ?_
                    refine own_byW (T' := T16) (g' := (mkF m 48 #[.val (.ref pa), .val (.ref b4), .val (.int 0), .val (.int 5), .val (.int c5)] [])) (fun t k => XS.ifYes X16.here hx rfl (pc0 := 28) (pc' := 48) rfl (hb hby d1_28) rfl ((if0 _ _).trans (flt (by decide)).2.2.2) (by decide) (by decide) k) ?_
                    refine own_byW (T' := T16) (g' := (mkF m 49 #[.val (.ref pa), .val (.ref b4), .val (.int 0), .val (.int 5), .val (.int c5)] [(.ref pa)])) (fun t k => XS.aloadN X16.here hx rfl (hb hby d1_48) rfl rfl k) ?_
                    refine own_byW (T' := T16) (g' := (mkF m 50 #[.val (.ref pa), .val (.ref b4), .val (.int 0), .val (.int 5), .val (.int c5)] [(.int 0), (.ref pa)])) (fun t k => XS.iloadN X16.here hx rfl (hb hby d1_49) rfl k) ?_
                    obtain ⟨cl112, Ar112, q112, S112, N112, Hs112, G112⟩ := id V_pa
                    have hin112 : ¬ ((0 : Int32) < 0 ∨ cl112.slots.size ≤ ((0 : Int32)).toNatClampNeg) := inb_of S112 ⟨by decide, own_lt (by decide) hlt5⟩
                    have hat112 : cl112.slots[((0 : Int32)).toNatClampNeg]? = some (.int c0) := Hs112.at hin112 rfl
                    refine own_byW (T' := T16) (g' := (mkF m 51 #[.val (.ref pa), .val (.ref b4), .val (.int 0), .val (.int 5), .val (.int c5)] [(.int c0)])) (fun t k => X16.caload hx (j := (0 : Int32)) (v := (.int c0)) (by rw [e16]; exact Ar112.1) (State.isArrayOf_alike hZ.alike Ar112.2.1) Ar112.2.2 hin112 hat112 (g := (mkF m 50 #[.val (.ref pa), .val (.ref b4), .val (.int 0), .val (.int 5), .val (.int c5)] [(.int 0), (.ref pa)])) rfl rfl (hb hby d1_50) _ k) ?_
                    clear hat112 hin112 G112 Hs112 N112 S112 q112 Ar112 cl112
                    refine own_byW (T' := T16) (g' := (mkF m 53 #[.val (.ref pa), .val (.ref b4), .val (.int 0), .val (.int 5), .val (.int c5)] [(.int c5), (.int c0)])) (fun t k => XS.iload X16.here hx rfl (hb hby d1_51) rfl k) ?_
                    by_cases hc53_113 : c0 = c5
                    · refine own_byW (T' := T16) (g' := (mkF m 56 #[.val (.ref pa), .val (.ref b4), .val (.int 0), .val (.int 5), .val (.int c5)] [])) (fun t k => XS.icmpNo X16.here hx rfl (hb hby d1_53) rfl (teq hc53_113).2 k) ?_
                      refine own_byW (T' := T16) (g' := (mkF m 59 #[.val (.ref pa), .val (.ref b4), .val (.int 1), .val (.int 5), .val (.int c5)] [])) (fun t k => XS.iinc X16.here hx rfl (hb hby d1_56) rfl (l' := #[.val (.ref pa), .val (.ref b4), .val (.int 1), .val (.int 5), .val (.int c5)]) rfl k) ?_
                      exact own_j5 l Z a0 hw hx hby hml hlk hret pa nn kp c0 c1 c2 c3 c4 c5 h0 n0 hn0 hn6 hn7 b4 k4 1 2 3 4 _ hS hZ hown (X16) e16 V_pa Zle N_ K_ hk_ ne_pa_b4 g_b4 sz_b4 V_b4 (Or.inr <| ⟨rfl, f1⟩) (Or.inr <| Or.inr <| ⟨rfl, f2⟩) (Or.inr <| Or.inr <| Or.inr <| ⟨rfl, f3⟩) (Or.inr <| Or.inr <| Or.inr <| Or.inr <| ⟨rfl, f4⟩) (own_leaf5_45 c0 c1 c2 c3 c4 c5 f4 f3 f2 f1 hc36_67 hc36_91 hc36_103 hc36_109 hc53_113) hlt5
                    · refine own_byW (T' := T16) (g' := (mkF m 59 #[.val (.ref pa), .val (.ref b4), .val (.int 0), .val (.int 5), .val (.int c5)] [])) (fun t k => XS.icmpYes X16.here hx rfl (pc0 := 53) (pc' := 59) rfl (hb hby d1_53) rfl (feq hc53_113).2 (by decide) (by decide) k) ?_
                      exact own_j5 l Z a0 hw hx hby hml hlk hret pa nn kp c0 c1 c2 c3 c4 c5 h0 n0 hn0 hn6 hn7 b4 k4 1 2 3 4 _ hS hZ hown (X16) e16 V_pa Zle N_ K_ hk_ ne_pa_b4 g_b4 sz_b4 V_b4 (Or.inr <| ⟨rfl, f1⟩) (Or.inr <| Or.inr <| ⟨rfl, f2⟩) (Or.inr <| Or.inr <| Or.inr <| ⟨rfl, f3⟩) (Or.inr <| Or.inr <| Or.inr <| Or.inr <| ⟨rfl, f4⟩) (own_leaf5_46 c0 c1 c2 c3 c4 c5 f4 f3 f2 f1 hc36_67 hc36_91 hc36_103 hc36_109 hc53_113) hlt5
  · refine own_byW (T' := T16) (g' := (mkF m 69 #[.val (.ref pa), .val (.ref b4), .val (.int t4), .val (.int 5), .val (.int c4)] [])) (fun t k => XS.icmpYes X16.here hx rfl (pc0 := 19) (pc' := 69) rfl (hb hby d1_19) rfl (flt hc19_18).2.1 (by decide) (by decide) k) ?_
    refine own_byW (T' := T16) (g' := (mkF m 70 #[.val (.ref pa), .val (.ref b4), .val (.int t4), .val (.int 5), .val (.int c4)] [(.ref b4)])) (fun t k => XS.aloadN X16.here hx rfl (hb hby d1_69) rfl rfl k) ?_
    have hend := hc19_18
    exact own_retAW X16 hS (by rw [e16]; exact hk_) hx (t := (.array .int)) hlk hret rfl rfl rfl (hb hby d1_70) (by decide) (by decide) (by rw [e16]; exact ⟨b4, t1, t2, t3, t4, 0, _, rfl, N_, K_, sz_b4, V_b4, (fun _ => HB1), (fun _ => HB2), (fun _ => HB3), (fun _ => HB4), (fun q => absurd (own_lt (by decide) q) hend)⟩)
set_option maxRecDepth 65536 in
set_option maxHeartbeats 40000000 in
theorem own_j3 (l : Launch) (Z : State) (a0 : Array Value) (hw : ∀ d ∈ tables_1, d.before a0 Z = true) {p : Program} {e : Env} {s : State} {m : MethodId} {below : List Frame} {meth : Method} {c : Code} (hx : p.tables.exec = Jvm.exec) (hby : c.code = prog_15_method_2_code) (hml : c.maxLocals = 5) (hlk : meth.locks = false) (hret : meth.sig.returnType = (some (.array .int))) (pa : Addr) (nn : Int32) (kp : ClassId) (c0 : Int32) (c1 : Int32) (c2 : Int32) (c3 : Int32) (c4 : Int32) (c5 : Int32) (h0 : Heap) (n0 : Nat) (hn0 : ¬ nn < 0) (hn6 : nn.toNatClampNeg ≤ 6) (hn7 : nn < 7) (b4 : Addr) (k4 : ClassId) (t1 : Int32) (t2 : Int32) (t3 : Int32) {Tj : State} {hj : Heap} {locsj : List Loc} {vm0 : Vm} {kk0 : Nat} (hS : s.Since vm0 kk0)
    (hZ : Z.Warmed39 (s.setVm vm0).vm) (hown : (s.setVm vm0).vm.findClass "com/example/emu/emu/PrefixTable" = some m.cls) (Xj : Stand p l e ({ frames := 1, cells := 3, slots := 38, locals := 13 } : Room) (s.setVm vm0) m #[(.ref pa)] below meth c Tj locsj 3 38) (ej : Tj.heap = hj)
    (V_pa : Arv Z hj pa kp .char nn [(.int c0), (.int c1), (.int c2), (.int c3), (.int c4), (.int c5)] (.int 0)) (Zle : n0 ≤ hj.size) (N_ : Fr n0 locsj) (K_ : Keep h0 hj []) (hk_ : kk0 ≤ hj.size) (ne_pa_b4 : pa ≠ b4) (g_b4 : n0 ≤ b4) (sz_b4 : h0.size ≤ b4) (V_b4 : Arv Z hj b4 k4 .int nn [(.int 0), (.int t1), (.int t2), (.int 0), (.int 0), (.int 0)] (.int 0)) (HB1 : own_B1 c0 c1 t1) (HB2 : own_B2 c0 c1 c2 t2) (HB3 : own_B3 c0 c1 c2 c3 t3) (hlt3 : (3 : Int32) < nn) : own_GoesW p.tables e below s (Q1 Z pa nn kp c0 c1 c2 c3 c4 c5 h0 n0) ({ frames := 1, cells := 3, slots := 38, locals := 13 } : Room).cells ({ frames := 1, cells := 3, slots := 38, locals := 13 } : Room).slots Tj (mkF m 59 #[.val (.ref pa), .val (.ref b4), .val (.int t3), .val (.int 3), .val (.int c3)] []) := by
  refine own_byW (T' := Tj) (g' := (mkF m 60 #[.val (.ref pa), .val (.ref b4), .val (.int t3), .val (.int 3), .val (.int c3)] [(.ref b4)])) (fun t k => XS.aloadN Xj.here hx rfl (hb hby d1_59) rfl rfl k) ?_
  refine own_byW (T' := Tj) (g' := (mkF m 61 #[.val (.ref pa), .val (.ref b4), .val (.int t3), .val (.int 3), .val (.int c3)] [(.int 3), (.ref b4)])) (fun t k => XS.iloadN Xj.here hx rfl (hb hby d1_60) rfl k) ?_
  refine own_byW (T' := Tj) (g' := (mkF m 62 #[.val (.ref pa), .val (.ref b4), .val (.int t3), .val (.int 3), .val (.int c3)] [(.int t3), (.int 3), (.ref b4)])) (fun t k => XS.iloadN Xj.here hx rfl (hb hby d1_61) rfl k) ?_
  obtain ⟨cl13, Ar13, q13, S13, N13, Hs13, G13⟩ := id V_b4
  have hin13 : ¬ ((3 : Int32) < 0 ∨ cl13.slots.size ≤ ((3 : Int32)).toNatClampNeg) := inb_of S13 ⟨by decide, hlt3⟩
  obtain ⟨T13, h13, X13, e13, W13, st13⟩ := stI Xj hx hZ ej Ar13 (j := (3 : Int32)) hin13 (g := (mkF m 62 #[.val (.ref pa), .val (.ref b4), .val (.int t3), .val (.int 3), .val (.int c3)] [(.int t3), (.int 3), (.ref b4)])) rfl rfl (hb hby d1_62)
  have V_b4_ : Arv Z h13 b4 k4 .int nn [(.int 0), (.int t1), (.int t2), (.int t3), (.int 0), (.int 0)] (.int 0) := Arv.set Ar13 q13 S13 N13 Hs13 G13 rfl W13 3 rfl (Nat.le_of_ble_eq_true rfl)
  replace V_pa := V_pa.other W13 ne_pa_b4
  replace Zle := Nat.le_trans Zle (Keep.of_wr W13).1
  replace K_ := K_.wr W13 (Or.inr sz_b4)
  replace hk_ := Nat.le_trans hk_ (Keep.of_wr W13).1
  replace V_b4 := V_b4_
  clear V_b4_ W13 hin13 G13 Hs13 N13 S13 q13 Ar13
  replace N_ := Fr.snoc X13 N_ g_b4
  refine own_byW (T' := T13) (g' := (mkF m 63 #[.val (.ref pa), .val (.ref b4), .val (.int t3), .val (.int 3), .val (.int c3)] [])) (fun t k => st13 t k) ?_
  clear st13
  refine own_byW (T' := T13) (g' := (mkF m 66 #[.val (.ref pa), .val (.ref b4), .val (.int t3), .val (.int 4), .val (.int c3)] [])) (fun t k => XS.iinc X13.here hx rfl (hb hby d1_63) rfl (l' := #[.val (.ref pa), .val (.ref b4), .val (.int t3), .val (.int 4), .val (.int c3)]) rfl k) ?_
  refine own_byW (T' := T13) (g' := (mkF m 16 #[.val (.ref pa), .val (.ref b4), .val (.int t3), .val (.int 4), .val (.int c3)] [])) (fun t k => XS.goto X13.here hx rfl (pc0 := 66) (pc' := 16) rfl (hb hby d1_66) (by decide) (by decide) k) ?_
  refine own_byW (T' := T13) (g' := (mkF m 17 #[.val (.ref pa), .val (.ref b4), .val (.int t3), .val (.int 4), .val (.int c3)] [(.int 4)])) (fun t k => XS.iloadN X13.here hx rfl (hb hby d1_16) rfl k) ?_
  refine own_byW (T' := T13) (g' := (mkF m 18 #[.val (.ref pa), .val (.ref b4), .val (.int t3), .val (.int 4), .val (.int c3)] [(.ref b4), (.int 4)])) (fun t k => XS.aloadN X13.here hx rfl (hb hby d1_17) rfl rfl k) ?_
  obtain ⟨cl14, Ar14, -, S14, N14, -, -⟩ := id V_b4
  have st14 : ∀ t, Steps p.tables e below (T13.setTop (mkF m 19 #[.val (.ref pa), .val (.ref b4), .val (.int t3), .val (.int 4), .val (.int c3)] [(.int nn), (.int 4)])) t → Steps p.tables e below (T13.setTop (mkF m 18 #[.val (.ref pa), .val (.ref b4), .val (.int t3), .val (.int 4), .val (.int c3)] [(.ref b4), (.int 4)])) t := fun t k => X13.arraylength hx (by rw [e13]; exact Ar14.1) (State.isArrayOf_alike hZ.alike Ar14.2.1) (g := (mkF m 18 #[.val (.ref pa), .val (.ref b4), .val (.int t3), .val (.int 4), .val (.int c3)] [(.ref b4), (.int 4)])) rfl rfl (hb hby d1_18) _ (by rw [len_of S14 N14]; exact k)
  refine own_byW (T' := T13) (g' := (mkF m 19 #[.val (.ref pa), .val (.ref b4), .val (.int t3), .val (.int 4), .val (.int c3)] [(.int nn), (.int 4)])) (fun t k => st14 t k) ?_
  clear st14
  by_cases hc19_15 : (4 : Int32) < nn
  · refine own_byW (T' := T13) (g' := (mkF m 22 #[.val (.ref pa), .val (.ref b4), .val (.int t3), .val (.int 4), .val (.int c3)] [])) (fun t k => XS.icmpNo X13.here hx rfl (hb hby d1_19) rfl (tlt hc19_15).2.1 k) ?_
    have hlt4 := hc19_15
    refine own_byW (T' := T13) (g' := (mkF m 23 #[.val (.ref pa), .val (.ref b4), .val (.int t3), .val (.int 4), .val (.int c3)] [(.ref pa)])) (fun t k => XS.aloadN X13.here hx rfl (hb hby d1_22) rfl rfl k) ?_
    refine own_byW (T' := T13) (g' := (mkF m 24 #[.val (.ref pa), .val (.ref b4), .val (.int t3), .val (.int 4), .val (.int c3)] [(.int 4), (.ref pa)])) (fun t k => XS.iloadN X13.here hx rfl (hb hby d1_23) rfl k) ?_
    obtain ⟨cl114, Ar114, q114, S114, N114, Hs114, G114⟩ := id V_pa
    have hin114 : ¬ ((4 : Int32) < 0 ∨ cl114.slots.size ≤ ((4 : Int32)).toNatClampNeg) := inb_of S114 ⟨by decide, own_lt (by decide) hlt4⟩
    have hat114 : cl114.slots[((4 : Int32)).toNatClampNeg]? = some (.int c4) := Hs114.at hin114 rfl
    refine own_byW (T' := T13) (g' := (mkF m 25 #[.val (.ref pa), .val (.ref b4), .val (.int t3), .val (.int 4), .val (.int c3)] [(.int c4)])) (fun t k => X13.caload hx (j := (4 : Int32)) (v := (.int c4)) (by rw [e13]; exact Ar114.1) (State.isArrayOf_alike hZ.alike Ar114.2.1) Ar114.2.2 hin114 hat114 (g := (mkF m 24 #[.val (.ref pa), .val (.ref b4), .val (.int t3), .val (.int 4), .val (.int c3)] [(.int 4), (.ref pa)])) rfl rfl (hb hby d1_24) _ k) ?_
    clear hat114 hin114 G114 Hs114 N114 S114 q114 Ar114 cl114
    refine own_byW (T' := T13) (g' := (mkF m 27 #[.val (.ref pa), .val (.ref b4), .val (.int t3), .val (.int 4), .val (.int c4)] [])) (fun t k => XS.istore X13.here hx rfl (hb hby d1_25) rfl (l' := #[.val (.ref pa), .val (.ref b4), .val (.int t3), .val (.int 4), .val (.int c4)]) rfl k) ?_
    rcases HB3 with ⟨rfl, f3⟩ | ⟨rfl, f3⟩ | ⟨rfl, f3⟩ | ⟨rfl, f3⟩
    · refine own_byW (T' := T13) (g' := (mkF m 28 #[.val (.ref pa), .val (.ref b4), .val (.int 0), .val (.int 4), .val (.int c4)] [(.int 0)])) (fun t k => XS.iloadN X13.here hx rfl (hb hby d1_27) rfl k) ?_
      refine own_byW (T' := T13) (g' := (mkF m 48 #[.val (.ref pa), .val (.ref b4), .val (.int 0), .val (.int 4), .val (.int c4)] [])) (fun t k => XS.ifYes X13.here hx rfl (pc0 := 28) (pc' := 48) rfl (hb hby d1_28) rfl ((if0 _ _).trans (flt (by decide)).2.2.2) (by decide) (by decide) k) ?_
      refine own_byW (T' := T13) (g' := (mkF m 49 #[.val (.ref pa), .val (.ref b4), .val (.int 0), .val (.int 4), .val (.int c4)] [(.ref pa)])) (fun t k => XS.aloadN X13.here hx rfl (hb hby d1_48) rfl rfl k) ?_
      refine own_byW (T' := T13) (g' := (mkF m 50 #[.val (.ref pa), .val (.ref b4), .val (.int 0), .val (.int 4), .val (.int c4)] [(.int 0), (.ref pa)])) (fun t k => XS.iloadN X13.here hx rfl (hb hby d1_49) rfl k) ?_
      obtain ⟨cl115, Ar115, q115, S115, N115, Hs115, G115⟩ := id V_pa
      have hin115 : ¬ ((0 : Int32) < 0 ∨ cl115.slots.size ≤ ((0 : Int32)).toNatClampNeg) := inb_of S115 ⟨by decide, own_lt (by decide) hlt4⟩
      have hat115 : cl115.slots[((0 : Int32)).toNatClampNeg]? = some (.int c0) := Hs115.at hin115 rfl
      refine own_byW (T' := T13) (g' := (mkF m 51 #[.val (.ref pa), .val (.ref b4), .val (.int 0), .val (.int 4), .val (.int c4)] [(.int c0)])) (fun t k => X13.caload hx (j := (0 : Int32)) (v := (.int c0)) (by rw [e13]; exact Ar115.1) (State.isArrayOf_alike hZ.alike Ar115.2.1) Ar115.2.2 hin115 hat115 (g := (mkF m 50 #[.val (.ref pa), .val (.ref b4), .val (.int 0), .val (.int 4), .val (.int c4)] [(.int 0), (.ref pa)])) rfl rfl (hb hby d1_50) _ k) ?_
      clear hat115 hin115 G115 Hs115 N115 S115 q115 Ar115 cl115
      refine own_byW (T' := T13) (g' := (mkF m 53 #[.val (.ref pa), .val (.ref b4), .val (.int 0), .val (.int 4), .val (.int c4)] [(.int c4), (.int c0)])) (fun t k => XS.iload X13.here hx rfl (hb hby d1_51) rfl k) ?_
      by_cases hc53_116 : c0 = c4
      · refine own_byW (T' := T13) (g' := (mkF m 56 #[.val (.ref pa), .val (.ref b4), .val (.int 0), .val (.int 4), .val (.int c4)] [])) (fun t k => XS.icmpNo X13.here hx rfl (hb hby d1_53) rfl (teq hc53_116).2 k) ?_
        refine own_byW (T' := T13) (g' := (mkF m 59 #[.val (.ref pa), .val (.ref b4), .val (.int 1), .val (.int 4), .val (.int c4)] [])) (fun t k => XS.iinc X13.here hx rfl (hb hby d1_56) rfl (l' := #[.val (.ref pa), .val (.ref b4), .val (.int 1), .val (.int 4), .val (.int c4)]) rfl k) ?_
        exact own_j4 l Z a0 hw hx hby hml hlk hret pa nn kp c0 c1 c2 c3 c4 c5 h0 n0 hn0 hn6 hn7 b4 k4 t1 t2 0 _ hS hZ hown (X13) e13 V_pa Zle N_ K_ hk_ ne_pa_b4 g_b4 sz_b4 V_b4 HB1 HB2 (Or.inl ⟨rfl, f3⟩) (own_leaf4_47 c0 c1 c2 c3 c4 f3 hc53_116) hlt4
      · refine own_byW (T' := T13) (g' := (mkF m 59 #[.val (.ref pa), .val (.ref b4), .val (.int 0), .val (.int 4), .val (.int c4)] [])) (fun t k => XS.icmpYes X13.here hx rfl (pc0 := 53) (pc' := 59) rfl (hb hby d1_53) rfl (feq hc53_116).2 (by decide) (by decide) k) ?_
        exact own_j4 l Z a0 hw hx hby hml hlk hret pa nn kp c0 c1 c2 c3 c4 c5 h0 n0 hn0 hn6 hn7 b4 k4 t1 t2 0 _ hS hZ hown (X13) e13 V_pa Zle N_ K_ hk_ ne_pa_b4 g_b4 sz_b4 V_b4 HB1 HB2 (Or.inl ⟨rfl, f3⟩) (own_leaf4_48 c0 c1 c2 c3 c4 f3 hc53_116) hlt4
    · refine own_byW (T' := T13) (g' := (mkF m 28 #[.val (.ref pa), .val (.ref b4), .val (.int 1), .val (.int 4), .val (.int c4)] [(.int 1)])) (fun t k => XS.iloadN X13.here hx rfl (hb hby d1_27) rfl k) ?_
      refine own_byW (T' := T13) (g' := (mkF m 31 #[.val (.ref pa), .val (.ref b4), .val (.int 1), .val (.int 4), .val (.int c4)] [])) (fun t k => XS.ifNo X13.here hx rfl (hb hby d1_28) rfl ((if0 _ _).trans (tlt (by decide)).2.2.2) k) ?_
      refine own_byW (T' := T13) (g' := (mkF m 32 #[.val (.ref pa), .val (.ref b4), .val (.int 1), .val (.int 4), .val (.int c4)] [(.ref pa)])) (fun t k => XS.aloadN X13.here hx rfl (hb hby d1_31) rfl rfl k) ?_
      refine own_byW (T' := T13) (g' := (mkF m 33 #[.val (.ref pa), .val (.ref b4), .val (.int 1), .val (.int 4), .val (.int c4)] [(.int 1), (.ref pa)])) (fun t k => XS.iloadN X13.here hx rfl (hb hby d1_32) rfl k) ?_
      obtain ⟨cl117, Ar117, q117, S117, N117, Hs117, G117⟩ := id V_pa
      have hin117 : ¬ ((1 : Int32) < 0 ∨ cl117.slots.size ≤ ((1 : Int32)).toNatClampNeg) := inb_of S117 ⟨by decide, own_lt (by decide) hlt4⟩
      have hat117 : cl117.slots[((1 : Int32)).toNatClampNeg]? = some (.int c1) := Hs117.at hin117 rfl
      refine own_byW (T' := T13) (g' := (mkF m 34 #[.val (.ref pa), .val (.ref b4), .val (.int 1), .val (.int 4), .val (.int c4)] [(.int c1)])) (fun t k => X13.caload hx (j := (1 : Int32)) (v := (.int c1)) (by rw [e13]; exact Ar117.1) (State.isArrayOf_alike hZ.alike Ar117.2.1) Ar117.2.2 hin117 hat117 (g := (mkF m 33 #[.val (.ref pa), .val (.ref b4), .val (.int 1), .val (.int 4), .val (.int c4)] [(.int 1), (.ref pa)])) rfl rfl (hb hby d1_33) _ k) ?_
      clear hat117 hin117 G117 Hs117 N117 S117 q117 Ar117 cl117
      refine own_byW (T' := T13) (g' := (mkF m 36 #[.val (.ref pa), .val (.ref b4), .val (.int 1), .val (.int 4), .val (.int c4)] [(.int c4), (.int c1)])) (fun t k => XS.iload X13.here hx rfl (hb hby d1_34) rfl k) ?_
      by_cases hc36_118 : c1 = c4
      · refine own_byW (T' := T13) (g' := (mkF m 48 #[.val (.ref pa), .val (.ref b4), .val (.int 1), .val (.int 4), .val (.int c4)] [])) (fun t k => XS.icmpYes X13.here hx rfl (pc0 := 36) (pc' := 48) rfl (hb hby d1_36) rfl (teq hc36_118).1 (by decide) (by decide) k) ?_
        refine own_byW (T' := T13) (g' := (mkF m 49 #[.val (.ref pa), .val (.ref b4), .val (.int 1), .val (.int 4), .val (.int c4)] [(.ref pa)])) (fun t k => XS.aloadN X13.here hx rfl (hb hby d1_48) rfl rfl k) ?_
        refine own_byW (T' := T13) (g' := (mkF m 50 #[.val (.ref pa), .val (.ref b4), .val (.int 1), .val (.int 4), .val (.int c4)] [(.int 1), (.ref pa)])) (fun t k => XS.iloadN X13.here hx rfl (hb hby d1_49) rfl k) ?_
        obtain ⟨cl119, Ar119, q119, S119, N119, Hs119, G119⟩ := id V_pa
        have hin119 : ¬ ((1 : Int32) < 0 ∨ cl119.slots.size ≤ ((1 : Int32)).toNatClampNeg) := inb_of S119 ⟨by decide, own_lt (by decide) hlt4⟩
        have hat119 : cl119.slots[((1 : Int32)).toNatClampNeg]? = some (.int c1) := Hs119.at hin119 rfl
        refine own_byW (T' := T13) (g' := (mkF m 51 #[.val (.ref pa), .val (.ref b4), .val (.int 1), .val (.int 4), .val (.int c4)] [(.int c1)])) (fun t k => X13.caload hx (j := (1 : Int32)) (v := (.int c1)) (by rw [e13]; exact Ar119.1) (State.isArrayOf_alike hZ.alike Ar119.2.1) Ar119.2.2 hin119 hat119 (g := (mkF m 50 #[.val (.ref pa), .val (.ref b4), .val (.int 1), .val (.int 4), .val (.int c4)] [(.int 1), (.ref pa)])) rfl rfl (hb hby d1_50) _ k) ?_
        clear hat119 hin119 G119 Hs119 N119 S119 q119 Ar119 cl119
        refine own_byW (T' := T13) (g' := (mkF m 53 #[.val (.ref pa), .val (.ref b4), .val (.int 1), .val (.int 4), .val (.int c4)] [(.int c4), (.int c1)])) (fun t k => XS.iload X13.here hx rfl (hb hby d1_51) rfl k) ?_
        refine own_byW (T' := T13) (g' := (mkF m 56 #[.val (.ref pa), .val (.ref b4), .val (.int 1), .val (.int 4), .val (.int c4)] [])) (fun t k => XS.icmpNo X13.here hx rfl (hb hby d1_53) rfl (teq hc36_118).2 k) ?_
        refine own_byW (T' := T13) (g' := (mkF m 59 #[.val (.ref pa), .val (.ref b4), .val (.int 2), .val (.int 4), .val (.int c4)] [])) (fun t k => XS.iinc X13.here hx rfl (hb hby d1_56) rfl (l' := #[.val (.ref pa), .val (.ref b4), .val (.int 2), .val (.int 4), .val (.int c4)]) rfl k) ?_
        exact own_j4 l Z a0 hw hx hby hml hlk hret pa nn kp c0 c1 c2 c3 c4 c5 h0 n0 hn0 hn6 hn7 b4 k4 t1 t2 1 _ hS hZ hown (X13) e13 V_pa Zle N_ K_ hk_ ne_pa_b4 g_b4 sz_b4 V_b4 HB1 HB2 (Or.inr <| Or.inl ⟨rfl, f3⟩) (own_leaf4_49 c0 c1 c2 c3 c4 f3 hc36_118) hlt4
      · refine own_byW (T' := T13) (g' := (mkF m 39 #[.val (.ref pa), .val (.ref b4), .val (.int 1), .val (.int 4), .val (.int c4)] [])) (fun t k => XS.icmpNo X13.here hx rfl (hb hby d1_36) rfl (feq hc36_118).1 k) ?_
        refine own_byW (T' := T13) (g' := (mkF m 40 #[.val (.ref pa), .val (.ref b4), .val (.int 1), .val (.int 4), .val (.int c4)] [(.ref b4)])) (fun t k => XS.aloadN X13.here hx rfl (hb hby d1_39) rfl rfl k) ?_
        refine own_byW (T' := T13) (g' := (mkF m 41 #[.val (.ref pa), .val (.ref b4), .val (.int 1), .val (.int 4), .val (.int c4)] [(.int 1), (.ref b4)])) (fun t k => XS.iloadN X13.here hx rfl (hb hby d1_40) rfl k) ?_
        refine own_byW (T' := T13) (g' := (mkF m 42 #[.val (.ref pa), .val (.ref b4), .val (.int 1), .val (.int 4), .val (.int c4)] [(.int 1), (.int 1), (.ref b4)])) (fun t k => XS.iconst X13.here hx rfl (hb hby d1_41) k) ?_
        refine own_byW (T' := T13) (g' := (mkF m 43 #[.val (.ref pa), .val (.ref b4), .val (.int 1), .val (.int 4), .val (.int c4)] [(.int 0), (.ref b4)])) (fun t k => XS.isub X13.here hx rfl (hb hby d1_42) rfl k) ?_
        obtain ⟨cl120, Ar120, q120, S120, N120, Hs120, G120⟩ := id V_b4
        have hin120 : ¬ ((0 : Int32) < 0 ∨ cl120.slots.size ≤ ((0 : Int32)).toNatClampNeg) := inb_of S120 ⟨by decide, own_lt (by decide) hlt4⟩
        have hat120 : cl120.slots[((0 : Int32)).toNatClampNeg]? = some (.int 0) := Hs120.at hin120 rfl
        refine own_byW (T' := T13) (g' := (mkF m 44 #[.val (.ref pa), .val (.ref b4), .val (.int 1), .val (.int 4), .val (.int c4)] [(.int 0)])) (fun t k => X13.iaload hx (j := (0 : Int32)) (v := (.int 0)) (by rw [e13]; exact Ar120.1) (State.isArrayOf_alike hZ.alike Ar120.2.1) Ar120.2.2 hin120 hat120 (g := (mkF m 43 #[.val (.ref pa), .val (.ref b4), .val (.int 1), .val (.int 4), .val (.int c4)] [(.int 0), (.ref b4)])) rfl rfl (hb hby d1_43) _ k) ?_
        clear hat120 hin120 G120 Hs120 N120 S120 q120 Ar120 cl120
        refine own_byW (T' := T13) (g' := (mkF m 45 #[.val (.ref pa), .val (.ref b4), .val (.int 0), .val (.int 4), .val (.int c4)] [])) (fun t k => XS.istoreN X13.here hx rfl (hb hby d1_44) rfl (l' := #[.val (.ref pa), .val (.ref b4), .val (.int 0), .val (.int 4), .val (.int c4)]) rfl k) ?_
        refine own_byW (T' := T13) (g' := (mkF m 27 #[.val (.ref pa), .val (.ref b4), .val (.int 0), .val (.int 4), .val (.int c4)] [])) (fun t k => XS.goto X13.here hx rfl (pc0 := 45) (pc' := 27) rfl (hb hby d1_45) (by decide) (by decide) k) ?_
        refine own_byW (T' := T13) (g' := (mkF m 28 #[.val (.ref pa), .val (.ref b4), .val (.int 0), .val (.int 4), .val (.int c4)] [(.int 0)])) (fun t k => XS.iloadN X13.here hx rfl (hb hby d1_27) rfl k) ?_
        refine own_byW (T' := T13) (g' := (mkF m 48 #[.val (.ref pa), .val (.ref b4), .val (.int 0), .val (.int 4), .val (.int c4)] [])) (fun t k => XS.ifYes X13.here hx rfl (pc0 := 28) (pc' := 48) rfl (hb hby d1_28) rfl ((if0 _ _).trans (flt (by decide)).2.2.2) (by decide) (by decide) k) ?_
        refine own_byW (T' := T13) (g' := (mkF m 49 #[.val (.ref pa), .val (.ref b4), .val (.int 0), .val (.int 4), .val (.int c4)] [(.ref pa)])) (fun t k => XS.aloadN X13.here hx rfl (hb hby d1_48) rfl rfl k) ?_
        refine own_byW (T' := T13) (g' := (mkF m 50 #[.val (.ref pa), .val (.ref b4), .val (.int 0), .val (.int 4), .val (.int c4)] [(.int 0), (.ref pa)])) (fun t k => XS.iloadN X13.here hx rfl (hb hby d1_49) rfl k) ?_
        obtain ⟨cl121, Ar121, q121, S121, N121, Hs121, G121⟩ := id V_pa
        have hin121 : ¬ ((0 : Int32) < 0 ∨ cl121.slots.size ≤ ((0 : Int32)).toNatClampNeg) := inb_of S121 ⟨by decide, own_lt (by decide) hlt4⟩
        have hat121 : cl121.slots[((0 : Int32)).toNatClampNeg]? = some (.int c0) := Hs121.at hin121 rfl
        refine own_byW (T' := T13) (g' := (mkF m 51 #[.val (.ref pa), .val (.ref b4), .val (.int 0), .val (.int 4), .val (.int c4)] [(.int c0)])) (fun t k => X13.caload hx (j := (0 : Int32)) (v := (.int c0)) (by rw [e13]; exact Ar121.1) (State.isArrayOf_alike hZ.alike Ar121.2.1) Ar121.2.2 hin121 hat121 (g := (mkF m 50 #[.val (.ref pa), .val (.ref b4), .val (.int 0), .val (.int 4), .val (.int c4)] [(.int 0), (.ref pa)])) rfl rfl (hb hby d1_50) _ k) ?_
        clear hat121 hin121 G121 Hs121 N121 S121 q121 Ar121 cl121
        refine own_byW (T' := T13) (g' := (mkF m 53 #[.val (.ref pa), .val (.ref b4), .val (.int 0), .val (.int 4), .val (.int c4)] [(.int c4), (.int c0)])) (fun t k => XS.iload X13.here hx rfl (hb hby d1_51) rfl k) ?_
        by_cases hc53_122 : c0 = c4
        · refine own_byW (T' := T13) (g' := (mkF m 56 #[.val (.ref pa), .val (.ref b4), .val (.int 0), .val (.int 4), .val (.int c4)] [])) (fun t k => XS.icmpNo X13.here hx rfl (hb hby d1_53) rfl (teq hc53_122).2 k) ?_
          refine own_byW (T' := T13) (g' := (mkF m 59 #[.val (.ref pa), .val (.ref b4), .val (.int 1), .val (.int 4), .val (.int c4)] [])) (fun t k => XS.iinc X13.here hx rfl (hb hby d1_56) rfl (l' := #[.val (.ref pa), .val (.ref b4), .val (.int 1), .val (.int 4), .val (.int c4)]) rfl k) ?_
          exact own_j4 l Z a0 hw hx hby hml hlk hret pa nn kp c0 c1 c2 c3 c4 c5 h0 n0 hn0 hn6 hn7 b4 k4 t1 t2 1 _ hS hZ hown (X13) e13 V_pa Zle N_ K_ hk_ ne_pa_b4 g_b4 sz_b4 V_b4 HB1 HB2 (Or.inr <| Or.inl ⟨rfl, f3⟩) (own_leaf4_50 c0 c1 c2 c3 c4 f3 hc36_118 hc53_122) hlt4
        · refine own_byW (T' := T13) (g' := (mkF m 59 #[.val (.ref pa), .val (.ref b4), .val (.int 0), .val (.int 4), .val (.int c4)] [])) (fun t k => XS.icmpYes X13.here hx rfl (pc0 := 53) (pc' := 59) rfl (hb hby d1_53) rfl (feq hc53_122).2 (by decide) (by decide) k) ?_
          exact own_j4 l Z a0 hw hx hby hml hlk hret pa nn kp c0 c1 c2 c3 c4 c5 h0 n0 hn0 hn6 hn7 b4 k4 t1 t2 1 _ hS hZ hown (X13) e13 V_pa Zle N_ K_ hk_ ne_pa_b4 g_b4 sz_b4 V_b4 HB1 HB2 (Or.inr <| Or.inl ⟨rfl, f3⟩) (own_leaf4_51 c0 c1 c2 c3 c4 f3 hc36_118 hc53_122) hlt4
    · refine own_byW (T' := T13) (g' := (mkF m 28 #[.val (.ref pa), .val (.ref b4), .val (.int 2), .val (.int 4), .val (.int c4)] [(.int 2)])) (fun t k => XS.iloadN X13.here hx rfl (hb hby d1_27) rfl k) ?_
      refine own_byW (T' := T13) (g' := (mkF m 31 #[.val (.ref pa), .val (.ref b4), .val (.int 2), .val (.int 4), .val (.int c4)] [])) (fun t k => XS.ifNo X13.here hx rfl (hb hby d1_28) rfl ((if0 _ _).trans (tlt (by decide)).2.2.2) k) ?_
      refine own_byW (T' := T13) (g' := (mkF m 32 #[.val (.ref pa), .val (.ref b4), .val (.int 2), .val (.int 4), .val (.int c4)] [(.ref pa)])) (fun t k => XS.aloadN X13.here hx rfl (hb hby d1_31) rfl rfl k) ?_
      refine own_byW (T' := T13) (g' := (mkF m 33 #[.val (.ref pa), .val (.ref b4), .val (.int 2), .val (.int 4), .val (.int c4)] [(.int 2), (.ref pa)])) (fun t k => XS.iloadN X13.here hx rfl (hb hby d1_32) rfl k) ?_
      obtain ⟨cl123, Ar123, q123, S123, N123, Hs123, G123⟩ := id V_pa
      have hin123 : ¬ ((2 : Int32) < 0 ∨ cl123.slots.size ≤ ((2 : Int32)).toNatClampNeg) := inb_of S123 ⟨by decide, own_lt (by decide) hlt4⟩
      have hat123 : cl123.slots[((2 : Int32)).toNatClampNeg]? = some (.int c2) := Hs123.at hin123 rfl
      refine own_byW (T' := T13) (g' := (mkF m 34 #[.val (.ref pa), .val (.ref b4), .val (.int 2), .val (.int 4), .val (.int c4)] [(.int c2)])) (fun t k => X13.caload hx (j := (2 : Int32)) (v := (.int c2)) (by rw [e13]; exact Ar123.1) (State.isArrayOf_alike hZ.alike Ar123.2.1) Ar123.2.2 hin123 hat123 (g := (mkF m 33 #[.val (.ref pa), .val (.ref b4), .val (.int 2), .val (.int 4), .val (.int c4)] [(.int 2), (.ref pa)])) rfl rfl (hb hby d1_33) _ k) ?_
      clear hat123 hin123 G123 Hs123 N123 S123 q123 Ar123 cl123
      refine own_byW (T' := T13) (g' := (mkF m 36 #[.val (.ref pa), .val (.ref b4), .val (.int 2), .val (.int 4), .val (.int c4)] [(.int c4), (.int c2)])) (fun t k => XS.iload X13.here hx rfl (hb hby d1_34) rfl k) ?_
      by_cases hc36_124 : c2 = c4
      · refine own_byW (T' := T13) (g' := (mkF m 48 #[.val (.ref pa), .val (.ref b4), .val (.int 2), .val (.int 4), .val (.int c4)] [])) (fun t k => XS.icmpYes X13.here hx rfl (pc0 := 36) (pc' := 48) rfl (hb hby d1_36) rfl (teq hc36_124).1 (by decide) (by decide) k) ?_
        refine own_byW (T' := T13) (g' := (mkF m 49 #[.val (.ref pa), .val (.ref b4), .val (.int 2), .val (.int 4), .val (.int c4)] [(.ref pa)])) (fun t k => XS.aloadN X13.here hx rfl (hb hby d1_48) rfl rfl k) ?_
        refine own_byW (T' := T13) (g' := (mkF m 50 #[.val (.ref pa), .val (.ref b4), .val (.int 2), .val (.int 4), .val (.int c4)] [(.int 2), (.ref pa)])) (fun t k => XS.iloadN X13.here hx rfl (hb hby d1_49) rfl k) ?_
        obtain ⟨cl125, Ar125, q125, S125, N125, Hs125, G125⟩ := id V_pa
        have hin125 : ¬ ((2 : Int32) < 0 ∨ cl125.slots.size ≤ ((2 : Int32)).toNatClampNeg) := inb_of S125 ⟨by decide, own_lt (by decide) hlt4⟩
        have hat125 : cl125.slots[((2 : Int32)).toNatClampNeg]? = some (.int c2) := Hs125.at hin125 rfl
        refine own_byW (T' := T13) (g' := (mkF m 51 #[.val (.ref pa), .val (.ref b4), .val (.int 2), .val (.int 4), .val (.int c4)] [(.int c2)])) (fun t k => X13.caload hx (j := (2 : Int32)) (v := (.int c2)) (by rw [e13]; exact Ar125.1) (State.isArrayOf_alike hZ.alike Ar125.2.1) Ar125.2.2 hin125 hat125 (g := (mkF m 50 #[.val (.ref pa), .val (.ref b4), .val (.int 2), .val (.int 4), .val (.int c4)] [(.int 2), (.ref pa)])) rfl rfl (hb hby d1_50) _ k) ?_
        clear hat125 hin125 G125 Hs125 N125 S125 q125 Ar125 cl125
        refine own_byW (T' := T13) (g' := (mkF m 53 #[.val (.ref pa), .val (.ref b4), .val (.int 2), .val (.int 4), .val (.int c4)] [(.int c4), (.int c2)])) (fun t k => XS.iload X13.here hx rfl (hb hby d1_51) rfl k) ?_
        refine own_byW (T' := T13) (g' := (mkF m 56 #[.val (.ref pa), .val (.ref b4), .val (.int 2), .val (.int 4), .val (.int c4)] [])) (fun t k => XS.icmpNo X13.here hx rfl (hb hby d1_53) rfl (teq hc36_124).2 k) ?_
        refine own_byW (T' := T13) (g' := (mkF m 59 #[.val (.ref pa), .val (.ref b4), .val (.int 3), .val (.int 4), .val (.int c4)] [])) (fun t k => XS.iinc X13.here hx rfl (hb hby d1_56) rfl (l' := #[.val (.ref pa), .val (.ref b4), .val (.int 3), .val (.int 4), .val (.int c4)]) rfl k) ?_
        exact own_j4 l Z a0 hw hx hby hml hlk hret pa nn kp c0 c1 c2 c3 c4 c5 h0 n0 hn0 hn6 hn7 b4 k4 t1 t2 2 _ hS hZ hown (X13) e13 V_pa Zle N_ K_ hk_ ne_pa_b4 g_b4 sz_b4 V_b4 HB1 HB2 (Or.inr <| Or.inr <| Or.inl ⟨rfl, f3⟩) (own_leaf4_52 c0 c1 c2 c3 c4 f3 hc36_124) hlt4
      · refine own_byW (T' := T13) (g' := (mkF m 39 #[.val (.ref pa), .val (.ref b4), .val (.int 2), .val (.int 4), .val (.int c4)] [])) (fun t k => XS.icmpNo X13.here hx rfl (hb hby d1_36) rfl (feq hc36_124).1 k) ?_
        refine own_byW (T' := T13) (g' := (mkF m 40 #[.val (.ref pa), .val (.ref b4), .val (.int 2), .val (.int 4), .val (.int c4)] [(.ref b4)])) (fun t k => XS.aloadN X13.here hx rfl (hb hby d1_39) rfl rfl k) ?_
        refine own_byW (T' := T13) (g' := (mkF m 41 #[.val (.ref pa), .val (.ref b4), .val (.int 2), .val (.int 4), .val (.int c4)] [(.int 2), (.ref b4)])) (fun t k => XS.iloadN X13.here hx rfl (hb hby d1_40) rfl k) ?_
        refine own_byW (T' := T13) (g' := (mkF m 42 #[.val (.ref pa), .val (.ref b4), .val (.int 2), .val (.int 4), .val (.int c4)] [(.int 1), (.int 2), (.ref b4)])) (fun t k => XS.iconst X13.here hx rfl (hb hby d1_41) k) ?_
        refine own_byW (T' := T13) (g' := (mkF m 43 #[.val (.ref pa), .val (.ref b4), .val (.int 2), .val (.int 4), .val (.int c4)] [(.int 1), (.ref b4)])) (fun t k => XS.isub X13.here hx rfl (hb hby d1_42) rfl k) ?_
        obtain ⟨cl126, Ar126, q126, S126, N126, Hs126, G126⟩ := id V_b4
        have hin126 : ¬ ((1 : Int32) < 0 ∨ cl126.slots.size ≤ ((1 : Int32)).toNatClampNeg) := inb_of S126 ⟨by decide, own_lt (by decide) hlt4⟩
        have hat126 : cl126.slots[((1 : Int32)).toNatClampNeg]? = some (.int t1) := Hs126.at hin126 rfl
        refine own_byW (T' := T13) (g' := (mkF m 44 #[.val (.ref pa), .val (.ref b4), .val (.int 2), .val (.int 4), .val (.int c4)] [(.int t1)])) (fun t k => X13.iaload hx (j := (1 : Int32)) (v := (.int t1)) (by rw [e13]; exact Ar126.1) (State.isArrayOf_alike hZ.alike Ar126.2.1) Ar126.2.2 hin126 hat126 (g := (mkF m 43 #[.val (.ref pa), .val (.ref b4), .val (.int 2), .val (.int 4), .val (.int c4)] [(.int 1), (.ref b4)])) rfl rfl (hb hby d1_43) _ k) ?_
        clear hat126 hin126 G126 Hs126 N126 S126 q126 Ar126 cl126
        refine own_byW (T' := T13) (g' := (mkF m 45 #[.val (.ref pa), .val (.ref b4), .val (.int t1), .val (.int 4), .val (.int c4)] [])) (fun t k => XS.istoreN X13.here hx rfl (hb hby d1_44) rfl (l' := #[.val (.ref pa), .val (.ref b4), .val (.int t1), .val (.int 4), .val (.int c4)]) rfl k) ?_
        refine own_byW (T' := T13) (g' := (mkF m 27 #[.val (.ref pa), .val (.ref b4), .val (.int t1), .val (.int 4), .val (.int c4)] [])) (fun t k => XS.goto X13.here hx rfl (pc0 := 45) (pc' := 27) rfl (hb hby d1_45) (by decide) (by decide) k) ?_
        rcases HB1 with ⟨rfl, f1⟩ | ⟨rfl, f1⟩
        · refine own_byW (T' := T13) (g' := (mkF m 28 #[.val (.ref pa), .val (.ref b4), .val (.int 0), .val (.int 4), .val (.int c4)] [(.int 0)])) (fun t k => XS.iloadN X13.here hx rfl (hb hby d1_27) rfl k) ?_
          refine own_byW (T' := T13) (g' := (mkF m 48 #[.val (.ref pa), .val (.ref b4), .val (.int 0), .val (.int 4), .val (.int c4)] [])) (fun t k => XS.ifYes X13.here hx rfl (pc0 := 28) (pc' := 48) rfl (hb hby d1_28) rfl ((if0 _ _).trans (flt (by decide)).2.2.2) (by decide) (by decide) k) ?_
          refine own_byW (T' := T13) (g' := (mkF m 49 #[.val (.ref pa), .val (.ref b4), .val (.int 0), .val (.int 4), .val (.int c4)] [(.ref pa)])) (fun t k => XS.aloadN X13.here hx rfl (hb hby d1_48) rfl rfl k) ?_
          refine own_byW (T' := T13) (g' := (mkF m 50 #[.val (.ref pa), .val (.ref b4), .val (.int 0), .val (.int 4), .val (.int c4)] [(.int 0), (.ref pa)])) (fun t k => XS.iloadN X13.here hx rfl (hb hby d1_49) rfl k) ?_
          obtain ⟨cl127, Ar127, q127, S127, N127, Hs127, G127⟩ := id V_pa
          have hin127 : ¬ ((0 : Int32) < 0 ∨ cl127.slots.size ≤ ((0 : Int32)).toNatClampNeg) := inb_of S127 ⟨by decide, own_lt (by decide) hlt4⟩
          have hat127 : cl127.slots[((0 : Int32)).toNatClampNeg]? = some (.int c0) := Hs127.at hin127 rfl
          refine own_byW (T' := T13) (g' := (mkF m 51 #[.val (.ref pa), .val (.ref b4), .val (.int 0), .val (.int 4), .val (.int c4)] [(.int c0)])) (fun t k => X13.caload hx (j := (0 : Int32)) (v := (.int c0)) (by rw [e13]; exact Ar127.1) (State.isArrayOf_alike hZ.alike Ar127.2.1) Ar127.2.2 hin127 hat127 (g := (mkF m 50 #[.val (.ref pa), .val (.ref b4), .val (.int 0), .val (.int 4), .val (.int c4)] [(.int 0), (.ref pa)])) rfl rfl (hb hby d1_50) _ k) ?_
          clear hat127 hin127 G127 Hs127 N127 S127 q127 Ar127 cl127
          refine own_byW (T' := T13) (g' := (mkF m 53 #[.val (.ref pa), .val (.ref b4), .val (.int 0), .val (.int 4), .val (.int c4)] [(.int c4), (.int c0)])) (fun t k => XS.iload X13.here hx rfl (hb hby d1_51) rfl k) ?_
          by_cases hc53_128 : c0 = c4
          · refine own_byW (T' := T13) (g' := (mkF m 56 #[.val (.ref pa), .val (.ref b4), .val (.int 0), .val (.int 4), .val (.int c4)] [])) (fun t k => XS.icmpNo X13.here hx rfl (hb hby d1_53) rfl (teq hc53_128).2 k) ?_
            refine own_byW (T' := T13) (g' := (mkF m 59 #[.val (.ref pa), .val (.ref b4), .val (.int 1), .val (.int 4), .val (.int c4)] [])) (fun t k => XS.iinc X13.here hx rfl (hb hby d1_56) rfl (l' := #[.val (.ref pa), .val (.ref b4), .val (.int 1), .val (.int 4), .val (.int c4)]) rfl k) ?_
            exact own_j4 l Z a0 hw hx hby hml hlk hret pa nn kp c0 c1 c2 c3 c4 c5 h0 n0 hn0 hn6 hn7 b4 k4 0 t2 2 _ hS hZ hown (X13) e13 V_pa Zle N_ K_ hk_ ne_pa_b4 g_b4 sz_b4 V_b4 (Or.inl ⟨rfl, f1⟩) HB2 (Or.inr <| Or.inr <| Or.inl ⟨rfl, f3⟩) (own_leaf4_53 c0 c1 c2 c3 c4 f3 f1 hc36_124 hc53_128) hlt4
          · refine own_byW (T' := T13) (g' := (mkF m 59 #[.val (.ref pa), .val (.ref b4), .val (.int 0), .val (.int 4), .val (.int c4)] [])) (fun t k => XS.icmpYes X13.here hx rfl (pc0 := 53) (pc' := 59) rfl (hb hby d1_53) rfl (feq hc53_128).2 (by decide) (by decide) k) ?_
            exact own_j4 l Z a0 hw hx hby hml hlk hret pa nn kp c0 c1 c2 c3 c4 c5 h0 n0 hn0 hn6 hn7 b4 k4 0 t2 2 _ hS hZ hown (X13) e13 V_pa Zle N_ K_ hk_ ne_pa_b4 g_b4 sz_b4 V_b4 (Or.inl ⟨rfl, f1⟩) HB2 (Or.inr <| Or.inr <| Or.inl ⟨rfl, f3⟩) (own_leaf4_54 c0 c1 c2 c3 c4 f3 f1 hc36_124 hc53_128) hlt4
        · refine own_byW (T' := T13) (g' := (mkF m 28 #[.val (.ref pa), .val (.ref b4), .val (.int 1), .val (.int 4), .val (.int c4)] [(.int 1)])) (fun t k => XS.iloadN X13.here hx rfl (hb hby d1_27) rfl k) ?_
          refine own_byW (T' := T13) (g' := (mkF m 31 #[.val (.ref pa), .val (.ref b4), .val (.int 1), .val (.int 4), .val (.int c4)] [])) (fun t k => XS.ifNo X13.here hx rfl (hb hby d1_28) rfl ((if0 _ _).trans (tlt (by decide)).2.2.2) k) ?_
          refine own_byW (T' := T13) (g' := (mkF m 32 #[.val (.ref pa), .val (.ref b4), .val (.int 1), .val (.int 4), .val (.int c4)] [(.ref pa)])) (fun t k => XS.aloadN X13.here hx rfl (hb hby d1_31) rfl rfl k) ?_
          refine own_byW (T' := T13) (g' := (mkF m 33 #[.val (.ref pa), .val (.ref b4), .val (.int 1), .val (.int 4), .val (.int c4)] [(.int 1), (.ref pa)])) (fun t k => XS.iloadN X13.here hx rfl (hb hby d1_32) rfl k) ?_
          obtain ⟨cl129, Ar129, q129, S129, N129, Hs129, G129⟩ := id V_pa
          have hin129 : ¬ ((1 : Int32) < 0 ∨ cl129.slots.size ≤ ((1 : Int32)).toNatClampNeg) := inb_of S129 ⟨by decide, own_lt (by decide) hlt4⟩
          have hat129 : cl129.slots[((1 : Int32)).toNatClampNeg]? = some (.int c1) := Hs129.at hin129 rfl
          refine own_byW (T' := T13) (g' := (mkF m 34 #[.val (.ref pa), .val (.ref b4), .val (.int 1), .val (.int 4), .val (.int c4)] [(.int c1)])) (fun t k => X13.caload hx (j := (1 : Int32)) (v := (.int c1)) (by rw [e13]; exact Ar129.1) (State.isArrayOf_alike hZ.alike Ar129.2.1) Ar129.2.2 hin129 hat129 (g := (mkF m 33 #[.val (.ref pa), .val (.ref b4), .val (.int 1), .val (.int 4), .val (.int c4)] [(.int 1), (.ref pa)])) rfl rfl (hb hby d1_33) _ k) ?_
          clear hat129 hin129 G129 Hs129 N129 S129 q129 Ar129 cl129
          refine own_byW (T' := T13) (g' := (mkF m 36 #[.val (.ref pa), .val (.ref b4), .val (.int 1), .val (.int 4), .val (.int c4)] [(.int c4), (.int c1)])) (fun t k => XS.iload X13.here hx rfl (hb hby d1_34) rfl k) ?_
          by_cases hc36_130 : c1 = c4
          · refine own_byW (T' := T13) (g' := (mkF m 48 #[.val (.ref pa), .val (.ref b4), .val (.int 1), .val (.int 4), .val (.int c4)] [])) (fun t k => XS.icmpYes X13.here hx rfl (pc0 := 36) (pc' := 48) rfl (hb hby d1_36) rfl (teq hc36_130).1 (by decide) (by decide) k) ?_
            refine own_byW (T' := T13) (g' := (mkF m 49 #[.val (.ref pa), .val (.ref b4), .val (.int 1), .val (.int 4), .val (.int c4)] [(.ref pa)])) (fun t k => XS.aloadN X13.here hx rfl (hb hby d1_48) rfl rfl k) ?_
            refine own_byW (T' := T13) (g' := (mkF m 50 #[.val (.ref pa), .val (.ref b4), .val (.int 1), .val (.int 4), .val (.int c4)] [(.int 1), (.ref pa)])) (fun t k => XS.iloadN X13.here hx rfl (hb hby d1_49) rfl k) ?_
            obtain ⟨cl131, Ar131, q131, S131, N131, Hs131, G131⟩ := id V_pa
            have hin131 : ¬ ((1 : Int32) < 0 ∨ cl131.slots.size ≤ ((1 : Int32)).toNatClampNeg) := inb_of S131 ⟨by decide, own_lt (by decide) hlt4⟩
            have hat131 : cl131.slots[((1 : Int32)).toNatClampNeg]? = some (.int c1) := Hs131.at hin131 rfl
            refine own_byW (T' := T13) (g' := (mkF m 51 #[.val (.ref pa), .val (.ref b4), .val (.int 1), .val (.int 4), .val (.int c4)] [(.int c1)])) (fun t k => X13.caload hx (j := (1 : Int32)) (v := (.int c1)) (by rw [e13]; exact Ar131.1) (State.isArrayOf_alike hZ.alike Ar131.2.1) Ar131.2.2 hin131 hat131 (g := (mkF m 50 #[.val (.ref pa), .val (.ref b4), .val (.int 1), .val (.int 4), .val (.int c4)] [(.int 1), (.ref pa)])) rfl rfl (hb hby d1_50) _ k) ?_
            clear hat131 hin131 G131 Hs131 N131 S131 q131 Ar131 cl131
            refine own_byW (T' := T13) (g' := (mkF m 53 #[.val (.ref pa), .val (.ref b4), .val (.int 1), .val (.int 4), .val (.int c4)] [(.int c4), (.int c1)])) (fun t k => XS.iload X13.here hx rfl (hb hby d1_51) rfl k) ?_
            refine own_byW (T' := T13) (g' := (mkF m 56 #[.val (.ref pa), .val (.ref b4), .val (.int 1), .val (.int 4), .val (.int c4)] [])) (fun t k => XS.icmpNo X13.here hx rfl (hb hby d1_53) rfl (teq hc36_130).2 k) ?_
            refine own_byW (T' := T13) (g' := (mkF m 59 #[.val (.ref pa), .val (.ref b4), .val (.int 2), .val (.int 4), .val (.int c4)] [])) (fun t k => XS.iinc X13.here hx rfl (hb hby d1_56) rfl (l' := #[.val (.ref pa), .val (.ref b4), .val (.int 2), .val (.int 4), .val (.int c4)]) rfl k) ?_
            exact own_j4 l Z a0 hw hx hby hml hlk hret pa nn kp c0 c1 c2 c3 c4 c5 h0 n0 hn0 hn6 hn7 b4 k4 1 t2 2 _ hS hZ hown (X13) e13 V_pa Zle N_ K_ hk_ ne_pa_b4 g_b4 sz_b4 V_b4 (Or.inr <| ⟨rfl, f1⟩) HB2 (Or.inr <| Or.inr <| Or.inl ⟨rfl, f3⟩) (own_leaf4_55 c0 c1 c2 c3 c4 f3 f1 hc36_124 hc36_130) hlt4
          · refine own_byW (T' := T13) (g' := (mkF m 39 #[.val (.ref pa), .val (.ref b4), .val (.int 1), .val (.int 4), .val (.int c4)] [])) (fun t k => XS.icmpNo X13.here hx rfl (hb hby d1_36) rfl (feq hc36_130).1 k) ?_
            refine own_byW (T' := T13) (g' := (mkF m 40 #[.val (.ref pa), .val (.ref b4), .val (.int 1), .val (.int 4), .val (.int c4)] [(.ref b4)])) (fun t k => XS.aloadN X13.here hx rfl (hb hby d1_39) rfl rfl k) ?_
            refine own_byW (T' := T13) (g' := (mkF m 41 #[.val (.ref pa), .val (.ref b4), .val (.int 1), .val (.int 4), .val (.int c4)] [(.int 1), (.ref b4)])) (fun t k => XS.iloadN X13.here hx rfl (hb hby d1_40) rfl k) ?_
            refine own_byW (T' := T13) (g' := (mkF m 42 #[.val (.ref pa), .val (.ref b4), .val (.int 1), .val (.int 4), .val (.int c4)] [(.int 1), (.int 1), (.ref b4)])) (fun t k => XS.iconst X13.here hx rfl (hb hby d1_41) k) ?_
            refine own_byW (T' := T13) (g' := (mkF m 43 #[.val (.ref pa), .val (.ref b4), .val (.int 1), .val (.int 4), .val (.int c4)] [(.int 0), (.ref b4)])) (fun t k => XS.isub X13.here hx rfl (hb hby d1_42) rfl k) ?_
            obtain ⟨cl132, Ar132, q132, S132, N132, Hs132, G132⟩ := id V_b4
            have hin132 : ¬ ((0 : Int32) < 0 ∨ cl132.slots.size ≤ ((0 : Int32)).toNatClampNeg) := inb_of S132 ⟨by decide, own_lt (by decide) hlt4⟩
            have hat132 : cl132.slots[((0 : Int32)).toNatClampNeg]? = some (.int 0) := Hs132.at hin132 rfl
            refine own_byW (T' := T13) (g' := (mkF m 44 #[.val (.ref pa), .val (.ref b4), .val (.int 1), .val (.int 4), .val (.int c4)] [(.int 0)])) (fun t k => X13.iaload hx (j := (0 : Int32)) (v := (.int 0)) (by rw [e13]; exact Ar132.1) (State.isArrayOf_alike hZ.alike Ar132.2.1) Ar132.2.2 hin132 hat132 (g := (mkF m 43 #[.val (.ref pa), .val (.ref b4), .val (.int 1), .val (.int 4), .val (.int c4)] [(.int 0), (.ref b4)])) rfl rfl (hb hby d1_43) _ k) ?_
            clear hat132 hin132 G132 Hs132 N132 S132 q132 Ar132 cl132
            refine own_byW (T' := T13) (g' := (mkF m 45 #[.val (.ref pa), .val (.ref b4), .val (.int 0), .val (.int 4), .val (.int c4)] [])) (fun t k => XS.istoreN X13.here hx rfl (hb hby d1_44) rfl (l' := #[.val (.ref pa), .val (.ref b4), .val (.int 0), .val (.int 4), .val (.int c4)]) rfl k) ?_
            refine own_byW (T' := T13) (g' := (mkF m 27 #[.val (.ref pa), .val (.ref b4), .val (.int 0), .val (.int 4), .val (.int c4)] [])) (fun t k => XS.goto X13.here hx rfl (pc0 := 45) (pc' := 27) rfl (hb hby d1_45) (by decide) (by decide) k) ?_
            refine own_byW (T' := T13) (g' := (mkF m 28 #[.val (.ref pa), .val (.ref b4), .val (.int 0), .val (.int 4), .val (.int c4)] [(.int 0)])) (fun t k => XS.iloadN X13.here hx rfl (hb hby d1_27) rfl k) ?_
            refine own_byW (T' := T13) (g' := (mkF m 48 #[.val (.ref pa), .val (.ref b4), .val (.int 0), .val (.int 4), .val (.int c4)] [])) (fun t k => XS.ifYes X13.here hx rfl (pc0 := 28) (pc' := 48) rfl (hb hby d1_28) rfl ((if0 _ _).trans (flt (by decide)).2.2.2) (by decide) (by decide) k) ?_
            refine own_byW (T' := T13) (g' := (mkF m 49 #[.val (.ref pa), .val (.ref b4), .val (.int 0), .val (.int 4), .val (.int c4)] [(.ref pa)])) (fun t k => XS.aloadN X13.here hx rfl (hb hby d1_48) rfl rfl k) ?_
            refine own_byW (T' := T13) (g' := (mkF m 50 #[.val (.ref pa), .val (.ref b4), .val (.int 0), .val (.int 4), .val (.int c4)] [(.int 0), (.ref pa)])) (fun t k => XS.iloadN X13.here hx rfl (hb hby d1_49) rfl k) ?_
            obtain ⟨cl133, Ar133, q133, S133, N133, Hs133, G133⟩ := id V_pa
            have hin133 : ¬ ((0 : Int32) < 0 ∨ cl133.slots.size ≤ ((0 : Int32)).toNatClampNeg) := inb_of S133 ⟨by decide, own_lt (by decide) hlt4⟩
            have hat133 : cl133.slots[((0 : Int32)).toNatClampNeg]? = some (.int c0) := Hs133.at hin133 rfl
            refine own_byW (T' := T13) (g' := (mkF m 51 #[.val (.ref pa), .val (.ref b4), .val (.int 0), .val (.int 4), .val (.int c4)] [(.int c0)])) (fun t k => X13.caload hx (j := (0 : Int32)) (v := (.int c0)) (by rw [e13]; exact Ar133.1) (State.isArrayOf_alike hZ.alike Ar133.2.1) Ar133.2.2 hin133 hat133 (g := (mkF m 50 #[.val (.ref pa), .val (.ref b4), .val (.int 0), .val (.int 4), .val (.int c4)] [(.int 0), (.ref pa)])) rfl rfl (hb hby d1_50) _ k) ?_
            clear hat133 hin133 G133 Hs133 N133 S133 q133 Ar133 cl133
            refine own_byW (T' := T13) (g' := (mkF m 53 #[.val (.ref pa), .val (.ref b4), .val (.int 0), .val (.int 4), .val (.int c4)] [(.int c4), (.int c0)])) (fun t k => XS.iload X13.here hx rfl (hb hby d1_51) rfl k) ?_
            by_cases hc53_134 : c0 = c4
            · refine own_byW (T' := T13) (g' := (mkF m 56 #[.val (.ref pa), .val (.ref b4), .val (.int 0), .val (.int 4), .val (.int c4)] [])) (fun t k => XS.icmpNo X13.here hx rfl (hb hby d1_53) rfl (teq hc53_134).2 k) ?_
              refine own_byW (T' := T13) (g' := (mkF m 59 #[.val (.ref pa), .val (.ref b4), .val (.int 1), .val (.int 4), .val (.int c4)] [])) (fun t k => XS.iinc X13.here hx rfl (hb hby d1_56) rfl (l' := #[.val (.ref pa), .val (.ref b4), .val (.int 1), .val (.int 4), .val (.int c4)]) rfl k) ?_
              exact own_j4 l Z a0 hw hx hby hml hlk hret pa nn kp c0 c1 c2 c3 c4 c5 h0 n0 hn0 hn6 hn7 b4 k4 1 t2 2 _ hS hZ hown (X13) e13 V_pa Zle N_ K_ hk_ ne_pa_b4 g_b4 sz_b4 V_b4 (Or.inr <| ⟨rfl, f1⟩) HB2 (Or.inr <| Or.inr <| Or.inl ⟨rfl, f3⟩) (own_leaf4_56 c0 c1 c2 c3 c4 f3 f1 hc36_124 hc36_130 hc53_134) hlt4
            · refine own_byW (T' := T13) (g' := (mkF m 59 #[.val (.ref pa), .val (.ref b4), .val (.int 0), .val (.int 4), .val (.int c4)] [])) (fun t k => XS.icmpYes X13.here hx rfl (pc0 := 53) (pc' := 59) rfl (hb hby d1_53) rfl (feq hc53_134).2 (by decide) (by decide) k) ?_
              exact own_j4 l Z a0 hw hx hby hml hlk hret pa nn kp c0 c1 c2 c3 c4 c5 h0 n0 hn0 hn6 hn7 b4 k4 1 t2 2 _ hS hZ hown (X13) e13 V_pa Zle N_ K_ hk_ ne_pa_b4 g_b4 sz_b4 V_b4 (Or.inr <| ⟨rfl, f1⟩) HB2 (Or.inr <| Or.inr <| Or.inl ⟨rfl, f3⟩) (own_leaf4_57 c0 c1 c2 c3 c4 f3 f1 hc36_124 hc36_130 hc53_134) hlt4
    · refine own_byW (T' := T13) (g' := (mkF m 28 #[.val (.ref pa), .val (.ref b4), .val (.int 3), .val (.int 4), .val (.int c4)] [(.int 3)])) (fun t k => XS.iloadN X13.here hx rfl (hb hby d1_27) rfl k) ?_
      refine own_byW (T' := T13) (g' := (mkF m 31 #[.val (.ref pa), .val (.ref b4), .val (.int 3), .val (.int 4), .val (.int c4)] [])) (fun t k => XS.ifNo X13.here hx rfl (hb hby d1_28) rfl ((if0 _ _).trans (tlt (by decide)).2.2.2) k) ?_
      refine own_byW (T' := T13) (g' := (mkF m 32 #[.val (.ref pa), .val (.ref b4), .val (.int 3), .val (.int 4), .val (.int c4)] [(.ref pa)])) (fun t k => XS.aloadN X13.here hx rfl (hb hby d1_31) rfl rfl k) ?_
      refine own_byW (T' := T13) (g' := (mkF m 33 #[.val (.ref pa), .val (.ref b4), .val (.int 3), .val (.int 4), .val (.int c4)] [(.int 3), (.ref pa)])) (fun t k => XS.iloadN X13.here hx rfl (hb hby d1_32) rfl k) ?_
      obtain ⟨cl135, Ar135, q135, S135, N135, Hs135, G135⟩ := id V_pa
      have hin135 : ¬ ((3 : Int32) < 0 ∨ cl135.slots.size ≤ ((3 : Int32)).toNatClampNeg) := inb_of S135 ⟨by decide, own_lt (by decide) hlt4⟩
      have hat135 : cl135.slots[((3 : Int32)).toNatClampNeg]? = some (.int c3) := Hs135.at hin135 rfl
      refine own_byW (T' := T13) (g' := (mkF m 34 #[.val (.ref pa), .val (.ref b4), .val (.int 3), .val (.int 4), .val (.int c4)] [(.int c3)])) (fun t k => X13.caload hx (j := (3 : Int32)) (v := (.int c3)) (by rw [e13]; exact Ar135.1) (State.isArrayOf_alike hZ.alike Ar135.2.1) Ar135.2.2 hin135 hat135 (g := (mkF m 33 #[.val (.ref pa), .val (.ref b4), .val (.int 3), .val (.int 4), .val (.int c4)] [(.int 3), (.ref pa)])) rfl rfl (hb hby d1_33) _ k) ?_
      clear hat135 hin135 G135 Hs135 N135 S135 q135 Ar135 cl135
      refine own_byW (T' := T13) (g' := (mkF m 36 #[.val (.ref pa), .val (.ref b4), .val (.int 3), .val (.int 4), .val (.int c4)] [(.int c4), (.int c3)])) (fun t k => XS.iload X13.here hx rfl (hb hby d1_34) rfl k) ?_
      by_cases hc36_136 : c3 = c4
      · refine own_byW (T' := T13) (g' := (mkF m 48 #[.val (.ref pa), .val (.ref b4), .val (.int 3), .val (.int 4), .val (.int c4)] [])) (fun t k => XS.icmpYes X13.here hx rfl (pc0 := 36) (pc' := 48) rfl (hb hby d1_36) rfl (teq hc36_136).1 (by decide) (by decide) k) ?_
        refine own_byW (T' := T13) (g' := (mkF m 49 #[.val (.ref pa), .val (.ref b4), .val (.int 3), .val (.int 4), .val (.int c4)] [(.ref pa)])) (fun t k => XS.aloadN X13.here hx rfl (hb hby d1_48) rfl rfl k) ?_
        refine own_byW (T' := T13) (g' := (mkF m 50 #[.val (.ref pa), .val (.ref b4), .val (.int 3), .val (.int 4), .val (.int c4)] [(.int 3), (.ref pa)])) (fun t k => XS.iloadN X13.here hx rfl (hb hby d1_49) rfl k) ?_
        obtain ⟨cl137, Ar137, q137, S137, N137, Hs137, G137⟩ := id V_pa
        have hin137 : ¬ ((3 : Int32) < 0 ∨ cl137.slots.size ≤ ((3 : Int32)).toNatClampNeg) := inb_of S137 ⟨by decide, own_lt (by decide) hlt4⟩
        have hat137 : cl137.slots[((3 : Int32)).toNatClampNeg]? = some (.int c3) := Hs137.at hin137 rfl
        refine own_byW (T' := T13) (g' := (mkF m 51 #[.val (.ref pa), .val (.ref b4), .val (.int 3), .val (.int 4), .val (.int c4)] [(.int c3)])) (fun t k => X13.caload hx (j := (3 : Int32)) (v := (.int c3)) (by rw [e13]; exact Ar137.1) (State.isArrayOf_alike hZ.alike Ar137.2.1) Ar137.2.2 hin137 hat137 (g := (mkF m 50 #[.val (.ref pa), .val (.ref b4), .val (.int 3), .val (.int 4), .val (.int c4)] [(.int 3), (.ref pa)])) rfl rfl (hb hby d1_50) _ k) ?_
        clear hat137 hin137 G137 Hs137 N137 S137 q137 Ar137 cl137
        refine own_byW (T' := T13) (g' := (mkF m 53 #[.val (.ref pa), .val (.ref b4), .val (.int 3), .val (.int 4), .val (.int c4)] [(.int c4), (.int c3)])) (fun t k => XS.iload X13.here hx rfl (hb hby d1_51) rfl k) ?_
        refine own_byW (T' := T13) (g' := (mkF m 56 #[.val (.ref pa), .val (.ref b4), .val (.int 3), .val (.int 4), .val (.int c4)] [])) (fun t k => XS.icmpNo X13.here hx rfl (hb hby d1_53) rfl (teq hc36_136).2 k) ?_
        refine own_byW (T' := T13) (g' := (mkF m 59 #[.val (.ref pa), .val (.ref b4), .val (.int 4), .val (.int 4), .val (.int c4)] [])) (fun t k => XS.iinc X13.here hx rfl (hb hby d1_56) rfl (l' := #[.val (.ref pa), .val (.ref b4), .val (.int 4), .val (.int 4), .val (.int c4)]) rfl k) ?_
        exact own_j4 l Z a0 hw hx hby hml hlk hret pa nn kp c0 c1 c2 c3 c4 c5 h0 n0 hn0 hn6 hn7 b4 k4 t1 t2 3 _ hS hZ hown (X13) e13 V_pa Zle N_ K_ hk_ ne_pa_b4 g_b4 sz_b4 V_b4 HB1 HB2 (Or.inr <| Or.inr <| Or.inr <| ⟨rfl, f3⟩) (own_leaf4_58 c0 c1 c2 c3 c4 f3 hc36_136) hlt4
      · refine own_byW (T' := T13) (g' := (mkF m 39 #[.val (.ref pa), .val (.ref b4), .val (.int 3), .val (.int 4), .val (.int c4)] [])) (fun t k => XS.icmpNo X13.here hx rfl (hb hby d1_36) rfl (feq hc36_136).1 k) ?_
        refine own_byW (T' := T13) (g' := (mkF m 40 #[.val (.ref pa), .val (.ref b4), .val (.int 3), .val (.int 4), .val (.int c4)] [(.ref b4)])) (fun t k => XS.aloadN X13.here hx rfl (hb hby d1_39) rfl rfl k) ?_
        refine own_byW (T' := T13) (g' := (mkF m 41 #[.val (.ref pa), .val (.ref b4), .val (.int 3), .val (.int 4), .val (.int c4)] [(.int 3), (.ref b4)])) (fun t k => XS.iloadN X13.here hx rfl (hb hby d1_40) rfl k) ?_
        refine own_byW (T' := T13) (g' := (mkF m 42 #[.val (.ref pa), .val (.ref b4), .val (.int 3), .val (.int 4), .val (.int c4)] [(.int 1), (.int 3), (.ref b4)])) (fun t k => XS.iconst X13.here hx rfl (hb hby d1_41) k) ?_
        refine own_byW (T' := T13) (g' := (mkF m 43 #[.val (.ref pa), .val (.ref b4), .val (.int 3), .val (.int 4), .val (.int c4)] [(.int 2), (.ref b4)])) (fun t k => XS.isub X13.here hx rfl (hb hby d1_42) rfl k) ?_
        obtain ⟨cl138, Ar138, q138, S138, N138, Hs138, G138⟩ := id V_b4
        have hin138 : ¬ ((2 : Int32) < 0 ∨ cl138.slots.size ≤ ((2 : Int32)).toNatClampNeg) := inb_of S138 ⟨by decide, own_lt (by decide) hlt4⟩
        have hat138 : cl138.slots[((2 : Int32)).toNatClampNeg]? = some (.int t2) := Hs138.at hin138 rfl
        refine own_byW (T' := T13) (g' := (mkF m 44 #[.val (.ref pa), .val (.ref b4), .val (.int 3), .val (.int 4), .val (.int c4)] [(.int t2)])) (fun t k => X13.iaload hx (j := (2 : Int32)) (v := (.int t2)) (by rw [e13]; exact Ar138.1) (State.isArrayOf_alike hZ.alike Ar138.2.1) Ar138.2.2 hin138 hat138 (g := (mkF m 43 #[.val (.ref pa), .val (.ref b4), .val (.int 3), .val (.int 4), .val (.int c4)] [(.int 2), (.ref b4)])) rfl rfl (hb hby d1_43) _ k) ?_
        clear hat138 hin138 G138 Hs138 N138 S138 q138 Ar138 cl138
        refine own_byW (T' := T13) (g' := (mkF m 45 #[.val (.ref pa), .val (.ref b4), .val (.int t2), .val (.int 4), .val (.int c4)] [])) (fun t k => XS.istoreN X13.here hx rfl (hb hby d1_44) rfl (l' := #[.val (.ref pa), .val (.ref b4), .val (.int t2), .val (.int 4), .val (.int c4)]) rfl k) ?_
        refine own_byW (T' := T13) (g' := (mkF m 27 #[.val (.ref pa), .val (.ref b4), .val (.int t2), .val (.int 4), .val (.int c4)] [])) (fun t k => XS.goto X13.here hx rfl (pc0 := 45) (pc' := 27) rfl (hb hby d1_45) (by decide) (by decide) k) ?_
        rcases HB2 with ⟨rfl, f2⟩ | ⟨rfl, f2⟩ | ⟨rfl, f2⟩
        · refine own_byW (T' := T13) (g' := (mkF m 28 #[.val (.ref pa), .val (.ref b4), .val (.int 0), .val (.int 4), .val (.int c4)] [(.int 0)])) (fun t k => XS.iloadN X13.here hx rfl (hb hby d1_27) rfl k) ?_
          refine own_byW (T' := T13) (g' := (mkF m 48 #[.val (.ref pa), .val (.ref b4), .val (.int 0), .val (.int 4), .val (.int c4)] [])) (fun t k => XS.ifYes X13.here hx rfl (pc0 := 28) (pc' := 48) rfl (hb hby d1_28) rfl ((if0 _ _).trans (flt (by decide)).2.2.2) (by decide) (by decide) k) ?_
          refine own_byW (T' := T13) (g' := (mkF m 49 #[.val (.ref pa), .val (.ref b4), .val (.int 0), .val (.int 4), .val (.int c4)] [(.ref pa)])) (fun t k => XS.aloadN X13.here hx rfl (hb hby d1_48) rfl rfl k) ?_
          refine own_byW (T' := T13) (g' := (mkF m 50 #[.val (.ref pa), .val (.ref b4), .val (.int 0), .val (.int 4), .val (.int c4)] [(.int 0), (.ref pa)])) (fun t k => XS.iloadN X13.here hx rfl (hb hby d1_49) rfl k) ?_
          obtain ⟨cl139, Ar139, q139, S139, N139, Hs139, G139⟩ := id V_pa
          have hin139 : ¬ ((0 : Int32) < 0 ∨ cl139.slots.size ≤ ((0 : Int32)).toNatClampNeg) := inb_of S139 ⟨by decide, own_lt (by decide) hlt4⟩
          have hat139 : cl139.slots[((0 : Int32)).toNatClampNeg]? = some (.int c0) := Hs139.at hin139 rfl
          refine own_byW (T' := T13) (g' := (mkF m 51 #[.val (.ref pa), .val (.ref b4), .val (.int 0), .val (.int 4), .val (.int c4)] [(.int c0)])) (fun t k => X13.caload hx (j := (0 : Int32)) (v := (.int c0)) (by rw [e13]; exact Ar139.1) (State.isArrayOf_alike hZ.alike Ar139.2.1) Ar139.2.2 hin139 hat139 (g := (mkF m 50 #[.val (.ref pa), .val (.ref b4), .val (.int 0), .val (.int 4), .val (.int c4)] [(.int 0), (.ref pa)])) rfl rfl (hb hby d1_50) _ k) ?_
          clear hat139 hin139 G139 Hs139 N139 S139 q139 Ar139 cl139
          refine own_byW (T' := T13) (g' := (mkF m 53 #[.val (.ref pa), .val (.ref b4), .val (.int 0), .val (.int 4), .val (.int c4)] [(.int c4), (.int c0)])) (fun t k => XS.iload X13.here hx rfl (hb hby d1_51) rfl k) ?_
          by_cases hc53_140 : c0 = c4
          · refine own_byW (T' := T13) (g' := (mkF m 56 #[.val (.ref pa), .val (.ref b4), .val (.int 0), .val (.int 4), .val (.int c4)] [])) (fun t k => XS.icmpNo X13.here hx rfl (hb hby d1_53) rfl (teq hc53_140).2 k) ?_
            refine own_byW (T' := T13) (g' := (mkF m 59 #[.val (.ref pa), .val (.ref b4), .val (.int 1), .val (.int 4), .val (.int c4)] [])) (fun t k => XS.iinc X13.here hx rfl (hb hby d1_56) rfl (l' := #[.val (.ref pa), .val (.ref b4), .val (.int 1), .val (.int 4), .val (.int c4)]) rfl k) ?_
            exact own_j4 l Z a0 hw hx hby hml hlk hret pa nn kp c0 c1 c2 c3 c4 c5 h0 n0 hn0 hn6 hn7 b4 k4 t1 0 3 _ hS hZ hown (X13) e13 V_pa Zle N_ K_ hk_ ne_pa_b4 g_b4 sz_b4 V_b4 HB1 (Or.inl ⟨rfl, f2⟩) (Or.inr <| Or.inr <| Or.inr <| ⟨rfl, f3⟩) (own_leaf4_59 c0 c1 c2 c3 c4 f3 f2 hc36_136 hc53_140) hlt4
          · refine own_byW (T' := T13) (g' := (mkF m 59 #[.val (.ref pa), .val (.ref b4), .val (.int 0), .val (.int 4), .val (.int c4)] [])) (fun t k => XS.icmpYes X13.here hx rfl (pc0 := 53) (pc' := 59) rfl (hb hby d1_53) rfl (feq hc53_140).2 (by decide) (by decide) k) ?_
            exact own_j4 l Z a0 hw hx hby hml hlk hret pa nn kp c0 c1 c2 c3 c4 c5 h0 n0 hn0 hn6 hn7 b4 k4 t1 0 3 _ hS hZ hown (X13) e13 V_pa Zle N_ K_ hk_ ne_pa_b4 g_b4 sz_b4 V_b4 HB1 (Or.inl ⟨rfl, f2⟩) (Or.inr <| Or.inr <| Or.inr <| ⟨rfl, f3⟩) (own_leaf4_60 c0 c1 c2 c3 c4 f3 f2 hc36_136 hc53_140) hlt4
        · refine own_byW (T' := T13) (g' := (mkF m 28 #[.val (.ref pa), .val (.ref b4), .val (.int 1), .val (.int 4), .val (.int c4)] [(.int 1)])) (fun t k => XS.iloadN X13.here hx rfl (hb hby d1_27) rfl k) ?_
          refine own_byW (T' := T13) (g' := (mkF m 31 #[.val (.ref pa), .val (.ref b4), .val (.int 1), .val (.int 4), .val (.int c4)] [])) (fun t k => XS.ifNo X13.here hx rfl (hb hby d1_28) rfl ((if0 _ _).trans (tlt (by decide)).2.2.2) k) ?_
          refine own_byW (T' := T13) (g' := (mkF m 32 #[.val (.ref pa), .val (.ref b4), .val (.int 1), .val (.int 4), .val (.int c4)] [(.ref pa)])) (fun t k => XS.aloadN X13.here hx rfl (hb hby d1_31) rfl rfl k) ?_
          refine own_byW (T' := T13) (g' := (mkF m 33 #[.val (.ref pa), .val (.ref b4), .val (.int 1), .val (.int 4), .val (.int c4)] [(.int 1), (.ref pa)])) (fun t k => XS.iloadN X13.here hx rfl (hb hby d1_32) rfl k) ?_
          obtain ⟨cl141, Ar141, q141, S141, N141, Hs141, G141⟩ := id V_pa
          have hin141 : ¬ ((1 : Int32) < 0 ∨ cl141.slots.size ≤ ((1 : Int32)).toNatClampNeg) := inb_of S141 ⟨by decide, own_lt (by decide) hlt4⟩
          have hat141 : cl141.slots[((1 : Int32)).toNatClampNeg]? = some (.int c1) := Hs141.at hin141 rfl
          refine own_byW (T' := T13) (g' := (mkF m 34 #[.val (.ref pa), .val (.ref b4), .val (.int 1), .val (.int 4), .val (.int c4)] [(.int c1)])) (fun t k => X13.caload hx (j := (1 : Int32)) (v := (.int c1)) (by rw [e13]; exact Ar141.1) (State.isArrayOf_alike hZ.alike Ar141.2.1) Ar141.2.2 hin141 hat141 (g := (mkF m 33 #[.val (.ref pa), .val (.ref b4), .val (.int 1), .val (.int 4), .val (.int c4)] [(.int 1), (.ref pa)])) rfl rfl (hb hby d1_33) _ k) ?_
          clear hat141 hin141 G141 Hs141 N141 S141 q141 Ar141 cl141
          refine own_byW (T' := T13) (g' := (mkF m 36 #[.val (.ref pa), .val (.ref b4), .val (.int 1), .val (.int 4), .val (.int c4)] [(.int c4), (.int c1)])) (fun t k => XS.iload X13.here hx rfl (hb hby d1_34) rfl k) ?_
          by_cases hc36_142 : c1 = c4
          · refine own_byW (T' := T13) (g' := (mkF m 48 #[.val (.ref pa), .val (.ref b4), .val (.int 1), .val (.int 4), .val (.int c4)] [])) (fun t k => XS.icmpYes X13.here hx rfl (pc0 := 36) (pc' := 48) rfl (hb hby d1_36) rfl (teq hc36_142).1 (by decide) (by decide) k) ?_
            refine own_byW (T' := T13) (g' := (mkF m 49 #[.val (.ref pa), .val (.ref b4), .val (.int 1), .val (.int 4), .val (.int c4)] [(.ref pa)])) (fun t k => XS.aloadN X13.here hx rfl (hb hby d1_48) rfl rfl k) ?_
            refine own_byW (T' := T13) (g' := (mkF m 50 #[.val (.ref pa), .val (.ref b4), .val (.int 1), .val (.int 4), .val (.int c4)] [(.int 1), (.ref pa)])) (fun t k => XS.iloadN X13.here hx rfl (hb hby d1_49) rfl k) ?_
            obtain ⟨cl143, Ar143, q143, S143, N143, Hs143, G143⟩ := id V_pa
            have hin143 : ¬ ((1 : Int32) < 0 ∨ cl143.slots.size ≤ ((1 : Int32)).toNatClampNeg) := inb_of S143 ⟨by decide, own_lt (by decide) hlt4⟩
            have hat143 : cl143.slots[((1 : Int32)).toNatClampNeg]? = some (.int c1) := Hs143.at hin143 rfl
            refine own_byW (T' := T13) (g' := (mkF m 51 #[.val (.ref pa), .val (.ref b4), .val (.int 1), .val (.int 4), .val (.int c4)] [(.int c1)])) (fun t k => X13.caload hx (j := (1 : Int32)) (v := (.int c1)) (by rw [e13]; exact Ar143.1) (State.isArrayOf_alike hZ.alike Ar143.2.1) Ar143.2.2 hin143 hat143 (g := (mkF m 50 #[.val (.ref pa), .val (.ref b4), .val (.int 1), .val (.int 4), .val (.int c4)] [(.int 1), (.ref pa)])) rfl rfl (hb hby d1_50) _ k) ?_
            clear hat143 hin143 G143 Hs143 N143 S143 q143 Ar143 cl143
            refine own_byW (T' := T13) (g' := (mkF m 53 #[.val (.ref pa), .val (.ref b4), .val (.int 1), .val (.int 4), .val (.int c4)] [(.int c4), (.int c1)])) (fun t k => XS.iload X13.here hx rfl (hb hby d1_51) rfl k) ?_
            refine own_byW (T' := T13) (g' := (mkF m 56 #[.val (.ref pa), .val (.ref b4), .val (.int 1), .val (.int 4), .val (.int c4)] [])) (fun t k => XS.icmpNo X13.here hx rfl (hb hby d1_53) rfl (teq hc36_142).2 k) ?_
            refine own_byW (T' := T13) (g' := (mkF m 59 #[.val (.ref pa), .val (.ref b4), .val (.int 2), .val (.int 4), .val (.int c4)] [])) (fun t k => XS.iinc X13.here hx rfl (hb hby d1_56) rfl (l' := #[.val (.ref pa), .val (.ref b4), .val (.int 2), .val (.int 4), .val (.int c4)]) rfl k) ?_
            exact own_j4 l Z a0 hw hx hby hml hlk hret pa nn kp c0 c1 c2 c3 c4 c5 h0 n0 hn0 hn6 hn7 b4 k4 t1 1 3 _ hS hZ hown (X13) e13 V_pa Zle N_ K_ hk_ ne_pa_b4 g_b4 sz_b4 V_b4 HB1 (Or.inr <| Or.inl ⟨rfl, f2⟩) (Or.inr <| Or.inr <| Or.inr <| ⟨rfl, f3⟩) (own_leaf4_61 c0 c1 c2 c3 c4 f3 f2 hc36_136 hc36_142) hlt4
          · refine own_byW (T' := T13) (g' := (mkF m 39 #[.val (.ref pa), .val (.ref b4), .val (.int 1), .val (.int 4), .val (.int c4)] [])) (fun t k => XS.icmpNo X13.here hx rfl (hb hby d1_36) rfl (feq hc36_142).1 k) ?_
            refine own_byW (T' := T13) (g' := (mkF m 40 #[.val (.ref pa), .val (.ref b4), .val (.int 1), .val (.int 4), .val (.int c4)] [(.ref b4)])) (fun t k => XS.aloadN X13.here hx rfl (hb hby d1_39) rfl rfl k) ?_
            refine own_byW (T' := T13) (g' := (mkF m 41 #[.val (.ref pa), .val (.ref b4), .val (.int 1), .val (.int 4), .val (.int c4)] [(.int 1), (.ref b4)])) (fun t k => XS.iloadN X13.here hx rfl (hb hby d1_40) rfl k) ?_
            refine own_byW (T' := T13) (g' := (mkF m 42 #[.val (.ref pa), .val (.ref b4), .val (.int 1), .val (.int 4), .val (.int c4)] [(.int 1), (.int 1), (.ref b4)])) (fun t k => XS.iconst X13.here hx rfl (hb hby d1_41) k) ?_
            refine own_byW (T' := T13) (g' := (mkF m 43 #[.val (.ref pa), .val (.ref b4), .val (.int 1), .val (.int 4), .val (.int c4)] [(.int 0), (.ref b4)])) (fun t k => XS.isub X13.here hx rfl (hb hby d1_42) rfl k) ?_
            obtain ⟨cl144, Ar144, q144, S144, N144, Hs144, G144⟩ := id V_b4
            have hin144 : ¬ ((0 : Int32) < 0 ∨ cl144.slots.size ≤ ((0 : Int32)).toNatClampNeg) := inb_of S144 ⟨by decide, own_lt (by decide) hlt4⟩
            have hat144 : cl144.slots[((0 : Int32)).toNatClampNeg]? = some (.int 0) := Hs144.at hin144 rfl
            refine own_byW (T' := T13) (g' := (mkF m 44 #[.val (.ref pa), .val (.ref b4), .val (.int 1), .val (.int 4), .val (.int c4)] [(.int 0)])) (fun t k => X13.iaload hx (j := (0 : Int32)) (v := (.int 0)) (by rw [e13]; exact Ar144.1) (State.isArrayOf_alike hZ.alike Ar144.2.1) Ar144.2.2 hin144 hat144 (g := (mkF m 43 #[.val (.ref pa), .val (.ref b4), .val (.int 1), .val (.int 4), .val (.int c4)] [(.int 0), (.ref b4)])) rfl rfl (hb hby d1_43) _ k) ?_
            clear hat144 hin144 G144 Hs144 N144 S144 q144 Ar144 cl144
            refine own_byW (T' := T13) (g' := (mkF m 45 #[.val (.ref pa), .val (.ref b4), .val (.int 0), .val (.int 4), .val (.int c4)] [])) (fun t k => XS.istoreN X13.here hx rfl (hb hby d1_44) rfl (l' := #[.val (.ref pa), .val (.ref b4), .val (.int 0), .val (.int 4), .val (.int c4)]) rfl k) ?_
            refine own_byW (T' := T13) (g' := (mkF m 27 #[.val (.ref pa), .val (.ref b4), .val (.int 0), .val (.int 4), .val (.int c4)] [])) (fun t k => XS.goto X13.here hx rfl (pc0 := 45) (pc' := 27) rfl (hb hby d1_45) (by decide) (by decide) k) ?_
            refine own_byW (T' := T13) (g' := (mkF m 28 #[.val (.ref pa), .val (.ref b4), .val (.int 0), .val (.int 4), .val (.int c4)] [(.int 0)])) (fun t k => XS.iloadN X13.here hx rfl (hb hby d1_27) rfl k) ?_
            refine own_byW (T' := T13) (g' := (mkF m 48 #[.val (.ref pa), .val (.ref b4), .val (.int 0), .val (.int 4), .val (.int c4)] [])) (fun t k => XS.ifYes X13.here hx rfl (pc0 := 28) (pc' := 48) rfl (hb hby d1_28) rfl ((if0 _ _).trans (flt (by decide)).2.2.2) (by decide) (by decide) k) ?_
            refine own_byW (T' := T13) (g' := (mkF m 49 #[.val (.ref pa), .val (.ref b4), .val (.int 0), .val (.int 4), .val (.int c4)] [(.ref pa)])) (fun t k => XS.aloadN X13.here hx rfl (hb hby d1_48) rfl rfl k) ?_
            refine own_byW (T' := T13) (g' := (mkF m 50 #[.val (.ref pa), .val (.ref b4), .val (.int 0), .val (.int 4), .val (.int c4)] [(.int 0), (.ref pa)])) (fun t k => XS.iloadN X13.here hx rfl (hb hby d1_49) rfl k) ?_
            obtain ⟨cl145, Ar145, q145, S145, N145, Hs145, G145⟩ := id V_pa
            have hin145 : ¬ ((0 : Int32) < 0 ∨ cl145.slots.size ≤ ((0 : Int32)).toNatClampNeg) := inb_of S145 ⟨by decide, own_lt (by decide) hlt4⟩
            have hat145 : cl145.slots[((0 : Int32)).toNatClampNeg]? = some (.int c0) := Hs145.at hin145 rfl
            refine own_byW (T' := T13) (g' := (mkF m 51 #[.val (.ref pa), .val (.ref b4), .val (.int 0), .val (.int 4), .val (.int c4)] [(.int c0)])) (fun t k => X13.caload hx (j := (0 : Int32)) (v := (.int c0)) (by rw [e13]; exact Ar145.1) (State.isArrayOf_alike hZ.alike Ar145.2.1) Ar145.2.2 hin145 hat145 (g := (mkF m 50 #[.val (.ref pa), .val (.ref b4), .val (.int 0), .val (.int 4), .val (.int c4)] [(.int 0), (.ref pa)])) rfl rfl (hb hby d1_50) _ k) ?_
            clear hat145 hin145 G145 Hs145 N145 S145 q145 Ar145 cl145
            refine own_byW (T' := T13) (g' := (mkF m 53 #[.val (.ref pa), .val (.ref b4), .val (.int 0), .val (.int 4), .val (.int c4)] [(.int c4), (.int c0)])) (fun t k => XS.iload X13.here hx rfl (hb hby d1_51) rfl k) ?_
            by_cases hc53_146 : c0 = c4
            · refine own_byW (T' := T13) (g' := (mkF m 56 #[.val (.ref pa), .val (.ref b4), .val (.int 0), .val (.int 4), .val (.int c4)] [])) (fun t k => XS.icmpNo X13.here hx rfl (hb hby d1_53) rfl (teq hc53_146).2 k) ?_
              refine own_byW (T' := T13) (g' := (mkF m 59 #[.val (.ref pa), .val (.ref b4), .val (.int 1), .val (.int 4), .val (.int c4)] [])) (fun t k => XS.iinc X13.here hx rfl (hb hby d1_56) rfl (l' := #[.val (.ref pa), .val (.ref b4), .val (.int 1), .val (.int 4), .val (.int c4)]) rfl k) ?_
              exact own_j4 l Z a0 hw hx hby hml hlk hret pa nn kp c0 c1 c2 c3 c4 c5 h0 n0 hn0 hn6 hn7 b4 k4 t1 1 3 _ hS hZ hown (X13) e13 V_pa Zle N_ K_ hk_ ne_pa_b4 g_b4 sz_b4 V_b4 HB1 (Or.inr <| Or.inl ⟨rfl, f2⟩) (Or.inr <| Or.inr <| Or.inr <| ⟨rfl, f3⟩) (own_leaf4_62 c0 c1 c2 c3 c4 f3 f2 hc36_136 hc36_142 hc53_146) hlt4
            · refine own_byW (T' := T13) (g' := (mkF m 59 #[.val (.ref pa), .val (.ref b4), .val (.int 0), .val (.int 4), .val (.int c4)] [])) (fun t k => XS.icmpYes X13.here hx rfl (pc0 := 53) (pc' := 59) rfl (hb hby d1_53) rfl (feq hc53_146).2 (by decide) (by decide) k) ?_
              exact own_j4 l Z a0 hw hx hby hml hlk hret pa nn kp c0 c1 c2 c3 c4 c5 h0 n0 hn0 hn6 hn7 b4 k4 t1 1 3 _ hS hZ hown (X13) e13 V_pa Zle N_ K_ hk_ ne_pa_b4 g_b4 sz_b4 V_b4 HB1 (Or.inr <| Or.inl ⟨rfl, f2⟩) (Or.inr <| Or.inr <| Or.inr <| ⟨rfl, f3⟩) (own_leaf4_63 c0 c1 c2 c3 c4 f3 f2 hc36_136 hc36_142 hc53_146) hlt4
        · refine own_byW (T' := T13) (g' := (mkF m 28 #[.val (.ref pa), .val (.ref b4), .val (.int 2), .val (.int 4), .val (.int c4)] [(.int 2)])) (fun t k => XS.iloadN X13.here hx rfl (hb hby d1_27) rfl k) ?_
          refine own_byW (T' := T13) (g' := (mkF m 31 #[.val (.ref pa), .val (.ref b4), .val (.int 2), .val (.int 4), .val (.int c4)] [])) (fun t k => XS.ifNo X13.here hx rfl (hb hby d1_28) rfl ((if0 _ _).trans (tlt (by decide)).2.2.2) k) ?_
          refine own_byW (T' := T13) (g' := (mkF m 32 #[.val (.ref pa), .val (.ref b4), .val (.int 2), .val (.int 4), .val (.int c4)] [(.ref pa)])) (fun t k => XS.aloadN X13.here hx rfl (hb hby d1_31) rfl rfl k) ?_
          refine own_byW (T' := T13) (g' := (mkF m 33 #[.val (.ref pa), .val (.ref b4), .val (.int 2), .val (.int 4), .val (.int c4)] [(.int 2), (.ref pa)])) (fun t k => XS.iloadN X13.here hx rfl (hb hby d1_32) rfl k) ?_
          obtain ⟨cl147, Ar147, q147, S147, N147, Hs147, G147⟩ := id V_pa
          have hin147 : ¬ ((2 : Int32) < 0 ∨ cl147.slots.size ≤ ((2 : Int32)).toNatClampNeg) := inb_of S147 ⟨by decide, own_lt (by decide) hlt4⟩
          have hat147 : cl147.slots[((2 : Int32)).toNatClampNeg]? = some (.int c2) := Hs147.at hin147 rfl
          refine own_byW (T' := T13) (g' := (mkF m 34 #[.val (.ref pa), .val (.ref b4), .val (.int 2), .val (.int 4), .val (.int c4)] [(.int c2)])) (fun t k => X13.caload hx (j := (2 : Int32)) (v := (.int c2)) (by rw [e13]; exact Ar147.1) (State.isArrayOf_alike hZ.alike Ar147.2.1) Ar147.2.2 hin147 hat147 (g := (mkF m 33 #[.val (.ref pa), .val (.ref b4), .val (.int 2), .val (.int 4), .val (.int c4)] [(.int 2), (.ref pa)])) rfl rfl (hb hby d1_33) _ k) ?_
          clear hat147 hin147 G147 Hs147 N147 S147 q147 Ar147 cl147
          refine own_byW (T' := T13) (g' := (mkF m 36 #[.val (.ref pa), .val (.ref b4), .val (.int 2), .val (.int 4), .val (.int c4)] [(.int c4), (.int c2)])) (fun t k => XS.iload X13.here hx rfl (hb hby d1_34) rfl k) ?_
          by_cases hc36_148 : c2 = c4
          · refine own_byW (T' := T13) (g' := (mkF m 48 #[.val (.ref pa), .val (.ref b4), .val (.int 2), .val (.int 4), .val (.int c4)] [])) (fun t k => XS.icmpYes X13.here hx rfl (pc0 := 36) (pc' := 48) rfl (hb hby d1_36) rfl (teq hc36_148).1 (by decide) (by decide) k) ?_
            refine own_byW (T' := T13) (g' := (mkF m 49 #[.val (.ref pa), .val (.ref b4), .val (.int 2), .val (.int 4), .val (.int c4)] [(.ref pa)])) (fun t k => XS.aloadN X13.here hx rfl (hb hby d1_48) rfl rfl k) ?_
            refine own_byW (T' := T13) (g' := (mkF m 50 #[.val (.ref pa), .val (.ref b4), .val (.int 2), .val (.int 4), .val (.int c4)] [(.int 2), (.ref pa)])) (fun t k => XS.iloadN X13.here hx rfl (hb hby d1_49) rfl k) ?_
            obtain ⟨cl149, Ar149, q149, S149, N149, Hs149, G149⟩ := id V_pa
            have hin149 : ¬ ((2 : Int32) < 0 ∨ cl149.slots.size ≤ ((2 : Int32)).toNatClampNeg) := inb_of S149 ⟨by decide, own_lt (by decide) hlt4⟩
            have hat149 : cl149.slots[((2 : Int32)).toNatClampNeg]? = some (.int c2) := Hs149.at hin149 rfl
            refine own_byW (T' := T13) (g' := (mkF m 51 #[.val (.ref pa), .val (.ref b4), .val (.int 2), .val (.int 4), .val (.int c4)] [(.int c2)])) (fun t k => X13.caload hx (j := (2 : Int32)) (v := (.int c2)) (by rw [e13]; exact Ar149.1) (State.isArrayOf_alike hZ.alike Ar149.2.1) Ar149.2.2 hin149 hat149 (g := (mkF m 50 #[.val (.ref pa), .val (.ref b4), .val (.int 2), .val (.int 4), .val (.int c4)] [(.int 2), (.ref pa)])) rfl rfl (hb hby d1_50) _ k) ?_
            clear hat149 hin149 G149 Hs149 N149 S149 q149 Ar149 cl149
            refine own_byW (T' := T13) (g' := (mkF m 53 #[.val (.ref pa), .val (.ref b4), .val (.int 2), .val (.int 4), .val (.int c4)] [(.int c4), (.int c2)])) (fun t k => XS.iload X13.here hx rfl (hb hby d1_51) rfl k) ?_
            refine own_byW (T' := T13) (g' := (mkF m 56 #[.val (.ref pa), .val (.ref b4), .val (.int 2), .val (.int 4), .val (.int c4)] [])) (fun t k => XS.icmpNo X13.here hx rfl (hb hby d1_53) rfl (teq hc36_148).2 k) ?_
            refine own_byW (T' := T13) (g' := (mkF m 59 #[.val (.ref pa), .val (.ref b4), .val (.int 3), .val (.int 4), .val (.int c4)] [])) (fun t k => XS.iinc X13.here hx rfl (hb hby d1_56) rfl (l' := #[.val (.ref pa), .val (.ref b4), .val (.int 3), .val (.int 4), .val (.int c4)]) rfl k) ?_
            exact own_j4 l Z a0 hw hx hby hml hlk hret pa nn kp c0 c1 c2 c3 c4 c5 h0 n0 hn0 hn6 hn7 b4 k4 t1 2 3 _ hS hZ hown (X13) e13 V_pa Zle N_ K_ hk_ ne_pa_b4 g_b4 sz_b4 V_b4 HB1 (Or.inr <| Or.inr <| ⟨rfl, f2⟩) (Or.inr <| Or.inr <| Or.inr <| ⟨rfl, f3⟩) (own_leaf4_64 c0 c1 c2 c3 c4 f3 f2 hc36_136 hc36_148) hlt4
          · refine own_byW (T' := T13) (g' := (mkF m 39 #[.val (.ref pa), .val (.ref b4), .val (.int 2), .val (.int 4), .val (.int c4)] [])) (fun t k => XS.icmpNo X13.here hx rfl (hb hby d1_36) rfl (feq hc36_148).1 k) ?_
            refine own_byW (T' := T13) (g' := (mkF m 40 #[.val (.ref pa), .val (.ref b4), .val (.int 2), .val (.int 4), .val (.int c4)] [(.ref b4)])) (fun t k => XS.aloadN X13.here hx rfl (hb hby d1_39) rfl rfl k) ?_
            refine own_byW (T' := T13) (g' := (mkF m 41 #[.val (.ref pa), .val (.ref b4), .val (.int 2), .val (.int 4), .val (.int c4)] [(.int 2), (.ref b4)])) (fun t k => XS.iloadN X13.here hx rfl (hb hby d1_40) rfl k) ?_
            refine own_byW (T' := T13) (g' := (mkF m 42 #[.val (.ref pa), .val (.ref b4), .val (.int 2), .val (.int 4), .val (.int c4)] [(.int 1), (.int 2), (.ref b4)])) (fun t k => XS.iconst X13.here hx rfl (hb hby d1_41) k) ?_
            refine own_byW (T' := T13) (g' := (mkF m 43 #[.val (.ref pa), .val (.ref b4), .val (.int 2), .val (.int 4), .val (.int c4)] [(.int 1), (.ref b4)])) (fun t k => XS.isub X13.here hx rfl (hb hby d1_42) rfl k) ?_
            obtain ⟨cl150, Ar150, q150, S150, N150, Hs150, G150⟩ := id V_b4
            have hin150 : ¬ ((1 : Int32) < 0 ∨ cl150.slots.size ≤ ((1 : Int32)).toNatClampNeg) := inb_of S150 ⟨by decide, own_lt (by decide) hlt4⟩
            have hat150 : cl150.slots[((1 : Int32)).toNatClampNeg]? = some (.int t1) := Hs150.at hin150 rfl
            refine own_byW (T' := T13) (g' := (mkF m 44 #[.val (.ref pa), .val (.ref b4), .val (.int 2), .val (.int 4), .val (.int c4)] [(.int t1)])) (fun t k => X13.iaload hx (j := (1 : Int32)) (v := (.int t1)) (by rw [e13]; exact Ar150.1) (State.isArrayOf_alike hZ.alike Ar150.2.1) Ar150.2.2 hin150 hat150 (g := (mkF m 43 #[.val (.ref pa), .val (.ref b4), .val (.int 2), .val (.int 4), .val (.int c4)] [(.int 1), (.ref b4)])) rfl rfl (hb hby d1_43) _ k) ?_
            clear hat150 hin150 G150 Hs150 N150 S150 q150 Ar150 cl150
            refine own_byW (T' := T13) (g' := (mkF m 45 #[.val (.ref pa), .val (.ref b4), .val (.int t1), .val (.int 4), .val (.int c4)] [])) (fun t k => XS.istoreN X13.here hx rfl (hb hby d1_44) rfl (l' := #[.val (.ref pa), .val (.ref b4), .val (.int t1), .val (.int 4), .val (.int c4)]) rfl k) ?_
            refine own_byW (T' := T13) (g' := (mkF m 27 #[.val (.ref pa), .val (.ref b4), .val (.int t1), .val (.int 4), .val (.int c4)] [])) (fun t k => XS.goto X13.here hx rfl (pc0 := 45) (pc' := 27) rfl (hb hby d1_45) (by decide) (by decide) k) ?_
            rcases HB1 with ⟨rfl, f1⟩ | ⟨rfl, f1⟩
            · refine own_byW (T' := T13) (g' := (mkF m 28 #[.val (.ref pa), .val (.ref b4), .val (.int 0), .val (.int 4), .val (.int c4)] [(.int 0)])) (fun t k => XS.iloadN X13.here hx rfl (hb hby d1_27) rfl k) ?_
              refine own_byW (T' := T13) (g' := (mkF m 48 #[.val (.ref pa), .val (.ref b4), .val (.int 0), .val (.int 4), .val (.int c4)] [])) (fun t k => XS.ifYes X13.here hx rfl (pc0 := 28) (pc' := 48) rfl (hb hby d1_28) rfl ((if0 _ _).trans (flt (by decide)).2.2.2) (by decide) (by decide) k) ?_
              refine own_byW (T' := T13) (g' := (mkF m 49 #[.val (.ref pa), .val (.ref b4), .val (.int 0), .val (.int 4), .val (.int c4)] [(.ref pa)])) (fun t k => XS.aloadN X13.here hx rfl (hb hby d1_48) rfl rfl k) ?_
              refine own_byW (T' := T13) (g' := (mkF m 50 #[.val (.ref pa), .val (.ref b4), .val (.int 0), .val (.int 4), .val (.int c4)] [(.int 0), (.ref pa)])) (fun t k => XS.iloadN X13.here hx rfl (hb hby d1_49) rfl k) ?_
              obtain ⟨cl151, Ar151, q151, S151, N151, Hs151, G151⟩ := id V_pa
              have hin151 : ¬ ((0 : Int32) < 0 ∨ cl151.slots.size ≤ ((0 : Int32)).toNatClampNeg) := inb_of S151 ⟨by decide, own_lt (by decide) hlt4⟩
              have hat151 : cl151.slots[((0 : Int32)).toNatClampNeg]? = some (.int c0) := Hs151.at hin151 rfl
              refine own_byW (T' := T13) (g' := (mkF m 51 #[.val (.ref pa), .val (.ref b4), .val (.int 0), .val (.int 4), .val (.int c4)] [(.int c0)])) (fun t k => X13.caload hx (j := (0 : Int32)) (v := (.int c0)) (by rw [e13]; exact Ar151.1) (State.isArrayOf_alike hZ.alike Ar151.2.1) Ar151.2.2 hin151 hat151 (g := (mkF m 50 #[.val (.ref pa), .val (.ref b4), .val (.int 0), .val (.int 4), .val (.int c4)] [(.int 0), (.ref pa)])) rfl rfl (hb hby d1_50) _ k) ?_
              clear hat151 hin151 G151 Hs151 N151 S151 q151 Ar151 cl151
              refine own_byW (T' := T13) (g' := (mkF m 53 #[.val (.ref pa), .val (.ref b4), .val (.int 0), .val (.int 4), .val (.int c4)] [(.int c4), (.int c0)])) (fun t k => XS.iload X13.here hx rfl (hb hby d1_51) rfl k) ?_
              by_cases hc53_152 : c0 = c4
              · refine own_byW (T' := T13) (g' := (mkF m 56 #[.val (.ref pa), .val (.ref b4), .val (.int 0), .val (.int 4), .val (.int c4)] [])) (fun t k => XS.icmpNo X13.here hx rfl (hb hby d1_53) rfl (teq hc53_152).2 k) ?_
                refine own_byW (T' := T13) (g' := (mkF m 59 #[.val (.ref pa), .val (.ref b4), .val (.int 1), .val (.int 4), .val (.int c4)] [])) (fun t k => XS.iinc X13.here hx rfl (hb hby d1_56) rfl (l' := #[.val (.ref pa), .val (.ref b4), .val (.int 1), .val (.int 4), .val (.int c4)]) rfl k) ?_
                exact own_j4 l Z a0 hw hx hby hml hlk hret pa nn kp c0 c1 c2 c3 c4 c5 h0 n0 hn0 hn6 hn7 b4 k4 0 2 3 _ hS hZ hown (X13) e13 V_pa Zle N_ K_ hk_ ne_pa_b4 g_b4 sz_b4 V_b4 (Or.inl ⟨rfl, f1⟩) (Or.inr <| Or.inr <| ⟨rfl, f2⟩) (Or.inr <| Or.inr <| Or.inr <| ⟨rfl, f3⟩) (own_leaf4_65 c0 c1 c2 c3 c4 f3 f2 f1 hc36_136 hc36_148 hc53_152) hlt4
              · refine own_byW (T' := T13) (g' := (mkF m 59 #[.val (.ref pa), .val (.ref b4), .val (.int 0), .val (.int 4), .val (.int c4)] [])) (fun t k => XS.icmpYes X13.here hx rfl (pc0 := 53) (pc' := 59) rfl (hb hby d1_53) rfl (feq hc53_152).2 (by decide) (by decide) k) ?_
                exact own_j4 l Z a0 hw hx hby hml hlk hret pa nn kp c0 c1 c2 c3 c4 c5 h0 n0 hn0 hn6 hn7 b4 k4 0 2 3 _ hS hZ hown (X13) e13 V_pa Zle N_ K_ hk_ ne_pa_b4 g_b4 sz_b4 V_b4 (Or.inl ⟨rfl, f1⟩) (Or.inr <| Or.inr <| ⟨rfl, f2⟩) (Or.inr <| Or.inr <| Or.inr <| ⟨rfl, f3⟩) (own_leaf4_66 c0 c1 c2 c3 c4 f3 f2 f1 hc36_136 hc36_148 hc53_152) hlt4
            · refine own_byW (T' := T13) (g' := (mkF m 28 #[.val (.ref pa), .val (.ref b4), .val (.int 1), .val (.int 4), .val (.int c4)] [(.int 1)])) (fun t k => XS.iloadN X13.here hx rfl (hb hby d1_27) rfl k) ?_
              refine own_byW (T' := T13) (g' := (mkF m 31 #[.val (.ref pa), .val (.ref b4), .val (.int 1), .val (.int 4), .val (.int c4)] [])) (fun t k => XS.ifNo X13.here hx rfl (hb hby d1_28) rfl ((if0 _ _).trans (tlt (by decide)).2.2.2) k) ?_
              refine own_byW (T' := T13) (g' := (mkF m 32 #[.val (.ref pa), .val (.ref b4), .val (.int 1), .val (.int 4), .val (.int c4)] [(.ref pa)])) (fun t k => XS.aloadN X13.here hx rfl (hb hby d1_31) rfl rfl k) ?_
              refine own_byW (T' := T13) (g' := (mkF m 33 #[.val (.ref pa), .val (.ref b4), .val (.int 1), .val (.int 4), .val (.int c4)] [(.int 1), (.ref pa)])) (fun t k => XS.iloadN X13.here hx rfl (hb hby d1_32) rfl k) ?_
              obtain ⟨cl153, Ar153, q153, S153, N153, Hs153, G153⟩ := id V_pa
              have hin153 : ¬ ((1 : Int32) < 0 ∨ cl153.slots.size ≤ ((1 : Int32)).toNatClampNeg) := inb_of S153 ⟨by decide, own_lt (by decide) hlt4⟩
              have hat153 : cl153.slots[((1 : Int32)).toNatClampNeg]? = some (.int c1) := Hs153.at hin153 rfl
              refine own_byW (T' := T13) (g' := (mkF m 34 #[.val (.ref pa), .val (.ref b4), .val (.int 1), .val (.int 4), .val (.int c4)] [(.int c1)])) (fun t k => X13.caload hx (j := (1 : Int32)) (v := (.int c1)) (by rw [e13]; exact Ar153.1) (State.isArrayOf_alike hZ.alike Ar153.2.1) Ar153.2.2 hin153 hat153 (g := (mkF m 33 #[.val (.ref pa), .val (.ref b4), .val (.int 1), .val (.int 4), .val (.int c4)] [(.int 1), (.ref pa)])) rfl rfl (hb hby d1_33) _ k) ?_
              clear hat153 hin153 G153 Hs153 N153 S153 q153 Ar153 cl153
              refine own_byW (T' := T13) (g' := (mkF m 36 #[.val (.ref pa), .val (.ref b4), .val (.int 1), .val (.int 4), .val (.int c4)] [(.int c4), (.int c1)])) (fun t k => XS.iload X13.here hx rfl (hb hby d1_34) rfl k) ?_
              by_cases hc36_154 : c1 = c4
              · refine own_byW (T' := T13) (g' := (mkF m 48 #[.val (.ref pa), .val (.ref b4), .val (.int 1), .val (.int 4), .val (.int c4)] [])) (fun t k => XS.icmpYes X13.here hx rfl (pc0 := 36) (pc' := 48) rfl (hb hby d1_36) rfl (teq hc36_154).1 (by decide) (by decide) k) ?_
                refine own_byW (T' := T13) (g' := (mkF m 49 #[.val (.ref pa), .val (.ref b4), .val (.int 1), .val (.int 4), .val (.int c4)] [(.ref pa)])) (fun t k => XS.aloadN X13.here hx rfl (hb hby d1_48) rfl rfl k) ?_
                refine own_byW (T' := T13) (g' := (mkF m 50 #[.val (.ref pa), .val (.ref b4), .val (.int 1), .val (.int 4), .val (.int c4)] [(.int 1), (.ref pa)])) (fun t k => XS.iloadN X13.here hx rfl (hb hby d1_49) rfl k) ?_
                obtain ⟨cl155, Ar155, q155, S155, N155, Hs155, G155⟩ := id V_pa
                have hin155 : ¬ ((1 : Int32) < 0 ∨ cl155.slots.size ≤ ((1 : Int32)).toNatClampNeg) := inb_of S155 ⟨by decide, own_lt (by decide) hlt4⟩
                have hat155 : cl155.slots[((1 : Int32)).toNatClampNeg]? = some (.int c1) := Hs155.at hin155 rfl
                refine own_byW (T' := T13) (g' := (mkF m 51 #[.val (.ref pa), .val (.ref b4), .val (.int 1), .val (.int 4), .val (.int c4)] [(.int c1)])) (fun t k => X13.caload hx (j := (1 : Int32)) (v := (.int c1)) (by rw [e13]; exact Ar155.1) (State.isArrayOf_alike hZ.alike Ar155.2.1) Ar155.2.2 hin155 hat155 (g := (mkF m 50 #[.val (.ref pa), .val (.ref b4), .val (.int 1), .val (.int 4), .val (.int c4)] [(.int 1), (.ref pa)])) rfl rfl (hb hby d1_50) _ k) ?_
                clear hat155 hin155 G155 Hs155 N155 S155 q155 Ar155 cl155
                refine own_byW (T' := T13) (g' := (mkF m 53 #[.val (.ref pa), .val (.ref b4), .val (.int 1), .val (.int 4), .val (.int c4)] [(.int c4), (.int c1)])) (fun t k => XS.iload X13.here hx rfl (hb hby d1_51) rfl k) ?_
                refine own_byW (T' := T13) (g' := (mkF m 56 #[.val (.ref pa), .val (.ref b4), .val (.int 1), .val (.int 4), .val (.int c4)] [])) (fun t k => XS.icmpNo X13.here hx rfl (hb hby d1_53) rfl (teq hc36_154).2 k) ?_
                refine own_byW (T' := T13) (g' := (mkF m 59 #[.val (.ref pa), .val (.ref b4), .val (.int 2), .val (.int 4), .val (.int c4)] [])) (fun t k => XS.iinc X13.here hx rfl (hb hby d1_56) rfl (l' := #[.val (.ref pa), .val (.ref b4), .val (.int 2), .val (.int 4), .val (.int c4)]) rfl k) ?_
                exact own_j4 l Z a0 hw hx hby hml hlk hret pa nn kp c0 c1 c2 c3 c4 c5 h0 n0 hn0 hn6 hn7 b4 k4 1 2 3 _ hS hZ hown (X13) e13 V_pa Zle N_ K_ hk_ ne_pa_b4 g_b4 sz_b4 V_b4 (Or.inr <| ⟨rfl, f1⟩) (Or.inr <| Or.inr <| ⟨rfl, f2⟩) (Or.inr <| Or.inr <| Or.inr <| ⟨rfl, f3⟩) (own_leaf4_67 c0 c1 c2 c3 c4 f3 f2 f1 hc36_136 hc36_148 hc36_154) hlt4
              · refine own_byW (T' := T13) (g' := (mkF m 39 #[.val (.ref pa), .val (.ref b4), .val (.int 1), .val (.int 4), .val (.int c4)] [])) (fun t k => XS.icmpNo X13.here hx rfl (hb hby d1_36) rfl (feq hc36_154).1 k) ?_
                refine own_byW (T' := T13) (g' := (mkF m 40 #[.val (.ref pa), .val (.ref b4), .val (.int 1), .val (.int 4), .val (.int c4)] [(.ref b4)])) (fun t k => XS.aloadN X13.here hx rfl (hb hby d1_39) rfl rfl k) ?_
                refine own_byW (T' := T13) (g' := (mkF m 41 #[.val (.ref pa), .val (.ref b4), .val (.int 1), .val (.int 4), .val (.int c4)] [(.int 1), (.ref b4)])) (fun t k => XS.iloadN X13.here hx rfl (hb hby d1_40) rfl k) ?_
                refine own_byW (T' := T13) (g' := (mkF m 42 #[.val (.ref pa), .val (.ref b4), .val (.int 1), .val (.int 4), .val (.int c4)] [(.int 1), (.int 1), (.ref b4)])) (fun t k => XS.iconst X13.here hx rfl (hb hby d1_41) k) ?_
                refine own_byW (T' := T13) (g' := (mkF m 43 #[.val (.ref pa), .val (.ref b4), .val (.int 1), .val (.int 4), .val (.int c4)] [(.int 0), (.ref b4)])) (fun t k => XS.isub X13.here hx rfl (hb hby d1_42) rfl k) ?_
                obtain ⟨cl156, Ar156, q156, S156, N156, Hs156, G156⟩ := id V_b4
                have hin156 : ¬ ((0 : Int32) < 0 ∨ cl156.slots.size ≤ ((0 : Int32)).toNatClampNeg) := inb_of S156 ⟨by decide, own_lt (by decide) hlt4⟩
                have hat156 : cl156.slots[((0 : Int32)).toNatClampNeg]? = some (.int 0) := Hs156.at hin156 rfl
                refine own_byW (T' := T13) (g' := (mkF m 44 #[.val (.ref pa), .val (.ref b4), .val (.int 1), .val (.int 4), .val (.int c4)] [(.int 0)])) (fun t k => X13.iaload hx (j := (0 : Int32)) (v := (.int 0)) (by rw [e13]; exact Ar156.1) (State.isArrayOf_alike hZ.alike Ar156.2.1) Ar156.2.2 hin156 hat156 (g := (mkF m 43 #[.val (.ref pa), .val (.ref b4), .val (.int 1), .val (.int 4), .val (.int c4)] [(.int 0), (.ref b4)])) rfl rfl (hb hby d1_43) _ k) ?_
                clear hat156 hin156 G156 Hs156 N156 S156 q156 Ar156 cl156
                refine own_byW (T' := T13) (g' := (mkF m 45 #[.val (.ref pa), .val (.ref b4), .val (.int 0), .val (.int 4), .val (.int c4)] [])) (fun t k => XS.istoreN X13.here hx rfl (hb hby d1_44) rfl (l' := #[.val (.ref pa), .val (.ref b4), .val (.int 0), .val (.int 4), .val (.int c4)]) rfl k) ?_
                refine own_byW (T' := T13) (g' := (mkF m 27 #[.val (.ref pa), .val (.ref b4), .val (.int 0), .val (.int 4), .val (.int c4)] [])) (fun t k => XS.goto X13.here hx rfl (pc0 := 45) (pc' := 27) rfl (hb hby d1_45) (by decide) (by decide) k) ?_
                refine own_byW (T' := T13) (g' := (mkF m 28 #[.val (.ref pa), .val (.ref b4), .val (.int 0), .val (.int 4), .val (.int c4)] [(.int 0)])) (fun t k => XS.iloadN X13.here hx rfl (hb hby d1_27) rfl k) ?_
                refine own_byW (T' := T13) (g' := (mkF m 48 #[.val (.ref pa), .val (.ref b4), .val (.int 0), .val (.int 4), .val (.int c4)] [])) (fun t k => XS.ifYes X13.here hx rfl (pc0 := 28) (pc' := 48) rfl (hb hby d1_28) rfl ((if0 _ _).trans (flt (by decide)).2.2.2) (by decide) (by decide) k) ?_
                refine own_byW (T' := T13) (g' := (mkF m 49 #[.val (.ref pa), .val (.ref b4), .val (.int 0), .val (.int 4), .val (.int c4)] [(.ref pa)])) (fun t k => XS.aloadN X13.here hx rfl (hb hby d1_48) rfl rfl k) ?_
                refine own_byW (T' := T13) (g' := (mkF m 50 #[.val (.ref pa), .val (.ref b4), .val (.int 0), .val (.int 4), .val (.int c4)] [(.int 0), (.ref pa)])) (fun t k => XS.iloadN X13.here hx rfl (hb hby d1_49) rfl k) ?_
                obtain ⟨cl157, Ar157, q157, S157, N157, Hs157, G157⟩ := id V_pa
                have hin157 : ¬ ((0 : Int32) < 0 ∨ cl157.slots.size ≤ ((0 : Int32)).toNatClampNeg) := inb_of S157 ⟨by decide, own_lt (by decide) hlt4⟩
                have hat157 : cl157.slots[((0 : Int32)).toNatClampNeg]? = some (.int c0) := Hs157.at hin157 rfl
                refine own_byW (T' := T13) (g' := (mkF m 51 #[.val (.ref pa), .val (.ref b4), .val (.int 0), .val (.int 4), .val (.int c4)] [(.int c0)])) (fun t k => X13.caload hx (j := (0 : Int32)) (v := (.int c0)) (by rw [e13]; exact Ar157.1) (State.isArrayOf_alike hZ.alike Ar157.2.1) Ar157.2.2 hin157 hat157 (g := (mkF m 50 #[.val (.ref pa), .val (.ref b4), .val (.int 0), .val (.int 4), .val (.int c4)] [(.int 0), (.ref pa)])) rfl rfl (hb hby d1_50) _ k) ?_
                clear hat157 hin157 G157 Hs157 N157 S157 q157 Ar157 cl157
                refine own_byW (T' := T13) (g' := (mkF m 53 #[.val (.ref pa), .val (.ref b4), .val (.int 0), .val (.int 4), .val (.int c4)] [(.int c4), (.int c0)])) (fun t k => XS.iload X13.here hx rfl (hb hby d1_51) rfl k) ?_
                by_cases hc53_158 : c0 = c4
                · refine own_byW (T' := T13) (g' := (mkF m 56 #[.val (.ref pa), .val (.ref b4), .val (.int 0), .val (.int 4), .val (.int c4)] [])) (fun t k => XS.icmpNo X13.here hx rfl (hb hby d1_53) rfl (teq hc53_158).2 k) ?_
                  refine own_byW (T' := T13) (g' := (mkF m 59 #[.val (.ref pa), .val (.ref b4), .val (.int 1), .val (.int 4), .val (.int c4)] [])) (fun t k => XS.iinc X13.here hx rfl (hb hby d1_56) rfl (l' := #[.val (.ref pa), .val (.ref b4), .val (.int 1), .val (.int 4), .val (.int c4)]) rfl k) ?_
                  exact own_j4 l Z a0 hw hx hby hml hlk hret pa nn kp c0 c1 c2 c3 c4 c5 h0 n0 hn0 hn6 hn7 b4 k4 1 2 3 _ hS hZ hown (X13) e13 V_pa Zle N_ K_ hk_ ne_pa_b4 g_b4 sz_b4 V_b4 (Or.inr <| ⟨rfl, f1⟩) (Or.inr <| Or.inr <| ⟨rfl, f2⟩) (Or.inr <| Or.inr <| Or.inr <| ⟨rfl, f3⟩) (own_leaf4_68 c0 c1 c2 c3 c4 f3 f2 f1 hc36_136 hc36_148 hc36_154 hc53_158) hlt4
                · refine own_byW (T' := T13) (g' := (mkF m 59 #[.val (.ref pa), .val (.ref b4), .val (.int 0), .val (.int 4), .val (.int c4)] [])) (fun t k => XS.icmpYes X13.here hx rfl (pc0 := 53) (pc' := 59) rfl (hb hby d1_53) rfl (feq hc53_158).2 (by decide) (by decide) k) ?_
                  exact own_j4 l Z a0 hw hx hby hml hlk hret pa nn kp c0 c1 c2 c3 c4 c5 h0 n0 hn0 hn6 hn7 b4 k4 1 2 3 _ hS hZ hown (X13) e13 V_pa Zle N_ K_ hk_ ne_pa_b4 g_b4 sz_b4 V_b4 (Or.inr <| ⟨rfl, f1⟩) (Or.inr <| Or.inr <| ⟨rfl, f2⟩) (Or.inr <| Or.inr <| Or.inr <| ⟨rfl, f3⟩) (own_leaf4_69 c0 c1 c2 c3 c4 f3 f2 f1 hc36_136 hc36_148 hc36_154 hc53_158) hlt4
  · refine own_byW (T' := T13) (g' := (mkF m 69 #[.val (.ref pa), .val (.ref b4), .val (.int t3), .val (.int 4), .val (.int c3)] [])) (fun t k => XS.icmpYes X13.here hx rfl (pc0 := 19) (pc' := 69) rfl (hb hby d1_19) rfl (flt hc19_15).2.1 (by decide) (by decide) k) ?_
    refine own_byW (T' := T13) (g' := (mkF m 70 #[.val (.ref pa), .val (.ref b4), .val (.int t3), .val (.int 4), .val (.int c3)] [(.ref b4)])) (fun t k => XS.aloadN X13.here hx rfl (hb hby d1_69) rfl rfl k) ?_
    have hend := hc19_15
    exact own_retAW X13 hS (by rw [e13]; exact hk_) hx (t := (.array .int)) hlk hret rfl rfl rfl (hb hby d1_70) (by decide) (by decide) (by rw [e13]; exact ⟨b4, t1, t2, t3, 0, 0, _, rfl, N_, K_, sz_b4, V_b4, (fun _ => HB1), (fun _ => HB2), (fun _ => HB3), (fun q => absurd (own_lt (by decide) q) hend), (fun q => absurd (own_lt (by decide) q) hend)⟩)
set_option maxRecDepth 65536 in
set_option maxHeartbeats 40000000 in
theorem own_j2 (l : Launch) (Z : State) (a0 : Array Value) (hw : ∀ d ∈ tables_1, d.before a0 Z = true) {p : Program} {e : Env} {s : State} {m : MethodId} {below : List Frame} {meth : Method} {c : Code} (hx : p.tables.exec = Jvm.exec) (hby : c.code = prog_15_method_2_code) (hml : c.maxLocals = 5) (hlk : meth.locks = false) (hret : meth.sig.returnType = (some (.array .int))) (pa : Addr) (nn : Int32) (kp : ClassId) (c0 : Int32) (c1 : Int32) (c2 : Int32) (c3 : Int32) (c4 : Int32) (c5 : Int32) (h0 : Heap) (n0 : Nat) (hn0 : ¬ nn < 0) (hn6 : nn.toNatClampNeg ≤ 6) (hn7 : nn < 7) (b4 : Addr) (k4 : ClassId) (t1 : Int32) (t2 : Int32) {Tj : State} {hj : Heap} {locsj : List Loc} {vm0 : Vm} {kk0 : Nat} (hS : s.Since vm0 kk0)
    (hZ : Z.Warmed39 (s.setVm vm0).vm) (hown : (s.setVm vm0).vm.findClass "com/example/emu/emu/PrefixTable" = some m.cls) (Xj : Stand p l e ({ frames := 1, cells := 3, slots := 38, locals := 13 } : Room) (s.setVm vm0) m #[(.ref pa)] below meth c Tj locsj 3 38) (ej : Tj.heap = hj)
    (V_pa : Arv Z hj pa kp .char nn [(.int c0), (.int c1), (.int c2), (.int c3), (.int c4), (.int c5)] (.int 0)) (Zle : n0 ≤ hj.size) (N_ : Fr n0 locsj) (K_ : Keep h0 hj []) (hk_ : kk0 ≤ hj.size) (ne_pa_b4 : pa ≠ b4) (g_b4 : n0 ≤ b4) (sz_b4 : h0.size ≤ b4) (V_b4 : Arv Z hj b4 k4 .int nn [(.int 0), (.int t1), (.int 0), (.int 0), (.int 0), (.int 0)] (.int 0)) (HB1 : own_B1 c0 c1 t1) (HB2 : own_B2 c0 c1 c2 t2) (hlt2 : (2 : Int32) < nn) : own_GoesW p.tables e below s (Q1 Z pa nn kp c0 c1 c2 c3 c4 c5 h0 n0) ({ frames := 1, cells := 3, slots := 38, locals := 13 } : Room).cells ({ frames := 1, cells := 3, slots := 38, locals := 13 } : Room).slots Tj (mkF m 59 #[.val (.ref pa), .val (.ref b4), .val (.int t2), .val (.int 2), .val (.int c2)] []) := by
  refine own_byW (T' := Tj) (g' := (mkF m 60 #[.val (.ref pa), .val (.ref b4), .val (.int t2), .val (.int 2), .val (.int c2)] [(.ref b4)])) (fun t k => XS.aloadN Xj.here hx rfl (hb hby d1_59) rfl rfl k) ?_
  refine own_byW (T' := Tj) (g' := (mkF m 61 #[.val (.ref pa), .val (.ref b4), .val (.int t2), .val (.int 2), .val (.int c2)] [(.int 2), (.ref b4)])) (fun t k => XS.iloadN Xj.here hx rfl (hb hby d1_60) rfl k) ?_
  refine own_byW (T' := Tj) (g' := (mkF m 62 #[.val (.ref pa), .val (.ref b4), .val (.int t2), .val (.int 2), .val (.int c2)] [(.int t2), (.int 2), (.ref b4)])) (fun t k => XS.iloadN Xj.here hx rfl (hb hby d1_61) rfl k) ?_
  obtain ⟨cl10, Ar10, q10, S10, N10, Hs10, G10⟩ := id V_b4
  have hin10 : ¬ ((2 : Int32) < 0 ∨ cl10.slots.size ≤ ((2 : Int32)).toNatClampNeg) := inb_of S10 ⟨by decide, hlt2⟩
  obtain ⟨T10, h10, X10, e10, W10, st10⟩ := stI Xj hx hZ ej Ar10 (j := (2 : Int32)) hin10 (g := (mkF m 62 #[.val (.ref pa), .val (.ref b4), .val (.int t2), .val (.int 2), .val (.int c2)] [(.int t2), (.int 2), (.ref b4)])) rfl rfl (hb hby d1_62)
  have V_b4_ : Arv Z h10 b4 k4 .int nn [(.int 0), (.int t1), (.int t2), (.int 0), (.int 0), (.int 0)] (.int 0) := Arv.set Ar10 q10 S10 N10 Hs10 G10 rfl W10 2 rfl (Nat.le_of_ble_eq_true rfl)
  replace V_pa := V_pa.other W10 ne_pa_b4
  replace Zle := Nat.le_trans Zle (Keep.of_wr W10).1
  replace K_ := K_.wr W10 (Or.inr sz_b4)
  replace hk_ := Nat.le_trans hk_ (Keep.of_wr W10).1
  replace V_b4 := V_b4_
  clear V_b4_ W10 hin10 G10 Hs10 N10 S10 q10 Ar10
  replace N_ := Fr.snoc X10 N_ g_b4
  refine own_byW (T' := T10) (g' := (mkF m 63 #[.val (.ref pa), .val (.ref b4), .val (.int t2), .val (.int 2), .val (.int c2)] [])) (fun t k => st10 t k) ?_
  clear st10
  refine own_byW (T' := T10) (g' := (mkF m 66 #[.val (.ref pa), .val (.ref b4), .val (.int t2), .val (.int 3), .val (.int c2)] [])) (fun t k => XS.iinc X10.here hx rfl (hb hby d1_63) rfl (l' := #[.val (.ref pa), .val (.ref b4), .val (.int t2), .val (.int 3), .val (.int c2)]) rfl k) ?_
  refine own_byW (T' := T10) (g' := (mkF m 16 #[.val (.ref pa), .val (.ref b4), .val (.int t2), .val (.int 3), .val (.int c2)] [])) (fun t k => XS.goto X10.here hx rfl (pc0 := 66) (pc' := 16) rfl (hb hby d1_66) (by decide) (by decide) k) ?_
  refine own_byW (T' := T10) (g' := (mkF m 17 #[.val (.ref pa), .val (.ref b4), .val (.int t2), .val (.int 3), .val (.int c2)] [(.int 3)])) (fun t k => XS.iloadN X10.here hx rfl (hb hby d1_16) rfl k) ?_
  refine own_byW (T' := T10) (g' := (mkF m 18 #[.val (.ref pa), .val (.ref b4), .val (.int t2), .val (.int 3), .val (.int c2)] [(.ref b4), (.int 3)])) (fun t k => XS.aloadN X10.here hx rfl (hb hby d1_17) rfl rfl k) ?_
  obtain ⟨cl11, Ar11, -, S11, N11, -, -⟩ := id V_b4
  have st11 : ∀ t, Steps p.tables e below (T10.setTop (mkF m 19 #[.val (.ref pa), .val (.ref b4), .val (.int t2), .val (.int 3), .val (.int c2)] [(.int nn), (.int 3)])) t → Steps p.tables e below (T10.setTop (mkF m 18 #[.val (.ref pa), .val (.ref b4), .val (.int t2), .val (.int 3), .val (.int c2)] [(.ref b4), (.int 3)])) t := fun t k => X10.arraylength hx (by rw [e10]; exact Ar11.1) (State.isArrayOf_alike hZ.alike Ar11.2.1) (g := (mkF m 18 #[.val (.ref pa), .val (.ref b4), .val (.int t2), .val (.int 3), .val (.int c2)] [(.ref b4), (.int 3)])) rfl rfl (hb hby d1_18) _ (by rw [len_of S11 N11]; exact k)
  refine own_byW (T' := T10) (g' := (mkF m 19 #[.val (.ref pa), .val (.ref b4), .val (.int t2), .val (.int 3), .val (.int c2)] [(.int nn), (.int 3)])) (fun t k => st11 t k) ?_
  clear st11
  by_cases hc19_12 : (3 : Int32) < nn
  · refine own_byW (T' := T10) (g' := (mkF m 22 #[.val (.ref pa), .val (.ref b4), .val (.int t2), .val (.int 3), .val (.int c2)] [])) (fun t k => XS.icmpNo X10.here hx rfl (hb hby d1_19) rfl (tlt hc19_12).2.1 k) ?_
    have hlt3 := hc19_12
    refine own_byW (T' := T10) (g' := (mkF m 23 #[.val (.ref pa), .val (.ref b4), .val (.int t2), .val (.int 3), .val (.int c2)] [(.ref pa)])) (fun t k => XS.aloadN X10.here hx rfl (hb hby d1_22) rfl rfl k) ?_
    refine own_byW (T' := T10) (g' := (mkF m 24 #[.val (.ref pa), .val (.ref b4), .val (.int t2), .val (.int 3), .val (.int c2)] [(.int 3), (.ref pa)])) (fun t k => XS.iloadN X10.here hx rfl (hb hby d1_23) rfl k) ?_
    obtain ⟨cl159, Ar159, q159, S159, N159, Hs159, G159⟩ := id V_pa
    have hin159 : ¬ ((3 : Int32) < 0 ∨ cl159.slots.size ≤ ((3 : Int32)).toNatClampNeg) := inb_of S159 ⟨by decide, own_lt (by decide) hlt3⟩
    have hat159 : cl159.slots[((3 : Int32)).toNatClampNeg]? = some (.int c3) := Hs159.at hin159 rfl
    refine own_byW (T' := T10) (g' := (mkF m 25 #[.val (.ref pa), .val (.ref b4), .val (.int t2), .val (.int 3), .val (.int c2)] [(.int c3)])) (fun t k => X10.caload hx (j := (3 : Int32)) (v := (.int c3)) (by rw [e10]; exact Ar159.1) (State.isArrayOf_alike hZ.alike Ar159.2.1) Ar159.2.2 hin159 hat159 (g := (mkF m 24 #[.val (.ref pa), .val (.ref b4), .val (.int t2), .val (.int 3), .val (.int c2)] [(.int 3), (.ref pa)])) rfl rfl (hb hby d1_24) _ k) ?_
    clear hat159 hin159 G159 Hs159 N159 S159 q159 Ar159 cl159
    refine own_byW (T' := T10) (g' := (mkF m 27 #[.val (.ref pa), .val (.ref b4), .val (.int t2), .val (.int 3), .val (.int c3)] [])) (fun t k => XS.istore X10.here hx rfl (hb hby d1_25) rfl (l' := #[.val (.ref pa), .val (.ref b4), .val (.int t2), .val (.int 3), .val (.int c3)]) rfl k) ?_
    rcases HB2 with ⟨rfl, f2⟩ | ⟨rfl, f2⟩ | ⟨rfl, f2⟩
    · refine own_byW (T' := T10) (g' := (mkF m 28 #[.val (.ref pa), .val (.ref b4), .val (.int 0), .val (.int 3), .val (.int c3)] [(.int 0)])) (fun t k => XS.iloadN X10.here hx rfl (hb hby d1_27) rfl k) ?_
      refine own_byW (T' := T10) (g' := (mkF m 48 #[.val (.ref pa), .val (.ref b4), .val (.int 0), .val (.int 3), .val (.int c3)] [])) (fun t k => XS.ifYes X10.here hx rfl (pc0 := 28) (pc' := 48) rfl (hb hby d1_28) rfl ((if0 _ _).trans (flt (by decide)).2.2.2) (by decide) (by decide) k) ?_
      refine own_byW (T' := T10) (g' := (mkF m 49 #[.val (.ref pa), .val (.ref b4), .val (.int 0), .val (.int 3), .val (.int c3)] [(.ref pa)])) (fun t k => XS.aloadN X10.here hx rfl (hb hby d1_48) rfl rfl k) ?_
      refine own_byW (T' := T10) (g' := (mkF m 50 #[.val (.ref pa), .val (.ref b4), .val (.int 0), .val (.int 3), .val (.int c3)] [(.int 0), (.ref pa)])) (fun t k => XS.iloadN X10.here hx rfl (hb hby d1_49) rfl k) ?_
      obtain ⟨cl160, Ar160, q160, S160, N160, Hs160, G160⟩ := id V_pa
      have hin160 : ¬ ((0 : Int32) < 0 ∨ cl160.slots.size ≤ ((0 : Int32)).toNatClampNeg) := inb_of S160 ⟨by decide, own_lt (by decide) hlt3⟩
      have hat160 : cl160.slots[((0 : Int32)).toNatClampNeg]? = some (.int c0) := Hs160.at hin160 rfl
      refine own_byW (T' := T10) (g' := (mkF m 51 #[.val (.ref pa), .val (.ref b4), .val (.int 0), .val (.int 3), .val (.int c3)] [(.int c0)])) (fun t k => X10.caload hx (j := (0 : Int32)) (v := (.int c0)) (by rw [e10]; exact Ar160.1) (State.isArrayOf_alike hZ.alike Ar160.2.1) Ar160.2.2 hin160 hat160 (g := (mkF m 50 #[.val (.ref pa), .val (.ref b4), .val (.int 0), .val (.int 3), .val (.int c3)] [(.int 0), (.ref pa)])) rfl rfl (hb hby d1_50) _ k) ?_
      clear hat160 hin160 G160 Hs160 N160 S160 q160 Ar160 cl160
      refine own_byW (T' := T10) (g' := (mkF m 53 #[.val (.ref pa), .val (.ref b4), .val (.int 0), .val (.int 3), .val (.int c3)] [(.int c3), (.int c0)])) (fun t k => XS.iload X10.here hx rfl (hb hby d1_51) rfl k) ?_
      by_cases hc53_161 : c0 = c3
      · refine own_byW (T' := T10) (g' := (mkF m 56 #[.val (.ref pa), .val (.ref b4), .val (.int 0), .val (.int 3), .val (.int c3)] [])) (fun t k => XS.icmpNo X10.here hx rfl (hb hby d1_53) rfl (teq hc53_161).2 k) ?_
        refine own_byW (T' := T10) (g' := (mkF m 59 #[.val (.ref pa), .val (.ref b4), .val (.int 1), .val (.int 3), .val (.int c3)] [])) (fun t k => XS.iinc X10.here hx rfl (hb hby d1_56) rfl (l' := #[.val (.ref pa), .val (.ref b4), .val (.int 1), .val (.int 3), .val (.int c3)]) rfl k) ?_
        exact own_j3 l Z a0 hw hx hby hml hlk hret pa nn kp c0 c1 c2 c3 c4 c5 h0 n0 hn0 hn6 hn7 b4 k4 t1 0 _ hS hZ hown (X10) e10 V_pa Zle N_ K_ hk_ ne_pa_b4 g_b4 sz_b4 V_b4 HB1 (Or.inl ⟨rfl, f2⟩) (own_leaf3_70 c0 c1 c2 c3 f2 hc53_161) hlt3
      · refine own_byW (T' := T10) (g' := (mkF m 59 #[.val (.ref pa), .val (.ref b4), .val (.int 0), .val (.int 3), .val (.int c3)] [])) (fun t k => XS.icmpYes X10.here hx rfl (pc0 := 53) (pc' := 59) rfl (hb hby d1_53) rfl (feq hc53_161).2 (by decide) (by decide) k) ?_
        exact own_j3 l Z a0 hw hx hby hml hlk hret pa nn kp c0 c1 c2 c3 c4 c5 h0 n0 hn0 hn6 hn7 b4 k4 t1 0 _ hS hZ hown (X10) e10 V_pa Zle N_ K_ hk_ ne_pa_b4 g_b4 sz_b4 V_b4 HB1 (Or.inl ⟨rfl, f2⟩) (own_leaf3_71 c0 c1 c2 c3 f2 hc53_161) hlt3
    · refine own_byW (T' := T10) (g' := (mkF m 28 #[.val (.ref pa), .val (.ref b4), .val (.int 1), .val (.int 3), .val (.int c3)] [(.int 1)])) (fun t k => XS.iloadN X10.here hx rfl (hb hby d1_27) rfl k) ?_
      refine own_byW (T' := T10) (g' := (mkF m 31 #[.val (.ref pa), .val (.ref b4), .val (.int 1), .val (.int 3), .val (.int c3)] [])) (fun t k => XS.ifNo X10.here hx rfl (hb hby d1_28) rfl ((if0 _ _).trans (tlt (by decide)).2.2.2) k) ?_
      refine own_byW (T' := T10) (g' := (mkF m 32 #[.val (.ref pa), .val (.ref b4), .val (.int 1), .val (.int 3), .val (.int c3)] [(.ref pa)])) (fun t k => XS.aloadN X10.here hx rfl (hb hby d1_31) rfl rfl k) ?_
      refine own_byW (T' := T10) (g' := (mkF m 33 #[.val (.ref pa), .val (.ref b4), .val (.int 1), .val (.int 3), .val (.int c3)] [(.int 1), (.ref pa)])) (fun t k => XS.iloadN X10.here hx rfl (hb hby d1_32) rfl k) ?_
      obtain ⟨cl162, Ar162, q162, S162, N162, Hs162, G162⟩ := id V_pa
      have hin162 : ¬ ((1 : Int32) < 0 ∨ cl162.slots.size ≤ ((1 : Int32)).toNatClampNeg) := inb_of S162 ⟨by decide, own_lt (by decide) hlt3⟩
      have hat162 : cl162.slots[((1 : Int32)).toNatClampNeg]? = some (.int c1) := Hs162.at hin162 rfl
      refine own_byW (T' := T10) (g' := (mkF m 34 #[.val (.ref pa), .val (.ref b4), .val (.int 1), .val (.int 3), .val (.int c3)] [(.int c1)])) (fun t k => X10.caload hx (j := (1 : Int32)) (v := (.int c1)) (by rw [e10]; exact Ar162.1) (State.isArrayOf_alike hZ.alike Ar162.2.1) Ar162.2.2 hin162 hat162 (g := (mkF m 33 #[.val (.ref pa), .val (.ref b4), .val (.int 1), .val (.int 3), .val (.int c3)] [(.int 1), (.ref pa)])) rfl rfl (hb hby d1_33) _ k) ?_
      clear hat162 hin162 G162 Hs162 N162 S162 q162 Ar162 cl162
      refine own_byW (T' := T10) (g' := (mkF m 36 #[.val (.ref pa), .val (.ref b4), .val (.int 1), .val (.int 3), .val (.int c3)] [(.int c3), (.int c1)])) (fun t k => XS.iload X10.here hx rfl (hb hby d1_34) rfl k) ?_
      by_cases hc36_163 : c1 = c3
      · refine own_byW (T' := T10) (g' := (mkF m 48 #[.val (.ref pa), .val (.ref b4), .val (.int 1), .val (.int 3), .val (.int c3)] [])) (fun t k => XS.icmpYes X10.here hx rfl (pc0 := 36) (pc' := 48) rfl (hb hby d1_36) rfl (teq hc36_163).1 (by decide) (by decide) k) ?_
        refine own_byW (T' := T10) (g' := (mkF m 49 #[.val (.ref pa), .val (.ref b4), .val (.int 1), .val (.int 3), .val (.int c3)] [(.ref pa)])) (fun t k => XS.aloadN X10.here hx rfl (hb hby d1_48) rfl rfl k) ?_
        refine own_byW (T' := T10) (g' := (mkF m 50 #[.val (.ref pa), .val (.ref b4), .val (.int 1), .val (.int 3), .val (.int c3)] [(.int 1), (.ref pa)])) (fun t k => XS.iloadN X10.here hx rfl (hb hby d1_49) rfl k) ?_
        obtain ⟨cl164, Ar164, q164, S164, N164, Hs164, G164⟩ := id V_pa
        have hin164 : ¬ ((1 : Int32) < 0 ∨ cl164.slots.size ≤ ((1 : Int32)).toNatClampNeg) := inb_of S164 ⟨by decide, own_lt (by decide) hlt3⟩
        have hat164 : cl164.slots[((1 : Int32)).toNatClampNeg]? = some (.int c1) := Hs164.at hin164 rfl
        refine own_byW (T' := T10) (g' := (mkF m 51 #[.val (.ref pa), .val (.ref b4), .val (.int 1), .val (.int 3), .val (.int c3)] [(.int c1)])) (fun t k => X10.caload hx (j := (1 : Int32)) (v := (.int c1)) (by rw [e10]; exact Ar164.1) (State.isArrayOf_alike hZ.alike Ar164.2.1) Ar164.2.2 hin164 hat164 (g := (mkF m 50 #[.val (.ref pa), .val (.ref b4), .val (.int 1), .val (.int 3), .val (.int c3)] [(.int 1), (.ref pa)])) rfl rfl (hb hby d1_50) _ k) ?_
        clear hat164 hin164 G164 Hs164 N164 S164 q164 Ar164 cl164
        refine own_byW (T' := T10) (g' := (mkF m 53 #[.val (.ref pa), .val (.ref b4), .val (.int 1), .val (.int 3), .val (.int c3)] [(.int c3), (.int c1)])) (fun t k => XS.iload X10.here hx rfl (hb hby d1_51) rfl k) ?_
        refine own_byW (T' := T10) (g' := (mkF m 56 #[.val (.ref pa), .val (.ref b4), .val (.int 1), .val (.int 3), .val (.int c3)] [])) (fun t k => XS.icmpNo X10.here hx rfl (hb hby d1_53) rfl (teq hc36_163).2 k) ?_
        refine own_byW (T' := T10) (g' := (mkF m 59 #[.val (.ref pa), .val (.ref b4), .val (.int 2), .val (.int 3), .val (.int c3)] [])) (fun t k => XS.iinc X10.here hx rfl (hb hby d1_56) rfl (l' := #[.val (.ref pa), .val (.ref b4), .val (.int 2), .val (.int 3), .val (.int c3)]) rfl k) ?_
        exact own_j3 l Z a0 hw hx hby hml hlk hret pa nn kp c0 c1 c2 c3 c4 c5 h0 n0 hn0 hn6 hn7 b4 k4 t1 1 _ hS hZ hown (X10) e10 V_pa Zle N_ K_ hk_ ne_pa_b4 g_b4 sz_b4 V_b4 HB1 (Or.inr <| Or.inl ⟨rfl, f2⟩) (own_leaf3_72 c0 c1 c2 c3 f2 hc36_163) hlt3
      · refine own_byW (T' := T10) (g' := (mkF m 39 #[.val (.ref pa), .val (.ref b4), .val (.int 1), .val (.int 3), .val (.int c3)] [])) (fun t k => XS.icmpNo X10.here hx rfl (hb hby d1_36) rfl (feq hc36_163).1 k) ?_
        refine own_byW (T' := T10) (g' := (mkF m 40 #[.val (.ref pa), .val (.ref b4), .val (.int 1), .val (.int 3), .val (.int c3)] [(.ref b4)])) (fun t k => XS.aloadN X10.here hx rfl (hb hby d1_39) rfl rfl k) ?_
        refine own_byW (T' := T10) (g' := (mkF m 41 #[.val (.ref pa), .val (.ref b4), .val (.int 1), .val (.int 3), .val (.int c3)] [(.int 1), (.ref b4)])) (fun t k => XS.iloadN X10.here hx rfl (hb hby d1_40) rfl k) ?_
        refine own_byW (T' := T10) (g' := (mkF m 42 #[.val (.ref pa), .val (.ref b4), .val (.int 1), .val (.int 3), .val (.int c3)] [(.int 1), (.int 1), (.ref b4)])) (fun t k => XS.iconst X10.here hx rfl (hb hby d1_41) k) ?_
        refine own_byW (T' := T10) (g' := (mkF m 43 #[.val (.ref pa), .val (.ref b4), .val (.int 1), .val (.int 3), .val (.int c3)] [(.int 0), (.ref b4)])) (fun t k => XS.isub X10.here hx rfl (hb hby d1_42) rfl k) ?_
        obtain ⟨cl165, Ar165, q165, S165, N165, Hs165, G165⟩ := id V_b4
        have hin165 : ¬ ((0 : Int32) < 0 ∨ cl165.slots.size ≤ ((0 : Int32)).toNatClampNeg) := inb_of S165 ⟨by decide, own_lt (by decide) hlt3⟩
        have hat165 : cl165.slots[((0 : Int32)).toNatClampNeg]? = some (.int 0) := Hs165.at hin165 rfl
        refine own_byW (T' := T10) (g' := (mkF m 44 #[.val (.ref pa), .val (.ref b4), .val (.int 1), .val (.int 3), .val (.int c3)] [(.int 0)])) (fun t k => X10.iaload hx (j := (0 : Int32)) (v := (.int 0)) (by rw [e10]; exact Ar165.1) (State.isArrayOf_alike hZ.alike Ar165.2.1) Ar165.2.2 hin165 hat165 (g := (mkF m 43 #[.val (.ref pa), .val (.ref b4), .val (.int 1), .val (.int 3), .val (.int c3)] [(.int 0), (.ref b4)])) rfl rfl (hb hby d1_43) _ k) ?_
        clear hat165 hin165 G165 Hs165 N165 S165 q165 Ar165 cl165
        refine own_byW (T' := T10) (g' := (mkF m 45 #[.val (.ref pa), .val (.ref b4), .val (.int 0), .val (.int 3), .val (.int c3)] [])) (fun t k => XS.istoreN X10.here hx rfl (hb hby d1_44) rfl (l' := #[.val (.ref pa), .val (.ref b4), .val (.int 0), .val (.int 3), .val (.int c3)]) rfl k) ?_
        refine own_byW (T' := T10) (g' := (mkF m 27 #[.val (.ref pa), .val (.ref b4), .val (.int 0), .val (.int 3), .val (.int c3)] [])) (fun t k => XS.goto X10.here hx rfl (pc0 := 45) (pc' := 27) rfl (hb hby d1_45) (by decide) (by decide) k) ?_
        refine own_byW (T' := T10) (g' := (mkF m 28 #[.val (.ref pa), .val (.ref b4), .val (.int 0), .val (.int 3), .val (.int c3)] [(.int 0)])) (fun t k => XS.iloadN X10.here hx rfl (hb hby d1_27) rfl k) ?_
        refine own_byW (T' := T10) (g' := (mkF m 48 #[.val (.ref pa), .val (.ref b4), .val (.int 0), .val (.int 3), .val (.int c3)] [])) (fun t k => XS.ifYes X10.here hx rfl (pc0 := 28) (pc' := 48) rfl (hb hby d1_28) rfl ((if0 _ _).trans (flt (by decide)).2.2.2) (by decide) (by decide) k) ?_
        refine own_byW (T' := T10) (g' := (mkF m 49 #[.val (.ref pa), .val (.ref b4), .val (.int 0), .val (.int 3), .val (.int c3)] [(.ref pa)])) (fun t k => XS.aloadN X10.here hx rfl (hb hby d1_48) rfl rfl k) ?_
        refine own_byW (T' := T10) (g' := (mkF m 50 #[.val (.ref pa), .val (.ref b4), .val (.int 0), .val (.int 3), .val (.int c3)] [(.int 0), (.ref pa)])) (fun t k => XS.iloadN X10.here hx rfl (hb hby d1_49) rfl k) ?_
        obtain ⟨cl166, Ar166, q166, S166, N166, Hs166, G166⟩ := id V_pa
        have hin166 : ¬ ((0 : Int32) < 0 ∨ cl166.slots.size ≤ ((0 : Int32)).toNatClampNeg) := inb_of S166 ⟨by decide, own_lt (by decide) hlt3⟩
        have hat166 : cl166.slots[((0 : Int32)).toNatClampNeg]? = some (.int c0) := Hs166.at hin166 rfl
        refine own_byW (T' := T10) (g' := (mkF m 51 #[.val (.ref pa), .val (.ref b4), .val (.int 0), .val (.int 3), .val (.int c3)] [(.int c0)])) (fun t k => X10.caload hx (j := (0 : Int32)) (v := (.int c0)) (by rw [e10]; exact Ar166.1) (State.isArrayOf_alike hZ.alike Ar166.2.1) Ar166.2.2 hin166 hat166 (g := (mkF m 50 #[.val (.ref pa), .val (.ref b4), .val (.int 0), .val (.int 3), .val (.int c3)] [(.int 0), (.ref pa)])) rfl rfl (hb hby d1_50) _ k) ?_
        clear hat166 hin166 G166 Hs166 N166 S166 q166 Ar166 cl166
        refine own_byW (T' := T10) (g' := (mkF m 53 #[.val (.ref pa), .val (.ref b4), .val (.int 0), .val (.int 3), .val (.int c3)] [(.int c3), (.int c0)])) (fun t k => XS.iload X10.here hx rfl (hb hby d1_51) rfl k) ?_
        by_cases hc53_167 : c0 = c3
        · refine own_byW (T' := T10) (g' := (mkF m 56 #[.val (.ref pa), .val (.ref b4), .val (.int 0), .val (.int 3), .val (.int c3)] [])) (fun t k => XS.icmpNo X10.here hx rfl (hb hby d1_53) rfl (teq hc53_167).2 k) ?_
          refine own_byW (T' := T10) (g' := (mkF m 59 #[.val (.ref pa), .val (.ref b4), .val (.int 1), .val (.int 3), .val (.int c3)] [])) (fun t k => XS.iinc X10.here hx rfl (hb hby d1_56) rfl (l' := #[.val (.ref pa), .val (.ref b4), .val (.int 1), .val (.int 3), .val (.int c3)]) rfl k) ?_
          exact own_j3 l Z a0 hw hx hby hml hlk hret pa nn kp c0 c1 c2 c3 c4 c5 h0 n0 hn0 hn6 hn7 b4 k4 t1 1 _ hS hZ hown (X10) e10 V_pa Zle N_ K_ hk_ ne_pa_b4 g_b4 sz_b4 V_b4 HB1 (Or.inr <| Or.inl ⟨rfl, f2⟩) (own_leaf3_73 c0 c1 c2 c3 f2 hc36_163 hc53_167) hlt3
        · refine own_byW (T' := T10) (g' := (mkF m 59 #[.val (.ref pa), .val (.ref b4), .val (.int 0), .val (.int 3), .val (.int c3)] [])) (fun t k => XS.icmpYes X10.here hx rfl (pc0 := 53) (pc' := 59) rfl (hb hby d1_53) rfl (feq hc53_167).2 (by decide) (by decide) k) ?_
          exact own_j3 l Z a0 hw hx hby hml hlk hret pa nn kp c0 c1 c2 c3 c4 c5 h0 n0 hn0 hn6 hn7 b4 k4 t1 1 _ hS hZ hown (X10) e10 V_pa Zle N_ K_ hk_ ne_pa_b4 g_b4 sz_b4 V_b4 HB1 (Or.inr <| Or.inl ⟨rfl, f2⟩) (own_leaf3_74 c0 c1 c2 c3 f2 hc36_163 hc53_167) hlt3
    · refine own_byW (T' := T10) (g' := (mkF m 28 #[.val (.ref pa), .val (.ref b4), .val (.int 2), .val (.int 3), .val (.int c3)] [(.int 2)])) (fun t k => XS.iloadN X10.here hx rfl (hb hby d1_27) rfl k) ?_
      refine own_byW (T' := T10) (g' := (mkF m 31 #[.val (.ref pa), .val (.ref b4), .val (.int 2), .val (.int 3), .val (.int c3)] [])) (fun t k => XS.ifNo X10.here hx rfl (hb hby d1_28) rfl ((if0 _ _).trans (tlt (by decide)).2.2.2) k) ?_
      refine own_byW (T' := T10) (g' := (mkF m 32 #[.val (.ref pa), .val (.ref b4), .val (.int 2), .val (.int 3), .val (.int c3)] [(.ref pa)])) (fun t k => XS.aloadN X10.here hx rfl (hb hby d1_31) rfl rfl k) ?_
      refine own_byW (T' := T10) (g' := (mkF m 33 #[.val (.ref pa), .val (.ref b4), .val (.int 2), .val (.int 3), .val (.int c3)] [(.int 2), (.ref pa)])) (fun t k => XS.iloadN X10.here hx rfl (hb hby d1_32) rfl k) ?_
      obtain ⟨cl168, Ar168, q168, S168, N168, Hs168, G168⟩ := id V_pa
      have hin168 : ¬ ((2 : Int32) < 0 ∨ cl168.slots.size ≤ ((2 : Int32)).toNatClampNeg) := inb_of S168 ⟨by decide, own_lt (by decide) hlt3⟩
      have hat168 : cl168.slots[((2 : Int32)).toNatClampNeg]? = some (.int c2) := Hs168.at hin168 rfl
      refine own_byW (T' := T10) (g' := (mkF m 34 #[.val (.ref pa), .val (.ref b4), .val (.int 2), .val (.int 3), .val (.int c3)] [(.int c2)])) (fun t k => X10.caload hx (j := (2 : Int32)) (v := (.int c2)) (by rw [e10]; exact Ar168.1) (State.isArrayOf_alike hZ.alike Ar168.2.1) Ar168.2.2 hin168 hat168 (g := (mkF m 33 #[.val (.ref pa), .val (.ref b4), .val (.int 2), .val (.int 3), .val (.int c3)] [(.int 2), (.ref pa)])) rfl rfl (hb hby d1_33) _ k) ?_
      clear hat168 hin168 G168 Hs168 N168 S168 q168 Ar168 cl168
      refine own_byW (T' := T10) (g' := (mkF m 36 #[.val (.ref pa), .val (.ref b4), .val (.int 2), .val (.int 3), .val (.int c3)] [(.int c3), (.int c2)])) (fun t k => XS.iload X10.here hx rfl (hb hby d1_34) rfl k) ?_
      by_cases hc36_169 : c2 = c3
      · refine own_byW (T' := T10) (g' := (mkF m 48 #[.val (.ref pa), .val (.ref b4), .val (.int 2), .val (.int 3), .val (.int c3)] [])) (fun t k => XS.icmpYes X10.here hx rfl (pc0 := 36) (pc' := 48) rfl (hb hby d1_36) rfl (teq hc36_169).1 (by decide) (by decide) k) ?_
        refine own_byW (T' := T10) (g' := (mkF m 49 #[.val (.ref pa), .val (.ref b4), .val (.int 2), .val (.int 3), .val (.int c3)] [(.ref pa)])) (fun t k => XS.aloadN X10.here hx rfl (hb hby d1_48) rfl rfl k) ?_
        refine own_byW (T' := T10) (g' := (mkF m 50 #[.val (.ref pa), .val (.ref b4), .val (.int 2), .val (.int 3), .val (.int c3)] [(.int 2), (.ref pa)])) (fun t k => XS.iloadN X10.here hx rfl (hb hby d1_49) rfl k) ?_
        obtain ⟨cl170, Ar170, q170, S170, N170, Hs170, G170⟩ := id V_pa
        have hin170 : ¬ ((2 : Int32) < 0 ∨ cl170.slots.size ≤ ((2 : Int32)).toNatClampNeg) := inb_of S170 ⟨by decide, own_lt (by decide) hlt3⟩
        have hat170 : cl170.slots[((2 : Int32)).toNatClampNeg]? = some (.int c2) := Hs170.at hin170 rfl
        refine own_byW (T' := T10) (g' := (mkF m 51 #[.val (.ref pa), .val (.ref b4), .val (.int 2), .val (.int 3), .val (.int c3)] [(.int c2)])) (fun t k => X10.caload hx (j := (2 : Int32)) (v := (.int c2)) (by rw [e10]; exact Ar170.1) (State.isArrayOf_alike hZ.alike Ar170.2.1) Ar170.2.2 hin170 hat170 (g := (mkF m 50 #[.val (.ref pa), .val (.ref b4), .val (.int 2), .val (.int 3), .val (.int c3)] [(.int 2), (.ref pa)])) rfl rfl (hb hby d1_50) _ k) ?_
        clear hat170 hin170 G170 Hs170 N170 S170 q170 Ar170 cl170
        refine own_byW (T' := T10) (g' := (mkF m 53 #[.val (.ref pa), .val (.ref b4), .val (.int 2), .val (.int 3), .val (.int c3)] [(.int c3), (.int c2)])) (fun t k => XS.iload X10.here hx rfl (hb hby d1_51) rfl k) ?_
        refine own_byW (T' := T10) (g' := (mkF m 56 #[.val (.ref pa), .val (.ref b4), .val (.int 2), .val (.int 3), .val (.int c3)] [])) (fun t k => XS.icmpNo X10.here hx rfl (hb hby d1_53) rfl (teq hc36_169).2 k) ?_
        refine own_byW (T' := T10) (g' := (mkF m 59 #[.val (.ref pa), .val (.ref b4), .val (.int 3), .val (.int 3), .val (.int c3)] [])) (fun t k => XS.iinc X10.here hx rfl (hb hby d1_56) rfl (l' := #[.val (.ref pa), .val (.ref b4), .val (.int 3), .val (.int 3), .val (.int c3)]) rfl k) ?_
        exact own_j3 l Z a0 hw hx hby hml hlk hret pa nn kp c0 c1 c2 c3 c4 c5 h0 n0 hn0 hn6 hn7 b4 k4 t1 2 _ hS hZ hown (X10) e10 V_pa Zle N_ K_ hk_ ne_pa_b4 g_b4 sz_b4 V_b4 HB1 (Or.inr <| Or.inr <| ⟨rfl, f2⟩) (own_leaf3_75 c0 c1 c2 c3 f2 hc36_169) hlt3
      · refine own_byW (T' := T10) (g' := (mkF m 39 #[.val (.ref pa), .val (.ref b4), .val (.int 2), .val (.int 3), .val (.int c3)] [])) (fun t k => XS.icmpNo X10.here hx rfl (hb hby d1_36) rfl (feq hc36_169).1 k) ?_
        refine own_byW (T' := T10) (g' := (mkF m 40 #[.val (.ref pa), .val (.ref b4), .val (.int 2), .val (.int 3), .val (.int c3)] [(.ref b4)])) (fun t k => XS.aloadN X10.here hx rfl (hb hby d1_39) rfl rfl k) ?_
        refine own_byW (T' := T10) (g' := (mkF m 41 #[.val (.ref pa), .val (.ref b4), .val (.int 2), .val (.int 3), .val (.int c3)] [(.int 2), (.ref b4)])) (fun t k => XS.iloadN X10.here hx rfl (hb hby d1_40) rfl k) ?_
        refine own_byW (T' := T10) (g' := (mkF m 42 #[.val (.ref pa), .val (.ref b4), .val (.int 2), .val (.int 3), .val (.int c3)] [(.int 1), (.int 2), (.ref b4)])) (fun t k => XS.iconst X10.here hx rfl (hb hby d1_41) k) ?_
        refine own_byW (T' := T10) (g' := (mkF m 43 #[.val (.ref pa), .val (.ref b4), .val (.int 2), .val (.int 3), .val (.int c3)] [(.int 1), (.ref b4)])) (fun t k => XS.isub X10.here hx rfl (hb hby d1_42) rfl k) ?_
        obtain ⟨cl171, Ar171, q171, S171, N171, Hs171, G171⟩ := id V_b4
        have hin171 : ¬ ((1 : Int32) < 0 ∨ cl171.slots.size ≤ ((1 : Int32)).toNatClampNeg) := inb_of S171 ⟨by decide, own_lt (by decide) hlt3⟩
        have hat171 : cl171.slots[((1 : Int32)).toNatClampNeg]? = some (.int t1) := Hs171.at hin171 rfl
        refine own_byW (T' := T10) (g' := (mkF m 44 #[.val (.ref pa), .val (.ref b4), .val (.int 2), .val (.int 3), .val (.int c3)] [(.int t1)])) (fun t k => X10.iaload hx (j := (1 : Int32)) (v := (.int t1)) (by rw [e10]; exact Ar171.1) (State.isArrayOf_alike hZ.alike Ar171.2.1) Ar171.2.2 hin171 hat171 (g := (mkF m 43 #[.val (.ref pa), .val (.ref b4), .val (.int 2), .val (.int 3), .val (.int c3)] [(.int 1), (.ref b4)])) rfl rfl (hb hby d1_43) _ k) ?_
        clear hat171 hin171 G171 Hs171 N171 S171 q171 Ar171 cl171
        refine own_byW (T' := T10) (g' := (mkF m 45 #[.val (.ref pa), .val (.ref b4), .val (.int t1), .val (.int 3), .val (.int c3)] [])) (fun t k => XS.istoreN X10.here hx rfl (hb hby d1_44) rfl (l' := #[.val (.ref pa), .val (.ref b4), .val (.int t1), .val (.int 3), .val (.int c3)]) rfl k) ?_
        refine own_byW (T' := T10) (g' := (mkF m 27 #[.val (.ref pa), .val (.ref b4), .val (.int t1), .val (.int 3), .val (.int c3)] [])) (fun t k => XS.goto X10.here hx rfl (pc0 := 45) (pc' := 27) rfl (hb hby d1_45) (by decide) (by decide) k) ?_
        rcases HB1 with ⟨rfl, f1⟩ | ⟨rfl, f1⟩
        · refine own_byW (T' := T10) (g' := (mkF m 28 #[.val (.ref pa), .val (.ref b4), .val (.int 0), .val (.int 3), .val (.int c3)] [(.int 0)])) (fun t k => XS.iloadN X10.here hx rfl (hb hby d1_27) rfl k) ?_
          refine own_byW (T' := T10) (g' := (mkF m 48 #[.val (.ref pa), .val (.ref b4), .val (.int 0), .val (.int 3), .val (.int c3)] [])) (fun t k => XS.ifYes X10.here hx rfl (pc0 := 28) (pc' := 48) rfl (hb hby d1_28) rfl ((if0 _ _).trans (flt (by decide)).2.2.2) (by decide) (by decide) k) ?_
          refine own_byW (T' := T10) (g' := (mkF m 49 #[.val (.ref pa), .val (.ref b4), .val (.int 0), .val (.int 3), .val (.int c3)] [(.ref pa)])) (fun t k => XS.aloadN X10.here hx rfl (hb hby d1_48) rfl rfl k) ?_
          refine own_byW (T' := T10) (g' := (mkF m 50 #[.val (.ref pa), .val (.ref b4), .val (.int 0), .val (.int 3), .val (.int c3)] [(.int 0), (.ref pa)])) (fun t k => XS.iloadN X10.here hx rfl (hb hby d1_49) rfl k) ?_
          obtain ⟨cl172, Ar172, q172, S172, N172, Hs172, G172⟩ := id V_pa
          have hin172 : ¬ ((0 : Int32) < 0 ∨ cl172.slots.size ≤ ((0 : Int32)).toNatClampNeg) := inb_of S172 ⟨by decide, own_lt (by decide) hlt3⟩
          have hat172 : cl172.slots[((0 : Int32)).toNatClampNeg]? = some (.int c0) := Hs172.at hin172 rfl
          refine own_byW (T' := T10) (g' := (mkF m 51 #[.val (.ref pa), .val (.ref b4), .val (.int 0), .val (.int 3), .val (.int c3)] [(.int c0)])) (fun t k => X10.caload hx (j := (0 : Int32)) (v := (.int c0)) (by rw [e10]; exact Ar172.1) (State.isArrayOf_alike hZ.alike Ar172.2.1) Ar172.2.2 hin172 hat172 (g := (mkF m 50 #[.val (.ref pa), .val (.ref b4), .val (.int 0), .val (.int 3), .val (.int c3)] [(.int 0), (.ref pa)])) rfl rfl (hb hby d1_50) _ k) ?_
          clear hat172 hin172 G172 Hs172 N172 S172 q172 Ar172 cl172
          refine own_byW (T' := T10) (g' := (mkF m 53 #[.val (.ref pa), .val (.ref b4), .val (.int 0), .val (.int 3), .val (.int c3)] [(.int c3), (.int c0)])) (fun t k => XS.iload X10.here hx rfl (hb hby d1_51) rfl k) ?_
          by_cases hc53_173 : c0 = c3
          · refine own_byW (T' := T10) (g' := (mkF m 56 #[.val (.ref pa), .val (.ref b4), .val (.int 0), .val (.int 3), .val (.int c3)] [])) (fun t k => XS.icmpNo X10.here hx rfl (hb hby d1_53) rfl (teq hc53_173).2 k) ?_
            refine own_byW (T' := T10) (g' := (mkF m 59 #[.val (.ref pa), .val (.ref b4), .val (.int 1), .val (.int 3), .val (.int c3)] [])) (fun t k => XS.iinc X10.here hx rfl (hb hby d1_56) rfl (l' := #[.val (.ref pa), .val (.ref b4), .val (.int 1), .val (.int 3), .val (.int c3)]) rfl k) ?_
            exact own_j3 l Z a0 hw hx hby hml hlk hret pa nn kp c0 c1 c2 c3 c4 c5 h0 n0 hn0 hn6 hn7 b4 k4 0 2 _ hS hZ hown (X10) e10 V_pa Zle N_ K_ hk_ ne_pa_b4 g_b4 sz_b4 V_b4 (Or.inl ⟨rfl, f1⟩) (Or.inr <| Or.inr <| ⟨rfl, f2⟩) (own_leaf3_76 c0 c1 c2 c3 f2 f1 hc36_169 hc53_173) hlt3
          · refine own_byW (T' := T10) (g' := (mkF m 59 #[.val (.ref pa), .val (.ref b4), .val (.int 0), .val (.int 3), .val (.int c3)] [])) (fun t k => XS.icmpYes X10.here hx rfl (pc0 := 53) (pc' := 59) rfl (hb hby d1_53) rfl (feq hc53_173).2 (by decide) (by decide) k) ?_
            exact own_j3 l Z a0 hw hx hby hml hlk hret pa nn kp c0 c1 c2 c3 c4 c5 h0 n0 hn0 hn6 hn7 b4 k4 0 2 _ hS hZ hown (X10) e10 V_pa Zle N_ K_ hk_ ne_pa_b4 g_b4 sz_b4 V_b4 (Or.inl ⟨rfl, f1⟩) (Or.inr <| Or.inr <| ⟨rfl, f2⟩) (own_leaf3_77 c0 c1 c2 c3 f2 f1 hc36_169 hc53_173) hlt3
        · refine own_byW (T' := T10) (g' := (mkF m 28 #[.val (.ref pa), .val (.ref b4), .val (.int 1), .val (.int 3), .val (.int c3)] [(.int 1)])) (fun t k => XS.iloadN X10.here hx rfl (hb hby d1_27) rfl k) ?_
          refine own_byW (T' := T10) (g' := (mkF m 31 #[.val (.ref pa), .val (.ref b4), .val (.int 1), .val (.int 3), .val (.int c3)] [])) (fun t k => XS.ifNo X10.here hx rfl (hb hby d1_28) rfl ((if0 _ _).trans (tlt (by decide)).2.2.2) k) ?_
          refine own_byW (T' := T10) (g' := (mkF m 32 #[.val (.ref pa), .val (.ref b4), .val (.int 1), .val (.int 3), .val (.int c3)] [(.ref pa)])) (fun t k => XS.aloadN X10.here hx rfl (hb hby d1_31) rfl rfl k) ?_
          refine own_byW (T' := T10) (g' := (mkF m 33 #[.val (.ref pa), .val (.ref b4), .val (.int 1), .val (.int 3), .val (.int c3)] [(.int 1), (.ref pa)])) (fun t k => XS.iloadN X10.here hx rfl (hb hby d1_32) rfl k) ?_
          obtain ⟨cl174, Ar174, q174, S174, N174, Hs174, G174⟩ := id V_pa
          have hin174 : ¬ ((1 : Int32) < 0 ∨ cl174.slots.size ≤ ((1 : Int32)).toNatClampNeg) := inb_of S174 ⟨by decide, own_lt (by decide) hlt3⟩
          have hat174 : cl174.slots[((1 : Int32)).toNatClampNeg]? = some (.int c1) := Hs174.at hin174 rfl
          refine own_byW (T' := T10) (g' := (mkF m 34 #[.val (.ref pa), .val (.ref b4), .val (.int 1), .val (.int 3), .val (.int c3)] [(.int c1)])) (fun t k => X10.caload hx (j := (1 : Int32)) (v := (.int c1)) (by rw [e10]; exact Ar174.1) (State.isArrayOf_alike hZ.alike Ar174.2.1) Ar174.2.2 hin174 hat174 (g := (mkF m 33 #[.val (.ref pa), .val (.ref b4), .val (.int 1), .val (.int 3), .val (.int c3)] [(.int 1), (.ref pa)])) rfl rfl (hb hby d1_33) _ k) ?_
          clear hat174 hin174 G174 Hs174 N174 S174 q174 Ar174 cl174
          refine own_byW (T' := T10) (g' := (mkF m 36 #[.val (.ref pa), .val (.ref b4), .val (.int 1), .val (.int 3), .val (.int c3)] [(.int c3), (.int c1)])) (fun t k => XS.iload X10.here hx rfl (hb hby d1_34) rfl k) ?_
          by_cases hc36_175 : c1 = c3
          · refine own_byW (T' := T10) (g' := (mkF m 48 #[.val (.ref pa), .val (.ref b4), .val (.int 1), .val (.int 3), .val (.int c3)] [])) (fun t k => XS.icmpYes X10.here hx rfl (pc0 := 36) (pc' := 48) rfl (hb hby d1_36) rfl (teq hc36_175).1 (by decide) (by decide) k) ?_
            refine own_byW (T' := T10) (g' := (mkF m 49 #[.val (.ref pa), .val (.ref b4), .val (.int 1), .val (.int 3), .val (.int c3)] [(.ref pa)])) (fun t k => XS.aloadN X10.here hx rfl (hb hby d1_48) rfl rfl k) ?_
            refine own_byW (T' := T10) (g' := (mkF m 50 #[.val (.ref pa), .val (.ref b4), .val (.int 1), .val (.int 3), .val (.int c3)] [(.int 1), (.ref pa)])) (fun t k => XS.iloadN X10.here hx rfl (hb hby d1_49) rfl k) ?_
            obtain ⟨cl176, Ar176, q176, S176, N176, Hs176, G176⟩ := id V_pa
            have hin176 : ¬ ((1 : Int32) < 0 ∨ cl176.slots.size ≤ ((1 : Int32)).toNatClampNeg) := inb_of S176 ⟨by decide, own_lt (by decide) hlt3⟩
            have hat176 : cl176.slots[((1 : Int32)).toNatClampNeg]? = some (.int c1) := Hs176.at hin176 rfl
            refine own_byW (T' := T10) (g' := (mkF m 51 #[.val (.ref pa), .val (.ref b4), .val (.int 1), .val (.int 3), .val (.int c3)] [(.int c1)])) (fun t k => X10.caload hx (j := (1 : Int32)) (v := (.int c1)) (by rw [e10]; exact Ar176.1) (State.isArrayOf_alike hZ.alike Ar176.2.1) Ar176.2.2 hin176 hat176 (g := (mkF m 50 #[.val (.ref pa), .val (.ref b4), .val (.int 1), .val (.int 3), .val (.int c3)] [(.int 1), (.ref pa)])) rfl rfl (hb hby d1_50) _ k) ?_
            clear hat176 hin176 G176 Hs176 N176 S176 q176 Ar176 cl176
            refine own_byW (T' := T10) (g' := (mkF m 53 #[.val (.ref pa), .val (.ref b4), .val (.int 1), .val (.int 3), .val (.int c3)] [(.int c3), (.int c1)])) (fun t k => XS.iload X10.here hx rfl (hb hby d1_51) rfl k) ?_
            refine own_byW (T' := T10) (g' := (mkF m 56 #[.val (.ref pa), .val (.ref b4), .val (.int 1), .val (.int 3), .val (.int c3)] [])) (fun t k => XS.icmpNo X10.here hx rfl (hb hby d1_53) rfl (teq hc36_175).2 k) ?_
            refine own_byW (T' := T10) (g' := (mkF m 59 #[.val (.ref pa), .val (.ref b4), .val (.int 2), .val (.int 3), .val (.int c3)] [])) (fun t k => XS.iinc X10.here hx rfl (hb hby d1_56) rfl (l' := #[.val (.ref pa), .val (.ref b4), .val (.int 2), .val (.int 3), .val (.int c3)]) rfl k) ?_
            exact own_j3 l Z a0 hw hx hby hml hlk hret pa nn kp c0 c1 c2 c3 c4 c5 h0 n0 hn0 hn6 hn7 b4 k4 1 2 _ hS hZ hown (X10) e10 V_pa Zle N_ K_ hk_ ne_pa_b4 g_b4 sz_b4 V_b4 (Or.inr <| ⟨rfl, f1⟩) (Or.inr <| Or.inr <| ⟨rfl, f2⟩) (own_leaf3_78 c0 c1 c2 c3 f2 f1 hc36_169 hc36_175) hlt3
          · refine own_byW (T' := T10) (g' := (mkF m 39 #[.val (.ref pa), .val (.ref b4), .val (.int 1), .val (.int 3), .val (.int c3)] [])) (fun t k => XS.icmpNo X10.here hx rfl (hb hby d1_36) rfl (feq hc36_175).1 k) ?_
            refine own_byW (T' := T10) (g' := (mkF m 40 #[.val (.ref pa), .val (.ref b4), .val (.int 1), .val (.int 3), .val (.int c3)] [(.ref b4)])) (fun t k => XS.aloadN X10.here hx rfl (hb hby d1_39) rfl rfl k) ?_
            refine own_byW (T' := T10) (g' := (mkF m 41 #[.val (.ref pa), .val (.ref b4), .val (.int 1), .val (.int 3), .val (.int c3)] [(.int 1), (.ref b4)])) (fun t k => XS.iloadN X10.here hx rfl (hb hby d1_40) rfl k) ?_
            refine own_byW (T' := T10) (g' := (mkF m 42 #[.val (.ref pa), .val (.ref b4), .val (.int 1), .val (.int 3), .val (.int c3)] [(.int 1), (.int 1), (.ref b4)])) (fun t k => XS.iconst X10.here hx rfl (hb hby d1_41) k) ?_
            refine own_byW (T' := T10) (g' := (mkF m 43 #[.val (.ref pa), .val (.ref b4), .val (.int 1), .val (.int 3), .val (.int c3)] [(.int 0), (.ref b4)])) (fun t k => XS.isub X10.here hx rfl (hb hby d1_42) rfl k) ?_
            obtain ⟨cl177, Ar177, q177, S177, N177, Hs177, G177⟩ := id V_b4
            have hin177 : ¬ ((0 : Int32) < 0 ∨ cl177.slots.size ≤ ((0 : Int32)).toNatClampNeg) := inb_of S177 ⟨by decide, own_lt (by decide) hlt3⟩
            have hat177 : cl177.slots[((0 : Int32)).toNatClampNeg]? = some (.int 0) := Hs177.at hin177 rfl
            refine own_byW (T' := T10) (g' := (mkF m 44 #[.val (.ref pa), .val (.ref b4), .val (.int 1), .val (.int 3), .val (.int c3)] [(.int 0)])) (fun t k => X10.iaload hx (j := (0 : Int32)) (v := (.int 0)) (by rw [e10]; exact Ar177.1) (State.isArrayOf_alike hZ.alike Ar177.2.1) Ar177.2.2 hin177 hat177 (g := (mkF m 43 #[.val (.ref pa), .val (.ref b4), .val (.int 1), .val (.int 3), .val (.int c3)] [(.int 0), (.ref b4)])) rfl rfl (hb hby d1_43) _ k) ?_
            clear hat177 hin177 G177 Hs177 N177 S177 q177 Ar177 cl177
            refine own_byW (T' := T10) (g' := (mkF m 45 #[.val (.ref pa), .val (.ref b4), .val (.int 0), .val (.int 3), .val (.int c3)] [])) (fun t k => XS.istoreN X10.here hx rfl (hb hby d1_44) rfl (l' := #[.val (.ref pa), .val (.ref b4), .val (.int 0), .val (.int 3), .val (.int c3)]) rfl k) ?_
            refine own_byW (T' := T10) (g' := (mkF m 27 #[.val (.ref pa), .val (.ref b4), .val (.int 0), .val (.int 3), .val (.int c3)] [])) (fun t k => XS.goto X10.here hx rfl (pc0 := 45) (pc' := 27) rfl (hb hby d1_45) (by decide) (by decide) k) ?_
            refine own_byW (T' := T10) (g' := (mkF m 28 #[.val (.ref pa), .val (.ref b4), .val (.int 0), .val (.int 3), .val (.int c3)] [(.int 0)])) (fun t k => XS.iloadN X10.here hx rfl (hb hby d1_27) rfl k) ?_
            refine own_byW (T' := T10) (g' := (mkF m 48 #[.val (.ref pa), .val (.ref b4), .val (.int 0), .val (.int 3), .val (.int c3)] [])) (fun t k => XS.ifYes X10.here hx rfl (pc0 := 28) (pc' := 48) rfl (hb hby d1_28) rfl ((if0 _ _).trans (flt (by decide)).2.2.2) (by decide) (by decide) k) ?_
            refine own_byW (T' := T10) (g' := (mkF m 49 #[.val (.ref pa), .val (.ref b4), .val (.int 0), .val (.int 3), .val (.int c3)] [(.ref pa)])) (fun t k => XS.aloadN X10.here hx rfl (hb hby d1_48) rfl rfl k) ?_
            refine own_byW (T' := T10) (g' := (mkF m 50 #[.val (.ref pa), .val (.ref b4), .val (.int 0), .val (.int 3), .val (.int c3)] [(.int 0), (.ref pa)])) (fun t k => XS.iloadN X10.here hx rfl (hb hby d1_49) rfl k) ?_
            obtain ⟨cl178, Ar178, q178, S178, N178, Hs178, G178⟩ := id V_pa
            have hin178 : ¬ ((0 : Int32) < 0 ∨ cl178.slots.size ≤ ((0 : Int32)).toNatClampNeg) := inb_of S178 ⟨by decide, own_lt (by decide) hlt3⟩
            have hat178 : cl178.slots[((0 : Int32)).toNatClampNeg]? = some (.int c0) := Hs178.at hin178 rfl
            refine own_byW (T' := T10) (g' := (mkF m 51 #[.val (.ref pa), .val (.ref b4), .val (.int 0), .val (.int 3), .val (.int c3)] [(.int c0)])) (fun t k => X10.caload hx (j := (0 : Int32)) (v := (.int c0)) (by rw [e10]; exact Ar178.1) (State.isArrayOf_alike hZ.alike Ar178.2.1) Ar178.2.2 hin178 hat178 (g := (mkF m 50 #[.val (.ref pa), .val (.ref b4), .val (.int 0), .val (.int 3), .val (.int c3)] [(.int 0), (.ref pa)])) rfl rfl (hb hby d1_50) _ k) ?_
            clear hat178 hin178 G178 Hs178 N178 S178 q178 Ar178 cl178
            refine own_byW (T' := T10) (g' := (mkF m 53 #[.val (.ref pa), .val (.ref b4), .val (.int 0), .val (.int 3), .val (.int c3)] [(.int c3), (.int c0)])) (fun t k => XS.iload X10.here hx rfl (hb hby d1_51) rfl k) ?_
            by_cases hc53_179 : c0 = c3
            · refine own_byW (T' := T10) (g' := (mkF m 56 #[.val (.ref pa), .val (.ref b4), .val (.int 0), .val (.int 3), .val (.int c3)] [])) (fun t k => XS.icmpNo X10.here hx rfl (hb hby d1_53) rfl (teq hc53_179).2 k) ?_
              refine own_byW (T' := T10) (g' := (mkF m 59 #[.val (.ref pa), .val (.ref b4), .val (.int 1), .val (.int 3), .val (.int c3)] [])) (fun t k => XS.iinc X10.here hx rfl (hb hby d1_56) rfl (l' := #[.val (.ref pa), .val (.ref b4), .val (.int 1), .val (.int 3), .val (.int c3)]) rfl k) ?_
              exact own_j3 l Z a0 hw hx hby hml hlk hret pa nn kp c0 c1 c2 c3 c4 c5 h0 n0 hn0 hn6 hn7 b4 k4 1 2 _ hS hZ hown (X10) e10 V_pa Zle N_ K_ hk_ ne_pa_b4 g_b4 sz_b4 V_b4 (Or.inr <| ⟨rfl, f1⟩) (Or.inr <| Or.inr <| ⟨rfl, f2⟩) (own_leaf3_79 c0 c1 c2 c3 f2 f1 hc36_169 hc36_175 hc53_179) hlt3
            · refine own_byW (T' := T10) (g' := (mkF m 59 #[.val (.ref pa), .val (.ref b4), .val (.int 0), .val (.int 3), .val (.int c3)] [])) (fun t k => XS.icmpYes X10.here hx rfl (pc0 := 53) (pc' := 59) rfl (hb hby d1_53) rfl (feq hc53_179).2 (by decide) (by decide) k) ?_
              exact own_j3 l Z a0 hw hx hby hml hlk hret pa nn kp c0 c1 c2 c3 c4 c5 h0 n0 hn0 hn6 hn7 b4 k4 1 2 _ hS hZ hown (X10) e10 V_pa Zle N_ K_ hk_ ne_pa_b4 g_b4 sz_b4 V_b4 (Or.inr <| ⟨rfl, f1⟩) (Or.inr <| Or.inr <| ⟨rfl, f2⟩) (own_leaf3_80 c0 c1 c2 c3 f2 f1 hc36_169 hc36_175 hc53_179) hlt3
  · refine own_byW (T' := T10) (g' := (mkF m 69 #[.val (.ref pa), .val (.ref b4), .val (.int t2), .val (.int 3), .val (.int c2)] [])) (fun t k => XS.icmpYes X10.here hx rfl (pc0 := 19) (pc' := 69) rfl (hb hby d1_19) rfl (flt hc19_12).2.1 (by decide) (by decide) k) ?_
    refine own_byW (T' := T10) (g' := (mkF m 70 #[.val (.ref pa), .val (.ref b4), .val (.int t2), .val (.int 3), .val (.int c2)] [(.ref b4)])) (fun t k => XS.aloadN X10.here hx rfl (hb hby d1_69) rfl rfl k) ?_
    have hend := hc19_12
    exact own_retAW X10 hS (by rw [e10]; exact hk_) hx (t := (.array .int)) hlk hret rfl rfl rfl (hb hby d1_70) (by decide) (by decide) (by rw [e10]; exact ⟨b4, t1, t2, 0, 0, 0, _, rfl, N_, K_, sz_b4, V_b4, (fun _ => HB1), (fun _ => HB2), (fun q => absurd (own_lt (by decide) q) hend), (fun q => absurd (own_lt (by decide) q) hend), (fun q => absurd (own_lt (by decide) q) hend)⟩)
set_option maxRecDepth 65536 in
set_option maxHeartbeats 40000000 in
theorem own_j1 (l : Launch) (Z : State) (a0 : Array Value) (hw : ∀ d ∈ tables_1, d.before a0 Z = true) {p : Program} {e : Env} {s : State} {m : MethodId} {below : List Frame} {meth : Method} {c : Code} (hx : p.tables.exec = Jvm.exec) (hby : c.code = prog_15_method_2_code) (hml : c.maxLocals = 5) (hlk : meth.locks = false) (hret : meth.sig.returnType = (some (.array .int))) (pa : Addr) (nn : Int32) (kp : ClassId) (c0 : Int32) (c1 : Int32) (c2 : Int32) (c3 : Int32) (c4 : Int32) (c5 : Int32) (h0 : Heap) (n0 : Nat) (hn0 : ¬ nn < 0) (hn6 : nn.toNatClampNeg ≤ 6) (hn7 : nn < 7) (b4 : Addr) (k4 : ClassId) (t1 : Int32) {Tj : State} {hj : Heap} {locsj : List Loc} {vm0 : Vm} {kk0 : Nat} (hS : s.Since vm0 kk0)
    (hZ : Z.Warmed39 (s.setVm vm0).vm) (hown : (s.setVm vm0).vm.findClass "com/example/emu/emu/PrefixTable" = some m.cls) (Xj : Stand p l e ({ frames := 1, cells := 3, slots := 38, locals := 13 } : Room) (s.setVm vm0) m #[(.ref pa)] below meth c Tj locsj 3 38) (ej : Tj.heap = hj)
    (V_pa : Arv Z hj pa kp .char nn [(.int c0), (.int c1), (.int c2), (.int c3), (.int c4), (.int c5)] (.int 0)) (Zle : n0 ≤ hj.size) (N_ : Fr n0 locsj) (K_ : Keep h0 hj []) (hk_ : kk0 ≤ hj.size) (ne_pa_b4 : pa ≠ b4) (g_b4 : n0 ≤ b4) (sz_b4 : h0.size ≤ b4) (V_b4 : Arv Z hj b4 k4 .int nn [(.int 0), (.int 0), (.int 0), (.int 0), (.int 0), (.int 0)] (.int 0)) (HB1 : own_B1 c0 c1 t1) (hlt1 : (1 : Int32) < nn) : own_GoesW p.tables e below s (Q1 Z pa nn kp c0 c1 c2 c3 c4 c5 h0 n0) ({ frames := 1, cells := 3, slots := 38, locals := 13 } : Room).cells ({ frames := 1, cells := 3, slots := 38, locals := 13 } : Room).slots Tj (mkF m 59 #[.val (.ref pa), .val (.ref b4), .val (.int t1), .val (.int 1), .val (.int c1)] []) := by
  refine own_byW (T' := Tj) (g' := (mkF m 60 #[.val (.ref pa), .val (.ref b4), .val (.int t1), .val (.int 1), .val (.int c1)] [(.ref b4)])) (fun t k => XS.aloadN Xj.here hx rfl (hb hby d1_59) rfl rfl k) ?_
  refine own_byW (T' := Tj) (g' := (mkF m 61 #[.val (.ref pa), .val (.ref b4), .val (.int t1), .val (.int 1), .val (.int c1)] [(.int 1), (.ref b4)])) (fun t k => XS.iloadN Xj.here hx rfl (hb hby d1_60) rfl k) ?_
  refine own_byW (T' := Tj) (g' := (mkF m 62 #[.val (.ref pa), .val (.ref b4), .val (.int t1), .val (.int 1), .val (.int c1)] [(.int t1), (.int 1), (.ref b4)])) (fun t k => XS.iloadN Xj.here hx rfl (hb hby d1_61) rfl k) ?_
  obtain ⟨cl7, Ar7, q7, S7, N7, Hs7, G7⟩ := id V_b4
  have hin7 : ¬ ((1 : Int32) < 0 ∨ cl7.slots.size ≤ ((1 : Int32)).toNatClampNeg) := inb_of S7 ⟨by decide, hlt1⟩
  obtain ⟨T7, h7, X7, e7, W7, st7⟩ := stI Xj hx hZ ej Ar7 (j := (1 : Int32)) hin7 (g := (mkF m 62 #[.val (.ref pa), .val (.ref b4), .val (.int t1), .val (.int 1), .val (.int c1)] [(.int t1), (.int 1), (.ref b4)])) rfl rfl (hb hby d1_62)
  have V_b4_ : Arv Z h7 b4 k4 .int nn [(.int 0), (.int t1), (.int 0), (.int 0), (.int 0), (.int 0)] (.int 0) := Arv.set Ar7 q7 S7 N7 Hs7 G7 rfl W7 1 rfl (Nat.le_of_ble_eq_true rfl)
  replace V_pa := V_pa.other W7 ne_pa_b4
  replace Zle := Nat.le_trans Zle (Keep.of_wr W7).1
  replace K_ := K_.wr W7 (Or.inr sz_b4)
  replace hk_ := Nat.le_trans hk_ (Keep.of_wr W7).1
  replace V_b4 := V_b4_
  clear V_b4_ W7 hin7 G7 Hs7 N7 S7 q7 Ar7
  replace N_ := Fr.snoc X7 N_ g_b4
  refine own_byW (T' := T7) (g' := (mkF m 63 #[.val (.ref pa), .val (.ref b4), .val (.int t1), .val (.int 1), .val (.int c1)] [])) (fun t k => st7 t k) ?_
  clear st7
  refine own_byW (T' := T7) (g' := (mkF m 66 #[.val (.ref pa), .val (.ref b4), .val (.int t1), .val (.int 2), .val (.int c1)] [])) (fun t k => XS.iinc X7.here hx rfl (hb hby d1_63) rfl (l' := #[.val (.ref pa), .val (.ref b4), .val (.int t1), .val (.int 2), .val (.int c1)]) rfl k) ?_
  refine own_byW (T' := T7) (g' := (mkF m 16 #[.val (.ref pa), .val (.ref b4), .val (.int t1), .val (.int 2), .val (.int c1)] [])) (fun t k => XS.goto X7.here hx rfl (pc0 := 66) (pc' := 16) rfl (hb hby d1_66) (by decide) (by decide) k) ?_
  refine own_byW (T' := T7) (g' := (mkF m 17 #[.val (.ref pa), .val (.ref b4), .val (.int t1), .val (.int 2), .val (.int c1)] [(.int 2)])) (fun t k => XS.iloadN X7.here hx rfl (hb hby d1_16) rfl k) ?_
  refine own_byW (T' := T7) (g' := (mkF m 18 #[.val (.ref pa), .val (.ref b4), .val (.int t1), .val (.int 2), .val (.int c1)] [(.ref b4), (.int 2)])) (fun t k => XS.aloadN X7.here hx rfl (hb hby d1_17) rfl rfl k) ?_
  obtain ⟨cl8, Ar8, -, S8, N8, -, -⟩ := id V_b4
  have st8 : ∀ t, Steps p.tables e below (T7.setTop (mkF m 19 #[.val (.ref pa), .val (.ref b4), .val (.int t1), .val (.int 2), .val (.int c1)] [(.int nn), (.int 2)])) t → Steps p.tables e below (T7.setTop (mkF m 18 #[.val (.ref pa), .val (.ref b4), .val (.int t1), .val (.int 2), .val (.int c1)] [(.ref b4), (.int 2)])) t := fun t k => X7.arraylength hx (by rw [e7]; exact Ar8.1) (State.isArrayOf_alike hZ.alike Ar8.2.1) (g := (mkF m 18 #[.val (.ref pa), .val (.ref b4), .val (.int t1), .val (.int 2), .val (.int c1)] [(.ref b4), (.int 2)])) rfl rfl (hb hby d1_18) _ (by rw [len_of S8 N8]; exact k)
  refine own_byW (T' := T7) (g' := (mkF m 19 #[.val (.ref pa), .val (.ref b4), .val (.int t1), .val (.int 2), .val (.int c1)] [(.int nn), (.int 2)])) (fun t k => st8 t k) ?_
  clear st8
  by_cases hc19_9 : (2 : Int32) < nn
  · refine own_byW (T' := T7) (g' := (mkF m 22 #[.val (.ref pa), .val (.ref b4), .val (.int t1), .val (.int 2), .val (.int c1)] [])) (fun t k => XS.icmpNo X7.here hx rfl (hb hby d1_19) rfl (tlt hc19_9).2.1 k) ?_
    have hlt2 := hc19_9
    refine own_byW (T' := T7) (g' := (mkF m 23 #[.val (.ref pa), .val (.ref b4), .val (.int t1), .val (.int 2), .val (.int c1)] [(.ref pa)])) (fun t k => XS.aloadN X7.here hx rfl (hb hby d1_22) rfl rfl k) ?_
    refine own_byW (T' := T7) (g' := (mkF m 24 #[.val (.ref pa), .val (.ref b4), .val (.int t1), .val (.int 2), .val (.int c1)] [(.int 2), (.ref pa)])) (fun t k => XS.iloadN X7.here hx rfl (hb hby d1_23) rfl k) ?_
    obtain ⟨cl180, Ar180, q180, S180, N180, Hs180, G180⟩ := id V_pa
    have hin180 : ¬ ((2 : Int32) < 0 ∨ cl180.slots.size ≤ ((2 : Int32)).toNatClampNeg) := inb_of S180 ⟨by decide, own_lt (by decide) hlt2⟩
    have hat180 : cl180.slots[((2 : Int32)).toNatClampNeg]? = some (.int c2) := Hs180.at hin180 rfl
    refine own_byW (T' := T7) (g' := (mkF m 25 #[.val (.ref pa), .val (.ref b4), .val (.int t1), .val (.int 2), .val (.int c1)] [(.int c2)])) (fun t k => X7.caload hx (j := (2 : Int32)) (v := (.int c2)) (by rw [e7]; exact Ar180.1) (State.isArrayOf_alike hZ.alike Ar180.2.1) Ar180.2.2 hin180 hat180 (g := (mkF m 24 #[.val (.ref pa), .val (.ref b4), .val (.int t1), .val (.int 2), .val (.int c1)] [(.int 2), (.ref pa)])) rfl rfl (hb hby d1_24) _ k) ?_
    clear hat180 hin180 G180 Hs180 N180 S180 q180 Ar180 cl180
    refine own_byW (T' := T7) (g' := (mkF m 27 #[.val (.ref pa), .val (.ref b4), .val (.int t1), .val (.int 2), .val (.int c2)] [])) (fun t k => XS.istore X7.here hx rfl (hb hby d1_25) rfl (l' := #[.val (.ref pa), .val (.ref b4), .val (.int t1), .val (.int 2), .val (.int c2)]) rfl k) ?_
    rcases HB1 with ⟨rfl, f1⟩ | ⟨rfl, f1⟩
    · refine own_byW (T' := T7) (g' := (mkF m 28 #[.val (.ref pa), .val (.ref b4), .val (.int 0), .val (.int 2), .val (.int c2)] [(.int 0)])) (fun t k => XS.iloadN X7.here hx rfl (hb hby d1_27) rfl k) ?_
      refine own_byW (T' := T7) (g' := (mkF m 48 #[.val (.ref pa), .val (.ref b4), .val (.int 0), .val (.int 2), .val (.int c2)] [])) (fun t k => XS.ifYes X7.here hx rfl (pc0 := 28) (pc' := 48) rfl (hb hby d1_28) rfl ((if0 _ _).trans (flt (by decide)).2.2.2) (by decide) (by decide) k) ?_
      refine own_byW (T' := T7) (g' := (mkF m 49 #[.val (.ref pa), .val (.ref b4), .val (.int 0), .val (.int 2), .val (.int c2)] [(.ref pa)])) (fun t k => XS.aloadN X7.here hx rfl (hb hby d1_48) rfl rfl k) ?_
      refine own_byW (T' := T7) (g' := (mkF m 50 #[.val (.ref pa), .val (.ref b4), .val (.int 0), .val (.int 2), .val (.int c2)] [(.int 0), (.ref pa)])) (fun t k => XS.iloadN X7.here hx rfl (hb hby d1_49) rfl k) ?_
      obtain ⟨cl181, Ar181, q181, S181, N181, Hs181, G181⟩ := id V_pa
      have hin181 : ¬ ((0 : Int32) < 0 ∨ cl181.slots.size ≤ ((0 : Int32)).toNatClampNeg) := inb_of S181 ⟨by decide, own_lt (by decide) hlt2⟩
      have hat181 : cl181.slots[((0 : Int32)).toNatClampNeg]? = some (.int c0) := Hs181.at hin181 rfl
      refine own_byW (T' := T7) (g' := (mkF m 51 #[.val (.ref pa), .val (.ref b4), .val (.int 0), .val (.int 2), .val (.int c2)] [(.int c0)])) (fun t k => X7.caload hx (j := (0 : Int32)) (v := (.int c0)) (by rw [e7]; exact Ar181.1) (State.isArrayOf_alike hZ.alike Ar181.2.1) Ar181.2.2 hin181 hat181 (g := (mkF m 50 #[.val (.ref pa), .val (.ref b4), .val (.int 0), .val (.int 2), .val (.int c2)] [(.int 0), (.ref pa)])) rfl rfl (hb hby d1_50) _ k) ?_
      clear hat181 hin181 G181 Hs181 N181 S181 q181 Ar181 cl181
      refine own_byW (T' := T7) (g' := (mkF m 53 #[.val (.ref pa), .val (.ref b4), .val (.int 0), .val (.int 2), .val (.int c2)] [(.int c2), (.int c0)])) (fun t k => XS.iload X7.here hx rfl (hb hby d1_51) rfl k) ?_
      by_cases hc53_182 : c0 = c2
      · refine own_byW (T' := T7) (g' := (mkF m 56 #[.val (.ref pa), .val (.ref b4), .val (.int 0), .val (.int 2), .val (.int c2)] [])) (fun t k => XS.icmpNo X7.here hx rfl (hb hby d1_53) rfl (teq hc53_182).2 k) ?_
        refine own_byW (T' := T7) (g' := (mkF m 59 #[.val (.ref pa), .val (.ref b4), .val (.int 1), .val (.int 2), .val (.int c2)] [])) (fun t k => XS.iinc X7.here hx rfl (hb hby d1_56) rfl (l' := #[.val (.ref pa), .val (.ref b4), .val (.int 1), .val (.int 2), .val (.int c2)]) rfl k) ?_
        exact own_j2 l Z a0 hw hx hby hml hlk hret pa nn kp c0 c1 c2 c3 c4 c5 h0 n0 hn0 hn6 hn7 b4 k4 0 _ hS hZ hown (X7) e7 V_pa Zle N_ K_ hk_ ne_pa_b4 g_b4 sz_b4 V_b4 (Or.inl ⟨rfl, f1⟩) (own_leaf2_81 c0 c1 c2 f1 hc53_182) hlt2
      · refine own_byW (T' := T7) (g' := (mkF m 59 #[.val (.ref pa), .val (.ref b4), .val (.int 0), .val (.int 2), .val (.int c2)] [])) (fun t k => XS.icmpYes X7.here hx rfl (pc0 := 53) (pc' := 59) rfl (hb hby d1_53) rfl (feq hc53_182).2 (by decide) (by decide) k) ?_
        exact own_j2 l Z a0 hw hx hby hml hlk hret pa nn kp c0 c1 c2 c3 c4 c5 h0 n0 hn0 hn6 hn7 b4 k4 0 _ hS hZ hown (X7) e7 V_pa Zle N_ K_ hk_ ne_pa_b4 g_b4 sz_b4 V_b4 (Or.inl ⟨rfl, f1⟩) (own_leaf2_82 c0 c1 c2 f1 hc53_182) hlt2
    · refine own_byW (T' := T7) (g' := (mkF m 28 #[.val (.ref pa), .val (.ref b4), .val (.int 1), .val (.int 2), .val (.int c2)] [(.int 1)])) (fun t k => XS.iloadN X7.here hx rfl (hb hby d1_27) rfl k) ?_
      refine own_byW (T' := T7) (g' := (mkF m 31 #[.val (.ref pa), .val (.ref b4), .val (.int 1), .val (.int 2), .val (.int c2)] [])) (fun t k => XS.ifNo X7.here hx rfl (hb hby d1_28) rfl ((if0 _ _).trans (tlt (by decide)).2.2.2) k) ?_
      refine own_byW (T' := T7) (g' := (mkF m 32 #[.val (.ref pa), .val (.ref b4), .val (.int 1), .val (.int 2), .val (.int c2)] [(.ref pa)])) (fun t k => XS.aloadN X7.here hx rfl (hb hby d1_31) rfl rfl k) ?_
      refine own_byW (T' := T7) (g' := (mkF m 33 #[.val (.ref pa), .val (.ref b4), .val (.int 1), .val (.int 2), .val (.int c2)] [(.int 1), (.ref pa)])) (fun t k => XS.iloadN X7.here hx rfl (hb hby d1_32) rfl k) ?_
      obtain ⟨cl183, Ar183, q183, S183, N183, Hs183, G183⟩ := id V_pa
      have hin183 : ¬ ((1 : Int32) < 0 ∨ cl183.slots.size ≤ ((1 : Int32)).toNatClampNeg) := inb_of S183 ⟨by decide, own_lt (by decide) hlt2⟩
      have hat183 : cl183.slots[((1 : Int32)).toNatClampNeg]? = some (.int c1) := Hs183.at hin183 rfl
      refine own_byW (T' := T7) (g' := (mkF m 34 #[.val (.ref pa), .val (.ref b4), .val (.int 1), .val (.int 2), .val (.int c2)] [(.int c1)])) (fun t k => X7.caload hx (j := (1 : Int32)) (v := (.int c1)) (by rw [e7]; exact Ar183.1) (State.isArrayOf_alike hZ.alike Ar183.2.1) Ar183.2.2 hin183 hat183 (g := (mkF m 33 #[.val (.ref pa), .val (.ref b4), .val (.int 1), .val (.int 2), .val (.int c2)] [(.int 1), (.ref pa)])) rfl rfl (hb hby d1_33) _ k) ?_
      clear hat183 hin183 G183 Hs183 N183 S183 q183 Ar183 cl183
      refine own_byW (T' := T7) (g' := (mkF m 36 #[.val (.ref pa), .val (.ref b4), .val (.int 1), .val (.int 2), .val (.int c2)] [(.int c2), (.int c1)])) (fun t k => XS.iload X7.here hx rfl (hb hby d1_34) rfl k) ?_
      by_cases hc36_184 : c1 = c2
      · refine own_byW (T' := T7) (g' := (mkF m 48 #[.val (.ref pa), .val (.ref b4), .val (.int 1), .val (.int 2), .val (.int c2)] [])) (fun t k => XS.icmpYes X7.here hx rfl (pc0 := 36) (pc' := 48) rfl (hb hby d1_36) rfl (teq hc36_184).1 (by decide) (by decide) k) ?_
        refine own_byW (T' := T7) (g' := (mkF m 49 #[.val (.ref pa), .val (.ref b4), .val (.int 1), .val (.int 2), .val (.int c2)] [(.ref pa)])) (fun t k => XS.aloadN X7.here hx rfl (hb hby d1_48) rfl rfl k) ?_
        refine own_byW (T' := T7) (g' := (mkF m 50 #[.val (.ref pa), .val (.ref b4), .val (.int 1), .val (.int 2), .val (.int c2)] [(.int 1), (.ref pa)])) (fun t k => XS.iloadN X7.here hx rfl (hb hby d1_49) rfl k) ?_
        obtain ⟨cl185, Ar185, q185, S185, N185, Hs185, G185⟩ := id V_pa
        have hin185 : ¬ ((1 : Int32) < 0 ∨ cl185.slots.size ≤ ((1 : Int32)).toNatClampNeg) := inb_of S185 ⟨by decide, own_lt (by decide) hlt2⟩
        have hat185 : cl185.slots[((1 : Int32)).toNatClampNeg]? = some (.int c1) := Hs185.at hin185 rfl
        refine own_byW (T' := T7) (g' := (mkF m 51 #[.val (.ref pa), .val (.ref b4), .val (.int 1), .val (.int 2), .val (.int c2)] [(.int c1)])) (fun t k => X7.caload hx (j := (1 : Int32)) (v := (.int c1)) (by rw [e7]; exact Ar185.1) (State.isArrayOf_alike hZ.alike Ar185.2.1) Ar185.2.2 hin185 hat185 (g := (mkF m 50 #[.val (.ref pa), .val (.ref b4), .val (.int 1), .val (.int 2), .val (.int c2)] [(.int 1), (.ref pa)])) rfl rfl (hb hby d1_50) _ k) ?_
        clear hat185 hin185 G185 Hs185 N185 S185 q185 Ar185 cl185
        refine own_byW (T' := T7) (g' := (mkF m 53 #[.val (.ref pa), .val (.ref b4), .val (.int 1), .val (.int 2), .val (.int c2)] [(.int c2), (.int c1)])) (fun t k => XS.iload X7.here hx rfl (hb hby d1_51) rfl k) ?_
        refine own_byW (T' := T7) (g' := (mkF m 56 #[.val (.ref pa), .val (.ref b4), .val (.int 1), .val (.int 2), .val (.int c2)] [])) (fun t k => XS.icmpNo X7.here hx rfl (hb hby d1_53) rfl (teq hc36_184).2 k) ?_
        refine own_byW (T' := T7) (g' := (mkF m 59 #[.val (.ref pa), .val (.ref b4), .val (.int 2), .val (.int 2), .val (.int c2)] [])) (fun t k => XS.iinc X7.here hx rfl (hb hby d1_56) rfl (l' := #[.val (.ref pa), .val (.ref b4), .val (.int 2), .val (.int 2), .val (.int c2)]) rfl k) ?_
        exact own_j2 l Z a0 hw hx hby hml hlk hret pa nn kp c0 c1 c2 c3 c4 c5 h0 n0 hn0 hn6 hn7 b4 k4 1 _ hS hZ hown (X7) e7 V_pa Zle N_ K_ hk_ ne_pa_b4 g_b4 sz_b4 V_b4 (Or.inr <| ⟨rfl, f1⟩) (own_leaf2_83 c0 c1 c2 f1 hc36_184) hlt2
      · refine own_byW (T' := T7) (g' := (mkF m 39 #[.val (.ref pa), .val (.ref b4), .val (.int 1), .val (.int 2), .val (.int c2)] [])) (fun t k => XS.icmpNo X7.here hx rfl (hb hby d1_36) rfl (feq hc36_184).1 k) ?_
        refine own_byW (T' := T7) (g' := (mkF m 40 #[.val (.ref pa), .val (.ref b4), .val (.int 1), .val (.int 2), .val (.int c2)] [(.ref b4)])) (fun t k => XS.aloadN X7.here hx rfl (hb hby d1_39) rfl rfl k) ?_
        refine own_byW (T' := T7) (g' := (mkF m 41 #[.val (.ref pa), .val (.ref b4), .val (.int 1), .val (.int 2), .val (.int c2)] [(.int 1), (.ref b4)])) (fun t k => XS.iloadN X7.here hx rfl (hb hby d1_40) rfl k) ?_
        refine own_byW (T' := T7) (g' := (mkF m 42 #[.val (.ref pa), .val (.ref b4), .val (.int 1), .val (.int 2), .val (.int c2)] [(.int 1), (.int 1), (.ref b4)])) (fun t k => XS.iconst X7.here hx rfl (hb hby d1_41) k) ?_
        refine own_byW (T' := T7) (g' := (mkF m 43 #[.val (.ref pa), .val (.ref b4), .val (.int 1), .val (.int 2), .val (.int c2)] [(.int 0), (.ref b4)])) (fun t k => XS.isub X7.here hx rfl (hb hby d1_42) rfl k) ?_
        obtain ⟨cl186, Ar186, q186, S186, N186, Hs186, G186⟩ := id V_b4
        have hin186 : ¬ ((0 : Int32) < 0 ∨ cl186.slots.size ≤ ((0 : Int32)).toNatClampNeg) := inb_of S186 ⟨by decide, own_lt (by decide) hlt2⟩
        have hat186 : cl186.slots[((0 : Int32)).toNatClampNeg]? = some (.int 0) := Hs186.at hin186 rfl
        refine own_byW (T' := T7) (g' := (mkF m 44 #[.val (.ref pa), .val (.ref b4), .val (.int 1), .val (.int 2), .val (.int c2)] [(.int 0)])) (fun t k => X7.iaload hx (j := (0 : Int32)) (v := (.int 0)) (by rw [e7]; exact Ar186.1) (State.isArrayOf_alike hZ.alike Ar186.2.1) Ar186.2.2 hin186 hat186 (g := (mkF m 43 #[.val (.ref pa), .val (.ref b4), .val (.int 1), .val (.int 2), .val (.int c2)] [(.int 0), (.ref b4)])) rfl rfl (hb hby d1_43) _ k) ?_
        clear hat186 hin186 G186 Hs186 N186 S186 q186 Ar186 cl186
        refine own_byW (T' := T7) (g' := (mkF m 45 #[.val (.ref pa), .val (.ref b4), .val (.int 0), .val (.int 2), .val (.int c2)] [])) (fun t k => XS.istoreN X7.here hx rfl (hb hby d1_44) rfl (l' := #[.val (.ref pa), .val (.ref b4), .val (.int 0), .val (.int 2), .val (.int c2)]) rfl k) ?_
        refine own_byW (T' := T7) (g' := (mkF m 27 #[.val (.ref pa), .val (.ref b4), .val (.int 0), .val (.int 2), .val (.int c2)] [])) (fun t k => XS.goto X7.here hx rfl (pc0 := 45) (pc' := 27) rfl (hb hby d1_45) (by decide) (by decide) k) ?_
        refine own_byW (T' := T7) (g' := (mkF m 28 #[.val (.ref pa), .val (.ref b4), .val (.int 0), .val (.int 2), .val (.int c2)] [(.int 0)])) (fun t k => XS.iloadN X7.here hx rfl (hb hby d1_27) rfl k) ?_
        refine own_byW (T' := T7) (g' := (mkF m 48 #[.val (.ref pa), .val (.ref b4), .val (.int 0), .val (.int 2), .val (.int c2)] [])) (fun t k => XS.ifYes X7.here hx rfl (pc0 := 28) (pc' := 48) rfl (hb hby d1_28) rfl ((if0 _ _).trans (flt (by decide)).2.2.2) (by decide) (by decide) k) ?_
        refine own_byW (T' := T7) (g' := (mkF m 49 #[.val (.ref pa), .val (.ref b4), .val (.int 0), .val (.int 2), .val (.int c2)] [(.ref pa)])) (fun t k => XS.aloadN X7.here hx rfl (hb hby d1_48) rfl rfl k) ?_
        refine own_byW (T' := T7) (g' := (mkF m 50 #[.val (.ref pa), .val (.ref b4), .val (.int 0), .val (.int 2), .val (.int c2)] [(.int 0), (.ref pa)])) (fun t k => XS.iloadN X7.here hx rfl (hb hby d1_49) rfl k) ?_
        obtain ⟨cl187, Ar187, q187, S187, N187, Hs187, G187⟩ := id V_pa
        have hin187 : ¬ ((0 : Int32) < 0 ∨ cl187.slots.size ≤ ((0 : Int32)).toNatClampNeg) := inb_of S187 ⟨by decide, own_lt (by decide) hlt2⟩
        have hat187 : cl187.slots[((0 : Int32)).toNatClampNeg]? = some (.int c0) := Hs187.at hin187 rfl
        refine own_byW (T' := T7) (g' := (mkF m 51 #[.val (.ref pa), .val (.ref b4), .val (.int 0), .val (.int 2), .val (.int c2)] [(.int c0)])) (fun t k => X7.caload hx (j := (0 : Int32)) (v := (.int c0)) (by rw [e7]; exact Ar187.1) (State.isArrayOf_alike hZ.alike Ar187.2.1) Ar187.2.2 hin187 hat187 (g := (mkF m 50 #[.val (.ref pa), .val (.ref b4), .val (.int 0), .val (.int 2), .val (.int c2)] [(.int 0), (.ref pa)])) rfl rfl (hb hby d1_50) _ k) ?_
        clear hat187 hin187 G187 Hs187 N187 S187 q187 Ar187 cl187
        refine own_byW (T' := T7) (g' := (mkF m 53 #[.val (.ref pa), .val (.ref b4), .val (.int 0), .val (.int 2), .val (.int c2)] [(.int c2), (.int c0)])) (fun t k => XS.iload X7.here hx rfl (hb hby d1_51) rfl k) ?_
        by_cases hc53_188 : c0 = c2
        · refine own_byW (T' := T7) (g' := (mkF m 56 #[.val (.ref pa), .val (.ref b4), .val (.int 0), .val (.int 2), .val (.int c2)] [])) (fun t k => XS.icmpNo X7.here hx rfl (hb hby d1_53) rfl (teq hc53_188).2 k) ?_
          refine own_byW (T' := T7) (g' := (mkF m 59 #[.val (.ref pa), .val (.ref b4), .val (.int 1), .val (.int 2), .val (.int c2)] [])) (fun t k => XS.iinc X7.here hx rfl (hb hby d1_56) rfl (l' := #[.val (.ref pa), .val (.ref b4), .val (.int 1), .val (.int 2), .val (.int c2)]) rfl k) ?_
          exact own_j2 l Z a0 hw hx hby hml hlk hret pa nn kp c0 c1 c2 c3 c4 c5 h0 n0 hn0 hn6 hn7 b4 k4 1 _ hS hZ hown (X7) e7 V_pa Zle N_ K_ hk_ ne_pa_b4 g_b4 sz_b4 V_b4 (Or.inr <| ⟨rfl, f1⟩) (own_leaf2_84 c0 c1 c2 f1 hc36_184 hc53_188) hlt2
        · refine own_byW (T' := T7) (g' := (mkF m 59 #[.val (.ref pa), .val (.ref b4), .val (.int 0), .val (.int 2), .val (.int c2)] [])) (fun t k => XS.icmpYes X7.here hx rfl (pc0 := 53) (pc' := 59) rfl (hb hby d1_53) rfl (feq hc53_188).2 (by decide) (by decide) k) ?_
          exact own_j2 l Z a0 hw hx hby hml hlk hret pa nn kp c0 c1 c2 c3 c4 c5 h0 n0 hn0 hn6 hn7 b4 k4 1 _ hS hZ hown (X7) e7 V_pa Zle N_ K_ hk_ ne_pa_b4 g_b4 sz_b4 V_b4 (Or.inr <| ⟨rfl, f1⟩) (own_leaf2_85 c0 c1 c2 f1 hc36_184 hc53_188) hlt2
  · refine own_byW (T' := T7) (g' := (mkF m 69 #[.val (.ref pa), .val (.ref b4), .val (.int t1), .val (.int 2), .val (.int c1)] [])) (fun t k => XS.icmpYes X7.here hx rfl (pc0 := 19) (pc' := 69) rfl (hb hby d1_19) rfl (flt hc19_9).2.1 (by decide) (by decide) k) ?_
    refine own_byW (T' := T7) (g' := (mkF m 70 #[.val (.ref pa), .val (.ref b4), .val (.int t1), .val (.int 2), .val (.int c1)] [(.ref b4)])) (fun t k => XS.aloadN X7.here hx rfl (hb hby d1_69) rfl rfl k) ?_
    have hend := hc19_9
    exact own_retAW X7 hS (by rw [e7]; exact hk_) hx (t := (.array .int)) hlk hret rfl rfl rfl (hb hby d1_70) (by decide) (by decide) (by rw [e7]; exact ⟨b4, t1, 0, 0, 0, 0, _, rfl, N_, K_, sz_b4, V_b4, (fun _ => HB1), (fun q => absurd (own_lt (by decide) q) hend), (fun q => absurd (own_lt (by decide) q) hend), (fun q => absurd (own_lt (by decide) q) hend), (fun q => absurd (own_lt (by decide) q) hend)⟩)
set_option maxRecDepth 65536 in
set_option maxHeartbeats 40000000 in
theorem rm1 (l : Launch) (Z : State) (a0 : Array Value) (hw : ∀ d ∈ tables_1, d.before a0 Z = true) (ws : List Jvm.Cond) (pa : Addr) (nn : Int32) (kp : ClassId) (c0 : Int32) (c1 : Int32) (c2 : Int32) (c3 : Int32) (c4 : Int32) (c5 : Int32) (h0 : Heap) (n0 : Nat) (Zle : n0 ≤ h0.size) (V_pa : Arv Z h0 pa kp .char nn [(.int c0), (.int c1), (.int c2), (.int c3), (.int c4), (.int c5)] (.int 0)) (hn0 : ¬ nn < 0) (hn6 : nn.toNatClampNeg ≤ 6) (hn7 : nn < 7) :
    MetFree l (⟨"com/example/emu/emu/PrefixTable", "of", "([C)[I"⟩ : MethodName) (head1 (Jvm.Cond.code (⟨"com/example/emu/emu/PrefixTable", "of", "([C)[I"⟩ : MethodName) prog_15_method_2_code 5 (some (.array .int)) :: ws) ({ frames := 1, cells := 3, slots := 38, locals := 13 } : Room)) (fun a U => a = #[(.ref pa)] ∧ Z.Warmed39 U.vm ∧ U.heap = h0) (fun _ _ _ _ _ => True) (fun _ U o U' => ∃ v L, o = .returned v ∧ Q1 Z pa nn kp c0 c1 c2 c3 c4 c5 h0 n0 v U'.heap L ∧ ReturnedEndW U o U' L ({ frames := 1, cells := 3, slots := 38, locals := 13 } : Room).cells ({ frames := 1, cells := 3, slots := 38, locals := 13 } : Room).slots) := by
  refine MetFree.of_bodySF (plainFor_of_name pn_com_example_emu_emu_PrefixTable) hisR ?_
  intro p e s m args below meth c s₁ Bd hml0 hP hK
  obtain ⟨rfl, hZ, hh⟩ := hP
  have hx := Bd.exec
  have hby := Bd.bytes
  have hml : c.maxLocals = 5 := hml0
  have hown : s.vm.findClass "com/example/emu/emu/PrefixTable" = some m.cls := findClass_of_methodNamed Bd.named
  have hnm := (name_of_methodNamed Bd.named Bd.method).1
  have X0 : Stand p l e ({ frames := 1, cells := 3, slots := 38, locals := 13 } : Room) s m #[(.ref pa)] below meth c s₁ [] 0 0 := Stand.of_body Bd
  have e0 : s₁.heap = h0 := by rw [← hh, Bd.state]; rfl
  have hS : s.Since s.vm 0 := (State.WarmedH.refl s).since 0
  have X0 : Stand p l e ({ frames := 1, cells := 3, slots := 38, locals := 13 } : Room) (s.setVm s.vm) m #[(.ref pa)] below meth c s₁ [] 0 0 := X0
  have hk_ : 0 ≤ h0.size := Nat.zero_le _
  have hZ : Z.Warmed39 (s.setVm s.vm).vm := hZ
  have hown : (s.setVm s.vm).vm.findClass "com/example/emu/emu/PrefixTable" = some m.cls := hown
  have N_ := Fr.nil n0
  have K_ := Keep.refl h0 []
  show own_GoesW p.tables e below s (Q1 Z pa nn kp c0 c1 c2 c3 c4 c5 h0 n0) ({ frames := 1, cells := 3, slots := 38, locals := 13 } : Room).cells ({ frames := 1, cells := 3, slots := 38, locals := 13 } : Room).slots s₁ (entryFrame m #[(.ref pa)] 5)
  refine own_byW (T' := s₁) (g' := (mkF m 0 #[.val (.ref pa), .unset, .unset, .unset, .unset] [])) (fun t k => castTop (ef_1 m pa) k) ?_
  refine own_byW (T' := s₁) (g' := (mkF m 1 #[.val (.ref pa), .unset, .unset, .unset, .unset] [(.ref pa)])) (fun t k => XS.aloadN X0.here hx rfl (hb hby d1_0) rfl rfl k) ?_
  obtain ⟨sa1, T1, h1, kk1, X1, e1, E1, hS, hk_, hZ, hown, st1⟩ := ldcS X0 hx hZ hown (hw _ (own_m 6 rfl)) (own_str hw (by decide +kernel)) e0 hS hk_ (g := (mkF m 1 #[.val (.ref pa), .unset, .unset, .unset, .unset] [(.ref pa)])) rfl (hb hby d1_1) (n := 28) (by decide) (by decide) (by decide) (by decide)
  replace V_pa := V_pa.ext E1
  replace Zle := Nat.le_trans Zle E1.1
  replace K_ := K_.ext E1
  refine own_byW (T' := T1) (g' := (mkF m 3 #[.val (.ref pa), .unset, .unset, .unset, .unset] [(.ref sa1), (.ref pa)])) (fun t k => st1 t k) ?_
  clear st1 X0 e0
  obtain ⟨_, _, ⟨T2, L2, k2, n2⟩, -, X2, ⟨Lc2, hQ2, l2, y2, z2⟩, st2⟩ := Jvm.LawKit.callS X1 hx (y := (⟨"java/util/Objects", "requireNonNull", "(Ljava/lang/Object;Ljava/lang/String;)Ljava/lang/Object;"⟩ : MethodName)) hown (mvT hZ (hw _ (own_m 14 rfl))) (mvT hZ (hw _ (own_m 15 rfl))) (mvT hZ (hw _ (own_m 16 rfl))) (mvT hZ (hw _ (own_m 17 rfl))) (by decide) (backOf (W := 0) (rm2 l Z a0 hw [] pa sa1 h1 n0 Zle ) hZ (hw _ (own_m 17 rfl)) (hw _ (own_m 16 rfl)) (by decide) (by decide)) (g := (mkF m 3 #[.val (.ref pa), .unset, .unset, .unset, .unset] [(.ref sa1), (.ref pa)])) rfl (by rw [hml]; rfl) (argsL := [(.ref pa), (.ref sa1)]) (rest := []) (lenOf pd_1 rfl) rfl (own_le rfl) (hb hby d1_3) (fun _ _ => ⟨rfl, e1, (by decide : 2 + 0 ≤ _), (by decide : 32 + 0 ≤ _)⟩)
  dsimp only [Pt.U, Pt.locs, Pt.cells, Pt.slots] at X2 l2 y2 z2 st2 hQ2
  subst l2 y2 z2
  obtain ⟨rfl, Nq2, e2⟩ := hQ2
  replace N_ := Fr.app N_ Nq2
  clear Nq2
  refine own_byW (T' := T2) (g' := (mkF m 6 #[.val (.ref pa), .unset, .unset, .unset, .unset] [(.ref pa)])) (fun t k => st2 _ k) ?_
  clear st2 X1 e1
  refine own_byW (T' := T2) (g' := (mkF m 7 #[.val (.ref pa), .unset, .unset, .unset, .unset] [])) (fun t k => XS.pop X2.here hx rfl (hb hby d1_6) rfl rfl k) ?_
  refine own_byW (T' := T2) (g' := (mkF m 8 #[.val (.ref pa), .unset, .unset, .unset, .unset] [(.ref pa)])) (fun t k => XS.aloadN X2.here hx rfl (hb hby d1_7) rfl rfl k) ?_
  obtain ⟨cl3, Ar3, -, S3, N3, -, -⟩ := id V_pa
  have st3 : ∀ t, Steps p.tables e below (T2.setTop (mkF m 9 #[.val (.ref pa), .unset, .unset, .unset, .unset] [(.int nn)])) t → Steps p.tables e below (T2.setTop (mkF m 8 #[.val (.ref pa), .unset, .unset, .unset, .unset] [(.ref pa)])) t := fun t k => X2.arraylength hx (by rw [e2]; exact Ar3.1) (State.isArrayOf_alike hZ.alike Ar3.2.1) (g := (mkF m 8 #[.val (.ref pa), .unset, .unset, .unset, .unset] [(.ref pa)])) rfl rfl (hb hby d1_8) _ (by rw [len_of S3 N3]; exact k)
  refine own_byW (T' := T2) (g' := (mkF m 9 #[.val (.ref pa), .unset, .unset, .unset, .unset] [(.int nn)])) (fun t k => st3 t k) ?_
  clear st3
  obtain ⟨T4, h4, k4, X4, e4, E4, A4, st4⟩ := newP X2 hx hZ (hw _ (own_m 18 rfl)) e2 (g := (mkF m 9 #[.val (.ref pa), .unset, .unset, .unset, .unset] [(.int nn)])) rfl (hb hby d1_9) rfl hn0 (cap := 6) hn6 (by decide) (by decide) (by decide)
  obtain ⟨b4, g4⟩ : ∃ z, z = h1.size := ⟨_, rfl⟩
  rw [← g4] at A4 st4
  have ne_pa_b4 : pa ≠ b4 := Nat.ne_of_lt (Nat.lt_of_lt_of_eq V_pa.lt g4.symm)
  have g_b4 : n0 ≤ b4 := Nat.le_trans Zle (Nat.le_of_eq g4.symm)
  have sz_b4 : h0.size ≤ b4 := Nat.le_trans K_.1 (Nat.le_of_eq g4.symm)
  replace V_pa := V_pa.ext E4
  replace Zle := Nat.le_trans Zle E4.1
  replace K_ := K_.ext E4
  replace hk_ := Nat.le_trans hk_ E4.1
  have V_b4 : Arv Z h4 b4 k4 .int nn [(.int 0), (.int 0), (.int 0), (.int 0), (.int 0), (.int 0)] (.int 0) := (Arv.new A4 hn0).pad (pad_rep [] (.int 0) 6)
  refine own_byW (T' := T4) (g' := (mkF m 11 #[.val (.ref pa), .unset, .unset, .unset, .unset] [(.ref b4)])) (fun t k => st4 t k) ?_
  clear st4 X2 e2
  refine own_byW (T' := T4) (g' := (mkF m 12 #[.val (.ref pa), .val (.ref b4), .unset, .unset, .unset] [])) (fun t k => XS.astoreN X4.here hx rfl (hb hby d1_11) rfl rfl (l' := #[.val (.ref pa), .val (.ref b4), .unset, .unset, .unset]) rfl k) ?_
  refine own_byW (T' := T4) (g' := (mkF m 13 #[.val (.ref pa), .val (.ref b4), .unset, .unset, .unset] [(.int 0)])) (fun t k => XS.iconst X4.here hx rfl (hb hby d1_12) k) ?_
  refine own_byW (T' := T4) (g' := (mkF m 14 #[.val (.ref pa), .val (.ref b4), .val (.int 0), .unset, .unset] [])) (fun t k => XS.istoreN X4.here hx rfl (hb hby d1_13) rfl (l' := #[.val (.ref pa), .val (.ref b4), .val (.int 0), .unset, .unset]) rfl k) ?_
  refine own_byW (T' := T4) (g' := (mkF m 15 #[.val (.ref pa), .val (.ref b4), .val (.int 0), .unset, .unset] [(.int 1)])) (fun t k => XS.iconst X4.here hx rfl (hb hby d1_14) k) ?_
  refine own_byW (T' := T4) (g' := (mkF m 16 #[.val (.ref pa), .val (.ref b4), .val (.int 0), .val (.int 1), .unset] [])) (fun t k => XS.istoreN X4.here hx rfl (hb hby d1_15) rfl (l' := #[.val (.ref pa), .val (.ref b4), .val (.int 0), .val (.int 1), .unset]) rfl k) ?_
  refine own_byW (T' := T4) (g' := (mkF m 17 #[.val (.ref pa), .val (.ref b4), .val (.int 0), .val (.int 1), .unset] [(.int 1)])) (fun t k => XS.iloadN X4.here hx rfl (hb hby d1_16) rfl k) ?_
  refine own_byW (T' := T4) (g' := (mkF m 18 #[.val (.ref pa), .val (.ref b4), .val (.int 0), .val (.int 1), .unset] [(.ref b4), (.int 1)])) (fun t k => XS.aloadN X4.here hx rfl (hb hby d1_17) rfl rfl k) ?_
  obtain ⟨cl5, Ar5, -, S5, N5, -, -⟩ := id V_b4
  have st5 : ∀ t, Steps p.tables e below (T4.setTop (mkF m 19 #[.val (.ref pa), .val (.ref b4), .val (.int 0), .val (.int 1), .unset] [(.int nn), (.int 1)])) t → Steps p.tables e below (T4.setTop (mkF m 18 #[.val (.ref pa), .val (.ref b4), .val (.int 0), .val (.int 1), .unset] [(.ref b4), (.int 1)])) t := fun t k => X4.arraylength hx (by rw [e4]; exact Ar5.1) (State.isArrayOf_alike hZ.alike Ar5.2.1) (g := (mkF m 18 #[.val (.ref pa), .val (.ref b4), .val (.int 0), .val (.int 1), .unset] [(.ref b4), (.int 1)])) rfl rfl (hb hby d1_18) _ (by rw [len_of S5 N5]; exact k)
  refine own_byW (T' := T4) (g' := (mkF m 19 #[.val (.ref pa), .val (.ref b4), .val (.int 0), .val (.int 1), .unset] [(.int nn), (.int 1)])) (fun t k => st5 t k) ?_
  clear st5
  by_cases hc19_6 : (1 : Int32) < nn
  · refine own_byW (T' := T4) (g' := (mkF m 22 #[.val (.ref pa), .val (.ref b4), .val (.int 0), .val (.int 1), .unset] [])) (fun t k => XS.icmpNo X4.here hx rfl (hb hby d1_19) rfl (tlt hc19_6).2.1 k) ?_
    have hlt1 := hc19_6
    refine own_byW (T' := T4) (g' := (mkF m 23 #[.val (.ref pa), .val (.ref b4), .val (.int 0), .val (.int 1), .unset] [(.ref pa)])) (fun t k => XS.aloadN X4.here hx rfl (hb hby d1_22) rfl rfl k) ?_
    refine own_byW (T' := T4) (g' := (mkF m 24 #[.val (.ref pa), .val (.ref b4), .val (.int 0), .val (.int 1), .unset] [(.int 1), (.ref pa)])) (fun t k => XS.iloadN X4.here hx rfl (hb hby d1_23) rfl k) ?_
    obtain ⟨cl189, Ar189, q189, S189, N189, Hs189, G189⟩ := id V_pa
    have hin189 : ¬ ((1 : Int32) < 0 ∨ cl189.slots.size ≤ ((1 : Int32)).toNatClampNeg) := inb_of S189 ⟨by decide, own_lt (by decide) hlt1⟩
    have hat189 : cl189.slots[((1 : Int32)).toNatClampNeg]? = some (.int c1) := Hs189.at hin189 rfl
    refine own_byW (T' := T4) (g' := (mkF m 25 #[.val (.ref pa), .val (.ref b4), .val (.int 0), .val (.int 1), .unset] [(.int c1)])) (fun t k => X4.caload hx (j := (1 : Int32)) (v := (.int c1)) (by rw [e4]; exact Ar189.1) (State.isArrayOf_alike hZ.alike Ar189.2.1) Ar189.2.2 hin189 hat189 (g := (mkF m 24 #[.val (.ref pa), .val (.ref b4), .val (.int 0), .val (.int 1), .unset] [(.int 1), (.ref pa)])) rfl rfl (hb hby d1_24) _ k) ?_
    clear hat189 hin189 G189 Hs189 N189 S189 q189 Ar189 cl189
    refine own_byW (T' := T4) (g' := (mkF m 27 #[.val (.ref pa), .val (.ref b4), .val (.int 0), .val (.int 1), .val (.int c1)] [])) (fun t k => XS.istore X4.here hx rfl (hb hby d1_25) rfl (l' := #[.val (.ref pa), .val (.ref b4), .val (.int 0), .val (.int 1), .val (.int c1)]) rfl k) ?_
    refine own_byW (T' := T4) (g' := (mkF m 28 #[.val (.ref pa), .val (.ref b4), .val (.int 0), .val (.int 1), .val (.int c1)] [(.int 0)])) (fun t k => XS.iloadN X4.here hx rfl (hb hby d1_27) rfl k) ?_
    refine own_byW (T' := T4) (g' := (mkF m 48 #[.val (.ref pa), .val (.ref b4), .val (.int 0), .val (.int 1), .val (.int c1)] [])) (fun t k => XS.ifYes X4.here hx rfl (pc0 := 28) (pc' := 48) rfl (hb hby d1_28) rfl ((if0 _ _).trans (flt (by decide)).2.2.2) (by decide) (by decide) k) ?_
    refine own_byW (T' := T4) (g' := (mkF m 49 #[.val (.ref pa), .val (.ref b4), .val (.int 0), .val (.int 1), .val (.int c1)] [(.ref pa)])) (fun t k => XS.aloadN X4.here hx rfl (hb hby d1_48) rfl rfl k) ?_
    refine own_byW (T' := T4) (g' := (mkF m 50 #[.val (.ref pa), .val (.ref b4), .val (.int 0), .val (.int 1), .val (.int c1)] [(.int 0), (.ref pa)])) (fun t k => XS.iloadN X4.here hx rfl (hb hby d1_49) rfl k) ?_
    obtain ⟨cl190, Ar190, q190, S190, N190, Hs190, G190⟩ := id V_pa
    have hin190 : ¬ ((0 : Int32) < 0 ∨ cl190.slots.size ≤ ((0 : Int32)).toNatClampNeg) := inb_of S190 ⟨by decide, own_lt (by decide) hlt1⟩
    have hat190 : cl190.slots[((0 : Int32)).toNatClampNeg]? = some (.int c0) := Hs190.at hin190 rfl
    refine own_byW (T' := T4) (g' := (mkF m 51 #[.val (.ref pa), .val (.ref b4), .val (.int 0), .val (.int 1), .val (.int c1)] [(.int c0)])) (fun t k => X4.caload hx (j := (0 : Int32)) (v := (.int c0)) (by rw [e4]; exact Ar190.1) (State.isArrayOf_alike hZ.alike Ar190.2.1) Ar190.2.2 hin190 hat190 (g := (mkF m 50 #[.val (.ref pa), .val (.ref b4), .val (.int 0), .val (.int 1), .val (.int c1)] [(.int 0), (.ref pa)])) rfl rfl (hb hby d1_50) _ k) ?_
    clear hat190 hin190 G190 Hs190 N190 S190 q190 Ar190 cl190
    refine own_byW (T' := T4) (g' := (mkF m 53 #[.val (.ref pa), .val (.ref b4), .val (.int 0), .val (.int 1), .val (.int c1)] [(.int c1), (.int c0)])) (fun t k => XS.iload X4.here hx rfl (hb hby d1_51) rfl k) ?_
    by_cases hc53_191 : c0 = c1
    · refine own_byW (T' := T4) (g' := (mkF m 56 #[.val (.ref pa), .val (.ref b4), .val (.int 0), .val (.int 1), .val (.int c1)] [])) (fun t k => XS.icmpNo X4.here hx rfl (hb hby d1_53) rfl (teq hc53_191).2 k) ?_
      refine own_byW (T' := T4) (g' := (mkF m 59 #[.val (.ref pa), .val (.ref b4), .val (.int 1), .val (.int 1), .val (.int c1)] [])) (fun t k => XS.iinc X4.here hx rfl (hb hby d1_56) rfl (l' := #[.val (.ref pa), .val (.ref b4), .val (.int 1), .val (.int 1), .val (.int c1)]) rfl k) ?_
      exact own_j1 l Z a0 hw hx hby hml Bd.notSynchronized Bd.returns pa nn kp c0 c1 c2 c3 c4 c5 h0 n0 hn0 hn6 hn7 b4 k4 _ hS hZ hown (X4) e4 V_pa Zle N_ K_ hk_ ne_pa_b4 g_b4 sz_b4 V_b4 (own_leaf1_86 c0 c1 hc53_191) hlt1
    · refine own_byW (T' := T4) (g' := (mkF m 59 #[.val (.ref pa), .val (.ref b4), .val (.int 0), .val (.int 1), .val (.int c1)] [])) (fun t k => XS.icmpYes X4.here hx rfl (pc0 := 53) (pc' := 59) rfl (hb hby d1_53) rfl (feq hc53_191).2 (by decide) (by decide) k) ?_
      exact own_j1 l Z a0 hw hx hby hml Bd.notSynchronized Bd.returns pa nn kp c0 c1 c2 c3 c4 c5 h0 n0 hn0 hn6 hn7 b4 k4 _ hS hZ hown (X4) e4 V_pa Zle N_ K_ hk_ ne_pa_b4 g_b4 sz_b4 V_b4 (own_leaf1_87 c0 c1 hc53_191) hlt1
  · refine own_byW (T' := T4) (g' := (mkF m 69 #[.val (.ref pa), .val (.ref b4), .val (.int 0), .val (.int 1), .unset] [])) (fun t k => XS.icmpYes X4.here hx rfl (pc0 := 19) (pc' := 69) rfl (hb hby d1_19) rfl (flt hc19_6).2.1 (by decide) (by decide) k) ?_
    refine own_byW (T' := T4) (g' := (mkF m 70 #[.val (.ref pa), .val (.ref b4), .val (.int 0), .val (.int 1), .unset] [(.ref b4)])) (fun t k => XS.aloadN X4.here hx rfl (hb hby d1_69) rfl rfl k) ?_
    have hend := hc19_6
    exact own_retAW X4 hS (by rw [e4]; exact hk_) hx (t := (.array .int)) Bd.notSynchronized Bd.returns rfl rfl rfl (hb hby d1_70) (by decide) (by decide) (by rw [e4]; exact ⟨b4, 0, 0, 0, 0, 0, _, rfl, N_, K_, sz_b4, V_b4, (fun q => absurd (own_lt (by decide) q) hend), (fun q => absurd (own_lt (by decide) q) hend), (fun q => absurd (own_lt (by decide) q) hend), (fun q => absurd (own_lt (by decide) q) hend), (fun q => absurd (own_lt (by decide) q) hend)⟩)

def Q5_1_1 (Z : State) (ca : Addr) (kc : ClassId) (c0 : Int32) (c1 : Int32) (c2 : Int32) (c3 : Int32) (c4 : Int32) (c5 : Int32) (h0 : Heap) (n0 : Nat) (v : Option Value) (h : Heap) (L : List Loc) : Prop := v = some (.int (own_eq1_1 c0 c1 c2 c3 c4 c5)) ∧ Fr n0 L ∧ h = h0
theorem pn_com_example_emu_emu_PrefixTableOfPinLaw : plainName "com/example/emu/emu/PrefixTableOfPinLaw" = true := by first | (simp [plainName, overriddenIn]; done) | decide +kernel
theorem ef_5_1_1 (m : MethodId) (ca : Addr) : entryFrame m #[(.ref ca), (.int 1), (.int 1)] 3 = mkF m 0 #[.val (.ref ca), .val (.int 1), .val (.int 1)] [] := by first | (simp [entryFrame, mkF, argsToLocals, Value.category]; done) | rfl
theorem d5_0 : decode method_5_code 0 = .ok (.iload_n 2, 1) := by decide +kernel
theorem d5_1 : decode method_5_code 1 = .ok (.iconst 1, 1) := by decide +kernel
theorem d5_2 : decode method_5_code 2 = .ok (.if_icmp .lt 12, 3) := by decide +kernel
theorem d5_5 : decode method_5_code 5 = .ok (.aload_n 0, 1) := by decide +kernel
theorem d5_6 : decode method_5_code 6 = .ok (.iconst 0, 1) := by decide +kernel
theorem d5_7 : decode method_5_code 7 = .ok (.caload, 1) := by decide +kernel
theorem d5_8 : decode method_5_code 8 = .ok (.aload_n 0, 1) := by decide +kernel
theorem d5_9 : decode method_5_code 9 = .ok (.iload_n 1, 1) := by decide +kernel
theorem d5_10 : decode method_5_code 10 = .ok (.caload, 1) := by decide +kernel
theorem d5_11 : decode method_5_code 11 = .ok (.if_icmp .ne 71, 3) := by decide +kernel
theorem d5_14 : decode method_5_code 14 = .ok (.iload_n 2, 1) := by decide +kernel
theorem d5_15 : decode method_5_code 15 = .ok (.iconst 2, 1) := by decide +kernel
theorem d5_16 : decode method_5_code 16 = .ok (.if_icmp .lt 14, 3) := by decide +kernel
theorem d5_30 : decode method_5_code 30 = .ok (.iload_n 2, 1) := by decide +kernel
theorem d5_31 : decode method_5_code 31 = .ok (.iconst 3, 1) := by decide +kernel
theorem d5_32 : decode method_5_code 32 = .ok (.if_icmp .lt 14, 3) := by decide +kernel
theorem d5_46 : decode method_5_code 46 = .ok (.iload_n 2, 1) := by decide +kernel
theorem d5_47 : decode method_5_code 47 = .ok (.iconst 4, 1) := by decide +kernel
theorem d5_48 : decode method_5_code 48 = .ok (.if_icmp .lt 14, 3) := by decide +kernel
theorem d5_62 : decode method_5_code 62 = .ok (.iload_n 2, 1) := by decide +kernel
theorem d5_63 : decode method_5_code 63 = .ok (.iconst 5, 1) := by decide +kernel
theorem d5_64 : decode method_5_code 64 = .ok (.if_icmp .lt 14, 3) := by decide +kernel
theorem d5_78 : decode method_5_code 78 = .ok (.iconst 1, 1) := by decide +kernel
theorem d5_79 : decode method_5_code 79 = .ok (.goto 4, 3) := by decide +kernel
theorem d5_83 : decode method_5_code 83 = .ok (.ireturn, 1) := by decide +kernel
theorem d5_82 : decode method_5_code 82 = .ok (.iconst 0, 1) := by decide +kernel
set_option maxRecDepth 65536 in
set_option maxHeartbeats 40000000 in
theorem rm5_1_1 (l : Launch) (Z : State) (a0 : Array Value) (hw : ∀ d ∈ tables_1, d.before a0 Z = true) (ws : List Jvm.Cond) (ca : Addr) (kc : ClassId) (c0 : Int32) (c1 : Int32) (c2 : Int32) (c3 : Int32) (c4 : Int32) (c5 : Int32) (h0 : Heap) (n0 : Nat) (Zle : n0 ≤ h0.size) (V_ca : Arv Z h0 ca kc .char (6 : Int32) [(.int c0), (.int c1), (.int c2), (.int c3), (.int c4), (.int c5)] (.int 0)) :
    MetFree l (⟨"com/example/emu/emu/PrefixTableOfPinLaw", "eq", "([CII)Z"⟩ : MethodName) (head1 (Jvm.Cond.code (⟨"com/example/emu/emu/PrefixTableOfPinLaw", "eq", "([CII)Z"⟩ : MethodName) method_5_code 3 (some .boolean) :: ws) ({ frames := 0, cells := 0, slots := 0, locals := 0 } : Room)) (fun a U => a = #[(.ref ca), (.int 1), (.int 1)] ∧ Z.Warmed39 U.vm ∧ U.heap = h0) (fun _ _ _ _ _ => True) (fun _ U o U' => ∃ v L, o = .returned v ∧ Q5_1_1 Z ca kc c0 c1 c2 c3 c4 c5 h0 n0 v U'.heap L ∧ FrameEnd U o U' L ({ frames := 0, cells := 0, slots := 0, locals := 0 } : Room).cells ({ frames := 0, cells := 0, slots := 0, locals := 0 } : Room).slots) := by
  refine MetFree.of_bodySF (plainFor_of_name pn_com_example_emu_emu_PrefixTableOfPinLaw) hisR ?_
  intro p e s m args below meth c s₁ Bd hml0 hP hK
  obtain ⟨rfl, hZ, hh⟩ := hP
  have hx := Bd.exec
  have hby := Bd.bytes
  have hml : c.maxLocals = 3 := hml0
  have hown : s.vm.findClass "com/example/emu/emu/PrefixTableOfPinLaw" = some m.cls := findClass_of_methodNamed Bd.named
  have hnm := (name_of_methodNamed Bd.named Bd.method).1
  have X0 : Stand p l e ({ frames := 0, cells := 0, slots := 0, locals := 0 } : Room) s m #[(.ref ca), (.int 1), (.int 1)] below meth c s₁ [] 0 0 := Stand.of_body Bd
  have e0 : s₁.heap = h0 := by rw [← hh, Bd.state]; rfl
  have N_ := Fr.nil n0
  show own_Goes p.tables e below s (Q5_1_1 Z ca kc c0 c1 c2 c3 c4 c5 h0 n0) ({ frames := 0, cells := 0, slots := 0, locals := 0 } : Room).cells ({ frames := 0, cells := 0, slots := 0, locals := 0 } : Room).slots s₁ (entryFrame m #[(.ref ca), (.int 1), (.int 1)] 3)
  refine own_by (T' := s₁) (g' := (mkF m 0 #[.val (.ref ca), .val (.int 1), .val (.int 1)] [])) (fun t k => castTop (ef_5_1_1 m ca) k) ?_
  refine own_by (T' := s₁) (g' := (mkF m 1 #[.val (.ref ca), .val (.int 1), .val (.int 1)] [(.int 1)])) (fun t k => XS.iloadN X0.here hx rfl (hb hby d5_0) rfl k) ?_
  refine own_by (T' := s₁) (g' := (mkF m 2 #[.val (.ref ca), .val (.int 1), .val (.int 1)] [(.int 1), (.int 1)])) (fun t k => XS.iconst X0.here hx rfl (hb hby d5_1) k) ?_
  refine own_by (T' := s₁) (g' := (mkF m 5 #[.val (.ref ca), .val (.int 1), .val (.int 1)] [])) (fun t k => XS.icmpNo X0.here hx rfl (hb hby d5_2) rfl (flt (by decide)).1 k) ?_
  refine own_by (T' := s₁) (g' := (mkF m 6 #[.val (.ref ca), .val (.int 1), .val (.int 1)] [(.ref ca)])) (fun t k => XS.aloadN X0.here hx rfl (hb hby d5_5) rfl rfl k) ?_
  refine own_by (T' := s₁) (g' := (mkF m 7 #[.val (.ref ca), .val (.int 1), .val (.int 1)] [(.int 0), (.ref ca)])) (fun t k => XS.iconst X0.here hx rfl (hb hby d5_6) k) ?_
  obtain ⟨cl1, Ar1, q1, S1, N1, Hs1, G1⟩ := id V_ca
  have hin1 : ¬ ((0 : Int32) < 0 ∨ cl1.slots.size ≤ ((0 : Int32)).toNatClampNeg) := inb_of S1 ⟨by decide, by decide⟩
  have hat1 : cl1.slots[((0 : Int32)).toNatClampNeg]? = some (.int c0) := Hs1.at hin1 rfl
  refine own_by (T' := s₁) (g' := (mkF m 8 #[.val (.ref ca), .val (.int 1), .val (.int 1)] [(.int c0)])) (fun t k => X0.caload hx (j := (0 : Int32)) (v := (.int c0)) (by rw [e0]; exact Ar1.1) (State.isArrayOf_alike hZ.alike Ar1.2.1) Ar1.2.2 hin1 hat1 (g := (mkF m 7 #[.val (.ref ca), .val (.int 1), .val (.int 1)] [(.int 0), (.ref ca)])) rfl rfl (hb hby d5_7) _ k) ?_
  clear hat1 hin1 G1 Hs1 N1 S1 q1 Ar1 cl1
  refine own_by (T' := s₁) (g' := (mkF m 9 #[.val (.ref ca), .val (.int 1), .val (.int 1)] [(.ref ca), (.int c0)])) (fun t k => XS.aloadN X0.here hx rfl (hb hby d5_8) rfl rfl k) ?_
  refine own_by (T' := s₁) (g' := (mkF m 10 #[.val (.ref ca), .val (.int 1), .val (.int 1)] [(.int 1), (.ref ca), (.int c0)])) (fun t k => XS.iloadN X0.here hx rfl (hb hby d5_9) rfl k) ?_
  obtain ⟨cl2, Ar2, q2, S2, N2, Hs2, G2⟩ := id V_ca
  have hin2 : ¬ ((1 : Int32) < 0 ∨ cl2.slots.size ≤ ((1 : Int32)).toNatClampNeg) := inb_of S2 ⟨by decide, by decide⟩
  have hat2 : cl2.slots[((1 : Int32)).toNatClampNeg]? = some (.int c1) := Hs2.at hin2 rfl
  refine own_by (T' := s₁) (g' := (mkF m 11 #[.val (.ref ca), .val (.int 1), .val (.int 1)] [(.int c1), (.int c0)])) (fun t k => X0.caload hx (j := (1 : Int32)) (v := (.int c1)) (by rw [e0]; exact Ar2.1) (State.isArrayOf_alike hZ.alike Ar2.2.1) Ar2.2.2 hin2 hat2 (g := (mkF m 10 #[.val (.ref ca), .val (.int 1), .val (.int 1)] [(.int 1), (.ref ca), (.int c0)])) rfl rfl (hb hby d5_10) _ k) ?_
  clear hat2 hin2 G2 Hs2 N2 S2 q2 Ar2 cl2
  by_cases hc11_3 : c0 = c1
  · refine own_by (T' := s₁) (g' := (mkF m 14 #[.val (.ref ca), .val (.int 1), .val (.int 1)] [])) (fun t k => XS.icmpNo X0.here hx rfl (hb hby d5_11) rfl (teq hc11_3).2 k) ?_
    refine own_by (T' := s₁) (g' := (mkF m 15 #[.val (.ref ca), .val (.int 1), .val (.int 1)] [(.int 1)])) (fun t k => XS.iloadN X0.here hx rfl (hb hby d5_14) rfl k) ?_
    refine own_by (T' := s₁) (g' := (mkF m 16 #[.val (.ref ca), .val (.int 1), .val (.int 1)] [(.int 2), (.int 1)])) (fun t k => XS.iconst X0.here hx rfl (hb hby d5_15) k) ?_
    refine own_by (T' := s₁) (g' := (mkF m 30 #[.val (.ref ca), .val (.int 1), .val (.int 1)] [])) (fun t k => XS.icmpYes X0.here hx rfl (pc0 := 16) (pc' := 30) rfl (hb hby d5_16) rfl (tlt (by decide)).1 (by decide) (by decide) k) ?_
    refine own_by (T' := s₁) (g' := (mkF m 31 #[.val (.ref ca), .val (.int 1), .val (.int 1)] [(.int 1)])) (fun t k => XS.iloadN X0.here hx rfl (hb hby d5_30) rfl k) ?_
    refine own_by (T' := s₁) (g' := (mkF m 32 #[.val (.ref ca), .val (.int 1), .val (.int 1)] [(.int 3), (.int 1)])) (fun t k => XS.iconst X0.here hx rfl (hb hby d5_31) k) ?_
    refine own_by (T' := s₁) (g' := (mkF m 46 #[.val (.ref ca), .val (.int 1), .val (.int 1)] [])) (fun t k => XS.icmpYes X0.here hx rfl (pc0 := 32) (pc' := 46) rfl (hb hby d5_32) rfl (tlt (by decide)).1 (by decide) (by decide) k) ?_
    refine own_by (T' := s₁) (g' := (mkF m 47 #[.val (.ref ca), .val (.int 1), .val (.int 1)] [(.int 1)])) (fun t k => XS.iloadN X0.here hx rfl (hb hby d5_46) rfl k) ?_
    refine own_by (T' := s₁) (g' := (mkF m 48 #[.val (.ref ca), .val (.int 1), .val (.int 1)] [(.int 4), (.int 1)])) (fun t k => XS.iconst X0.here hx rfl (hb hby d5_47) k) ?_
    refine own_by (T' := s₁) (g' := (mkF m 62 #[.val (.ref ca), .val (.int 1), .val (.int 1)] [])) (fun t k => XS.icmpYes X0.here hx rfl (pc0 := 48) (pc' := 62) rfl (hb hby d5_48) rfl (tlt (by decide)).1 (by decide) (by decide) k) ?_
    refine own_by (T' := s₁) (g' := (mkF m 63 #[.val (.ref ca), .val (.int 1), .val (.int 1)] [(.int 1)])) (fun t k => XS.iloadN X0.here hx rfl (hb hby d5_62) rfl k) ?_
    refine own_by (T' := s₁) (g' := (mkF m 64 #[.val (.ref ca), .val (.int 1), .val (.int 1)] [(.int 5), (.int 1)])) (fun t k => XS.iconst X0.here hx rfl (hb hby d5_63) k) ?_
    refine own_by (T' := s₁) (g' := (mkF m 78 #[.val (.ref ca), .val (.int 1), .val (.int 1)] [])) (fun t k => XS.icmpYes X0.here hx rfl (pc0 := 64) (pc' := 78) rfl (hb hby d5_64) rfl (tlt (by decide)).1 (by decide) (by decide) k) ?_
    refine own_by (T' := s₁) (g' := (mkF m 79 #[.val (.ref ca), .val (.int 1), .val (.int 1)] [(.int 1)])) (fun t k => XS.iconst X0.here hx rfl (hb hby d5_78) k) ?_
    refine own_by (T' := s₁) (g' := (mkF m 83 #[.val (.ref ca), .val (.int 1), .val (.int 1)] [(.int 1)])) (fun t k => XS.goto X0.here hx rfl (pc0 := 79) (pc' := 83) rfl (hb hby d5_79) (by decide) (by decide) k) ?_
    exact own_retN X0 hx (t := .boolean) Bd.notSynchronized Bd.returns (by simp) (hb hby d5_83) (by decide) (by decide) (by rw [e0]; exact ⟨by unfold own_eq1_1; rw [if_pos hc11_3] <;> rfl, N_, rfl⟩)
  · refine own_by (T' := s₁) (g' := (mkF m 82 #[.val (.ref ca), .val (.int 1), .val (.int 1)] [])) (fun t k => XS.icmpYes X0.here hx rfl (pc0 := 11) (pc' := 82) rfl (hb hby d5_11) rfl (feq hc11_3).2 (by decide) (by decide) k) ?_
    refine own_by (T' := s₁) (g' := (mkF m 83 #[.val (.ref ca), .val (.int 1), .val (.int 1)] [(.int 0)])) (fun t k => XS.iconst X0.here hx rfl (hb hby d5_82) k) ?_
    exact own_retN X0 hx (t := .boolean) Bd.notSynchronized Bd.returns (by simp) (hb hby d5_83) (by decide) (by decide) (by rw [e0]; exact ⟨by unfold own_eq1_1; rw [if_neg hc11_3] <;> rfl, N_, rfl⟩)

def Q5_1_2 (Z : State) (ca : Addr) (kc : ClassId) (c0 : Int32) (c1 : Int32) (c2 : Int32) (c3 : Int32) (c4 : Int32) (c5 : Int32) (h0 : Heap) (n0 : Nat) (v : Option Value) (h : Heap) (L : List Loc) : Prop := v = some (.int (own_eq1_2 c0 c1 c2 c3 c4 c5)) ∧ Fr n0 L ∧ h = h0
theorem ef_5_1_2 (m : MethodId) (ca : Addr) : entryFrame m #[(.ref ca), (.int 1), (.int 2)] 3 = mkF m 0 #[.val (.ref ca), .val (.int 1), .val (.int 2)] [] := by first | (simp [entryFrame, mkF, argsToLocals, Value.category]; done) | rfl
theorem d5_19 : decode method_5_code 19 = .ok (.aload_n 0, 1) := by decide +kernel
theorem d5_20 : decode method_5_code 20 = .ok (.iconst 1, 1) := by decide +kernel
theorem d5_21 : decode method_5_code 21 = .ok (.caload, 1) := by decide +kernel
theorem d5_22 : decode method_5_code 22 = .ok (.aload_n 0, 1) := by decide +kernel
theorem d5_23 : decode method_5_code 23 = .ok (.iload_n 1, 1) := by decide +kernel
theorem d5_24 : decode method_5_code 24 = .ok (.iconst 1, 1) := by decide +kernel
theorem d5_25 : decode method_5_code 25 = .ok (.iadd, 1) := by decide +kernel
theorem d5_26 : decode method_5_code 26 = .ok (.caload, 1) := by decide +kernel
theorem d5_27 : decode method_5_code 27 = .ok (.if_icmp .ne 55, 3) := by decide +kernel
set_option maxRecDepth 65536 in
set_option maxHeartbeats 40000000 in
theorem rm5_1_2 (l : Launch) (Z : State) (a0 : Array Value) (hw : ∀ d ∈ tables_1, d.before a0 Z = true) (ws : List Jvm.Cond) (ca : Addr) (kc : ClassId) (c0 : Int32) (c1 : Int32) (c2 : Int32) (c3 : Int32) (c4 : Int32) (c5 : Int32) (h0 : Heap) (n0 : Nat) (Zle : n0 ≤ h0.size) (V_ca : Arv Z h0 ca kc .char (6 : Int32) [(.int c0), (.int c1), (.int c2), (.int c3), (.int c4), (.int c5)] (.int 0)) :
    MetFree l (⟨"com/example/emu/emu/PrefixTableOfPinLaw", "eq", "([CII)Z"⟩ : MethodName) (head1 (Jvm.Cond.code (⟨"com/example/emu/emu/PrefixTableOfPinLaw", "eq", "([CII)Z"⟩ : MethodName) method_5_code 3 (some .boolean) :: ws) ({ frames := 0, cells := 0, slots := 0, locals := 0 } : Room)) (fun a U => a = #[(.ref ca), (.int 1), (.int 2)] ∧ Z.Warmed39 U.vm ∧ U.heap = h0) (fun _ _ _ _ _ => True) (fun _ U o U' => ∃ v L, o = .returned v ∧ Q5_1_2 Z ca kc c0 c1 c2 c3 c4 c5 h0 n0 v U'.heap L ∧ FrameEnd U o U' L ({ frames := 0, cells := 0, slots := 0, locals := 0 } : Room).cells ({ frames := 0, cells := 0, slots := 0, locals := 0 } : Room).slots) := by
  refine MetFree.of_bodySF (plainFor_of_name pn_com_example_emu_emu_PrefixTableOfPinLaw) hisR ?_
  intro p e s m args below meth c s₁ Bd hml0 hP hK
  obtain ⟨rfl, hZ, hh⟩ := hP
  have hx := Bd.exec
  have hby := Bd.bytes
  have hml : c.maxLocals = 3 := hml0
  have hown : s.vm.findClass "com/example/emu/emu/PrefixTableOfPinLaw" = some m.cls := findClass_of_methodNamed Bd.named
  have hnm := (name_of_methodNamed Bd.named Bd.method).1
  have X0 : Stand p l e ({ frames := 0, cells := 0, slots := 0, locals := 0 } : Room) s m #[(.ref ca), (.int 1), (.int 2)] below meth c s₁ [] 0 0 := Stand.of_body Bd
  have e0 : s₁.heap = h0 := by rw [← hh, Bd.state]; rfl
  have N_ := Fr.nil n0
  show own_Goes p.tables e below s (Q5_1_2 Z ca kc c0 c1 c2 c3 c4 c5 h0 n0) ({ frames := 0, cells := 0, slots := 0, locals := 0 } : Room).cells ({ frames := 0, cells := 0, slots := 0, locals := 0 } : Room).slots s₁ (entryFrame m #[(.ref ca), (.int 1), (.int 2)] 3)
  refine own_by (T' := s₁) (g' := (mkF m 0 #[.val (.ref ca), .val (.int 1), .val (.int 2)] [])) (fun t k => castTop (ef_5_1_2 m ca) k) ?_
  refine own_by (T' := s₁) (g' := (mkF m 1 #[.val (.ref ca), .val (.int 1), .val (.int 2)] [(.int 2)])) (fun t k => XS.iloadN X0.here hx rfl (hb hby d5_0) rfl k) ?_
  refine own_by (T' := s₁) (g' := (mkF m 2 #[.val (.ref ca), .val (.int 1), .val (.int 2)] [(.int 1), (.int 2)])) (fun t k => XS.iconst X0.here hx rfl (hb hby d5_1) k) ?_
  refine own_by (T' := s₁) (g' := (mkF m 5 #[.val (.ref ca), .val (.int 1), .val (.int 2)] [])) (fun t k => XS.icmpNo X0.here hx rfl (hb hby d5_2) rfl (flt (by decide)).1 k) ?_
  refine own_by (T' := s₁) (g' := (mkF m 6 #[.val (.ref ca), .val (.int 1), .val (.int 2)] [(.ref ca)])) (fun t k => XS.aloadN X0.here hx rfl (hb hby d5_5) rfl rfl k) ?_
  refine own_by (T' := s₁) (g' := (mkF m 7 #[.val (.ref ca), .val (.int 1), .val (.int 2)] [(.int 0), (.ref ca)])) (fun t k => XS.iconst X0.here hx rfl (hb hby d5_6) k) ?_
  obtain ⟨cl1, Ar1, q1, S1, N1, Hs1, G1⟩ := id V_ca
  have hin1 : ¬ ((0 : Int32) < 0 ∨ cl1.slots.size ≤ ((0 : Int32)).toNatClampNeg) := inb_of S1 ⟨by decide, by decide⟩
  have hat1 : cl1.slots[((0 : Int32)).toNatClampNeg]? = some (.int c0) := Hs1.at hin1 rfl
  refine own_by (T' := s₁) (g' := (mkF m 8 #[.val (.ref ca), .val (.int 1), .val (.int 2)] [(.int c0)])) (fun t k => X0.caload hx (j := (0 : Int32)) (v := (.int c0)) (by rw [e0]; exact Ar1.1) (State.isArrayOf_alike hZ.alike Ar1.2.1) Ar1.2.2 hin1 hat1 (g := (mkF m 7 #[.val (.ref ca), .val (.int 1), .val (.int 2)] [(.int 0), (.ref ca)])) rfl rfl (hb hby d5_7) _ k) ?_
  clear hat1 hin1 G1 Hs1 N1 S1 q1 Ar1 cl1
  refine own_by (T' := s₁) (g' := (mkF m 9 #[.val (.ref ca), .val (.int 1), .val (.int 2)] [(.ref ca), (.int c0)])) (fun t k => XS.aloadN X0.here hx rfl (hb hby d5_8) rfl rfl k) ?_
  refine own_by (T' := s₁) (g' := (mkF m 10 #[.val (.ref ca), .val (.int 1), .val (.int 2)] [(.int 1), (.ref ca), (.int c0)])) (fun t k => XS.iloadN X0.here hx rfl (hb hby d5_9) rfl k) ?_
  obtain ⟨cl2, Ar2, q2, S2, N2, Hs2, G2⟩ := id V_ca
  have hin2 : ¬ ((1 : Int32) < 0 ∨ cl2.slots.size ≤ ((1 : Int32)).toNatClampNeg) := inb_of S2 ⟨by decide, by decide⟩
  have hat2 : cl2.slots[((1 : Int32)).toNatClampNeg]? = some (.int c1) := Hs2.at hin2 rfl
  refine own_by (T' := s₁) (g' := (mkF m 11 #[.val (.ref ca), .val (.int 1), .val (.int 2)] [(.int c1), (.int c0)])) (fun t k => X0.caload hx (j := (1 : Int32)) (v := (.int c1)) (by rw [e0]; exact Ar2.1) (State.isArrayOf_alike hZ.alike Ar2.2.1) Ar2.2.2 hin2 hat2 (g := (mkF m 10 #[.val (.ref ca), .val (.int 1), .val (.int 2)] [(.int 1), (.ref ca), (.int c0)])) rfl rfl (hb hby d5_10) _ k) ?_
  clear hat2 hin2 G2 Hs2 N2 S2 q2 Ar2 cl2
  by_cases hc11_3 : c0 = c1
  · refine own_by (T' := s₁) (g' := (mkF m 14 #[.val (.ref ca), .val (.int 1), .val (.int 2)] [])) (fun t k => XS.icmpNo X0.here hx rfl (hb hby d5_11) rfl (teq hc11_3).2 k) ?_
    refine own_by (T' := s₁) (g' := (mkF m 15 #[.val (.ref ca), .val (.int 1), .val (.int 2)] [(.int 2)])) (fun t k => XS.iloadN X0.here hx rfl (hb hby d5_14) rfl k) ?_
    refine own_by (T' := s₁) (g' := (mkF m 16 #[.val (.ref ca), .val (.int 1), .val (.int 2)] [(.int 2), (.int 2)])) (fun t k => XS.iconst X0.here hx rfl (hb hby d5_15) k) ?_
    refine own_by (T' := s₁) (g' := (mkF m 19 #[.val (.ref ca), .val (.int 1), .val (.int 2)] [])) (fun t k => XS.icmpNo X0.here hx rfl (hb hby d5_16) rfl (flt (by decide)).1 k) ?_
    refine own_by (T' := s₁) (g' := (mkF m 20 #[.val (.ref ca), .val (.int 1), .val (.int 2)] [(.ref ca)])) (fun t k => XS.aloadN X0.here hx rfl (hb hby d5_19) rfl rfl k) ?_
    refine own_by (T' := s₁) (g' := (mkF m 21 #[.val (.ref ca), .val (.int 1), .val (.int 2)] [(.int 1), (.ref ca)])) (fun t k => XS.iconst X0.here hx rfl (hb hby d5_20) k) ?_
    obtain ⟨cl4, Ar4, q4, S4, N4, Hs4, G4⟩ := id V_ca
    have hin4 : ¬ ((1 : Int32) < 0 ∨ cl4.slots.size ≤ ((1 : Int32)).toNatClampNeg) := inb_of S4 ⟨by decide, by decide⟩
    have hat4 : cl4.slots[((1 : Int32)).toNatClampNeg]? = some (.int c1) := Hs4.at hin4 rfl
    refine own_by (T' := s₁) (g' := (mkF m 22 #[.val (.ref ca), .val (.int 1), .val (.int 2)] [(.int c1)])) (fun t k => X0.caload hx (j := (1 : Int32)) (v := (.int c1)) (by rw [e0]; exact Ar4.1) (State.isArrayOf_alike hZ.alike Ar4.2.1) Ar4.2.2 hin4 hat4 (g := (mkF m 21 #[.val (.ref ca), .val (.int 1), .val (.int 2)] [(.int 1), (.ref ca)])) rfl rfl (hb hby d5_21) _ k) ?_
    clear hat4 hin4 G4 Hs4 N4 S4 q4 Ar4 cl4
    refine own_by (T' := s₁) (g' := (mkF m 23 #[.val (.ref ca), .val (.int 1), .val (.int 2)] [(.ref ca), (.int c1)])) (fun t k => XS.aloadN X0.here hx rfl (hb hby d5_22) rfl rfl k) ?_
    refine own_by (T' := s₁) (g' := (mkF m 24 #[.val (.ref ca), .val (.int 1), .val (.int 2)] [(.int 1), (.ref ca), (.int c1)])) (fun t k => XS.iloadN X0.here hx rfl (hb hby d5_23) rfl k) ?_
    refine own_by (T' := s₁) (g' := (mkF m 25 #[.val (.ref ca), .val (.int 1), .val (.int 2)] [(.int 1), (.int 1), (.ref ca), (.int c1)])) (fun t k => XS.iconst X0.here hx rfl (hb hby d5_24) k) ?_
    refine own_by (T' := s₁) (g' := (mkF m 26 #[.val (.ref ca), .val (.int 1), .val (.int 2)] [(.int 2), (.ref ca), (.int c1)])) (fun t k => XS.iadd X0.here hx rfl (hb hby d5_25) rfl k) ?_
    obtain ⟨cl5, Ar5, q5, S5, N5, Hs5, G5⟩ := id V_ca
    have hin5 : ¬ ((2 : Int32) < 0 ∨ cl5.slots.size ≤ ((2 : Int32)).toNatClampNeg) := inb_of S5 ⟨by decide, by decide⟩
    have hat5 : cl5.slots[((2 : Int32)).toNatClampNeg]? = some (.int c2) := Hs5.at hin5 rfl
    refine own_by (T' := s₁) (g' := (mkF m 27 #[.val (.ref ca), .val (.int 1), .val (.int 2)] [(.int c2), (.int c1)])) (fun t k => X0.caload hx (j := (2 : Int32)) (v := (.int c2)) (by rw [e0]; exact Ar5.1) (State.isArrayOf_alike hZ.alike Ar5.2.1) Ar5.2.2 hin5 hat5 (g := (mkF m 26 #[.val (.ref ca), .val (.int 1), .val (.int 2)] [(.int 2), (.ref ca), (.int c1)])) rfl rfl (hb hby d5_26) _ k) ?_
    clear hat5 hin5 G5 Hs5 N5 S5 q5 Ar5 cl5
    by_cases hc27_6 : c1 = c2
    · refine own_by (T' := s₁) (g' := (mkF m 30 #[.val (.ref ca), .val (.int 1), .val (.int 2)] [])) (fun t k => XS.icmpNo X0.here hx rfl (hb hby d5_27) rfl (teq hc27_6).2 k) ?_
      refine own_by (T' := s₁) (g' := (mkF m 31 #[.val (.ref ca), .val (.int 1), .val (.int 2)] [(.int 2)])) (fun t k => XS.iloadN X0.here hx rfl (hb hby d5_30) rfl k) ?_
      refine own_by (T' := s₁) (g' := (mkF m 32 #[.val (.ref ca), .val (.int 1), .val (.int 2)] [(.int 3), (.int 2)])) (fun t k => XS.iconst X0.here hx rfl (hb hby d5_31) k) ?_
      refine own_by (T' := s₁) (g' := (mkF m 46 #[.val (.ref ca), .val (.int 1), .val (.int 2)] [])) (fun t k => XS.icmpYes X0.here hx rfl (pc0 := 32) (pc' := 46) rfl (hb hby d5_32) rfl (tlt (by decide)).1 (by decide) (by decide) k) ?_
      refine own_by (T' := s₁) (g' := (mkF m 47 #[.val (.ref ca), .val (.int 1), .val (.int 2)] [(.int 2)])) (fun t k => XS.iloadN X0.here hx rfl (hb hby d5_46) rfl k) ?_
      refine own_by (T' := s₁) (g' := (mkF m 48 #[.val (.ref ca), .val (.int 1), .val (.int 2)] [(.int 4), (.int 2)])) (fun t k => XS.iconst X0.here hx rfl (hb hby d5_47) k) ?_
      refine own_by (T' := s₁) (g' := (mkF m 62 #[.val (.ref ca), .val (.int 1), .val (.int 2)] [])) (fun t k => XS.icmpYes X0.here hx rfl (pc0 := 48) (pc' := 62) rfl (hb hby d5_48) rfl (tlt (by decide)).1 (by decide) (by decide) k) ?_
      refine own_by (T' := s₁) (g' := (mkF m 63 #[.val (.ref ca), .val (.int 1), .val (.int 2)] [(.int 2)])) (fun t k => XS.iloadN X0.here hx rfl (hb hby d5_62) rfl k) ?_
      refine own_by (T' := s₁) (g' := (mkF m 64 #[.val (.ref ca), .val (.int 1), .val (.int 2)] [(.int 5), (.int 2)])) (fun t k => XS.iconst X0.here hx rfl (hb hby d5_63) k) ?_
      refine own_by (T' := s₁) (g' := (mkF m 78 #[.val (.ref ca), .val (.int 1), .val (.int 2)] [])) (fun t k => XS.icmpYes X0.here hx rfl (pc0 := 64) (pc' := 78) rfl (hb hby d5_64) rfl (tlt (by decide)).1 (by decide) (by decide) k) ?_
      refine own_by (T' := s₁) (g' := (mkF m 79 #[.val (.ref ca), .val (.int 1), .val (.int 2)] [(.int 1)])) (fun t k => XS.iconst X0.here hx rfl (hb hby d5_78) k) ?_
      refine own_by (T' := s₁) (g' := (mkF m 83 #[.val (.ref ca), .val (.int 1), .val (.int 2)] [(.int 1)])) (fun t k => XS.goto X0.here hx rfl (pc0 := 79) (pc' := 83) rfl (hb hby d5_79) (by decide) (by decide) k) ?_
      exact own_retN X0 hx (t := .boolean) Bd.notSynchronized Bd.returns (by simp) (hb hby d5_83) (by decide) (by decide) (by rw [e0]; exact ⟨by unfold own_eq1_2; rw [if_pos hc11_3, if_pos hc27_6] <;> rfl, N_, rfl⟩)
    · refine own_by (T' := s₁) (g' := (mkF m 82 #[.val (.ref ca), .val (.int 1), .val (.int 2)] [])) (fun t k => XS.icmpYes X0.here hx rfl (pc0 := 27) (pc' := 82) rfl (hb hby d5_27) rfl (feq hc27_6).2 (by decide) (by decide) k) ?_
      refine own_by (T' := s₁) (g' := (mkF m 83 #[.val (.ref ca), .val (.int 1), .val (.int 2)] [(.int 0)])) (fun t k => XS.iconst X0.here hx rfl (hb hby d5_82) k) ?_
      exact own_retN X0 hx (t := .boolean) Bd.notSynchronized Bd.returns (by simp) (hb hby d5_83) (by decide) (by decide) (by rw [e0]; exact ⟨by unfold own_eq1_2; rw [if_pos hc11_3, if_neg hc27_6] <;> rfl, N_, rfl⟩)
  · refine own_by (T' := s₁) (g' := (mkF m 82 #[.val (.ref ca), .val (.int 1), .val (.int 2)] [])) (fun t k => XS.icmpYes X0.here hx rfl (pc0 := 11) (pc' := 82) rfl (hb hby d5_11) rfl (feq hc11_3).2 (by decide) (by decide) k) ?_
    refine own_by (T' := s₁) (g' := (mkF m 83 #[.val (.ref ca), .val (.int 1), .val (.int 2)] [(.int 0)])) (fun t k => XS.iconst X0.here hx rfl (hb hby d5_82) k) ?_
    exact own_retN X0 hx (t := .boolean) Bd.notSynchronized Bd.returns (by simp) (hb hby d5_83) (by decide) (by decide) (by rw [e0]; exact ⟨by unfold own_eq1_2; rw [if_neg hc11_3] <;> rfl, N_, rfl⟩)

def Q5_1_3 (Z : State) (ca : Addr) (kc : ClassId) (c0 : Int32) (c1 : Int32) (c2 : Int32) (c3 : Int32) (c4 : Int32) (c5 : Int32) (h0 : Heap) (n0 : Nat) (v : Option Value) (h : Heap) (L : List Loc) : Prop := v = some (.int (own_eq1_3 c0 c1 c2 c3 c4 c5)) ∧ Fr n0 L ∧ h = h0
theorem ef_5_1_3 (m : MethodId) (ca : Addr) : entryFrame m #[(.ref ca), (.int 1), (.int 3)] 3 = mkF m 0 #[.val (.ref ca), .val (.int 1), .val (.int 3)] [] := by first | (simp [entryFrame, mkF, argsToLocals, Value.category]; done) | rfl
theorem d5_35 : decode method_5_code 35 = .ok (.aload_n 0, 1) := by decide +kernel
theorem d5_36 : decode method_5_code 36 = .ok (.iconst 2, 1) := by decide +kernel
theorem d5_37 : decode method_5_code 37 = .ok (.caload, 1) := by decide +kernel
theorem d5_38 : decode method_5_code 38 = .ok (.aload_n 0, 1) := by decide +kernel
theorem d5_39 : decode method_5_code 39 = .ok (.iload_n 1, 1) := by decide +kernel
theorem d5_40 : decode method_5_code 40 = .ok (.iconst 2, 1) := by decide +kernel
theorem d5_41 : decode method_5_code 41 = .ok (.iadd, 1) := by decide +kernel
theorem d5_42 : decode method_5_code 42 = .ok (.caload, 1) := by decide +kernel
theorem d5_43 : decode method_5_code 43 = .ok (.if_icmp .ne 39, 3) := by decide +kernel
set_option maxRecDepth 65536 in
set_option maxHeartbeats 40000000 in
theorem rm5_1_3 (l : Launch) (Z : State) (a0 : Array Value) (hw : ∀ d ∈ tables_1, d.before a0 Z = true) (ws : List Jvm.Cond) (ca : Addr) (kc : ClassId) (c0 : Int32) (c1 : Int32) (c2 : Int32) (c3 : Int32) (c4 : Int32) (c5 : Int32) (h0 : Heap) (n0 : Nat) (Zle : n0 ≤ h0.size) (V_ca : Arv Z h0 ca kc .char (6 : Int32) [(.int c0), (.int c1), (.int c2), (.int c3), (.int c4), (.int c5)] (.int 0)) :
    MetFree l (⟨"com/example/emu/emu/PrefixTableOfPinLaw", "eq", "([CII)Z"⟩ : MethodName) (head1 (Jvm.Cond.code (⟨"com/example/emu/emu/PrefixTableOfPinLaw", "eq", "([CII)Z"⟩ : MethodName) method_5_code 3 (some .boolean) :: ws) ({ frames := 0, cells := 0, slots := 0, locals := 0 } : Room)) (fun a U => a = #[(.ref ca), (.int 1), (.int 3)] ∧ Z.Warmed39 U.vm ∧ U.heap = h0) (fun _ _ _ _ _ => True) (fun _ U o U' => ∃ v L, o = .returned v ∧ Q5_1_3 Z ca kc c0 c1 c2 c3 c4 c5 h0 n0 v U'.heap L ∧ FrameEnd U o U' L ({ frames := 0, cells := 0, slots := 0, locals := 0 } : Room).cells ({ frames := 0, cells := 0, slots := 0, locals := 0 } : Room).slots) := by
  refine MetFree.of_bodySF (plainFor_of_name pn_com_example_emu_emu_PrefixTableOfPinLaw) hisR ?_
  intro p e s m args below meth c s₁ Bd hml0 hP hK
  obtain ⟨rfl, hZ, hh⟩ := hP
  have hx := Bd.exec
  have hby := Bd.bytes
  have hml : c.maxLocals = 3 := hml0
  have hown : s.vm.findClass "com/example/emu/emu/PrefixTableOfPinLaw" = some m.cls := findClass_of_methodNamed Bd.named
  have hnm := (name_of_methodNamed Bd.named Bd.method).1
  have X0 : Stand p l e ({ frames := 0, cells := 0, slots := 0, locals := 0 } : Room) s m #[(.ref ca), (.int 1), (.int 3)] below meth c s₁ [] 0 0 := Stand.of_body Bd
  have e0 : s₁.heap = h0 := by rw [← hh, Bd.state]; rfl
  have N_ := Fr.nil n0
  show own_Goes p.tables e below s (Q5_1_3 Z ca kc c0 c1 c2 c3 c4 c5 h0 n0) ({ frames := 0, cells := 0, slots := 0, locals := 0 } : Room).cells ({ frames := 0, cells := 0, slots := 0, locals := 0 } : Room).slots s₁ (entryFrame m #[(.ref ca), (.int 1), (.int 3)] 3)
  refine own_by (T' := s₁) (g' := (mkF m 0 #[.val (.ref ca), .val (.int 1), .val (.int 3)] [])) (fun t k => castTop (ef_5_1_3 m ca) k) ?_
  refine own_by (T' := s₁) (g' := (mkF m 1 #[.val (.ref ca), .val (.int 1), .val (.int 3)] [(.int 3)])) (fun t k => XS.iloadN X0.here hx rfl (hb hby d5_0) rfl k) ?_
  refine own_by (T' := s₁) (g' := (mkF m 2 #[.val (.ref ca), .val (.int 1), .val (.int 3)] [(.int 1), (.int 3)])) (fun t k => XS.iconst X0.here hx rfl (hb hby d5_1) k) ?_
  refine own_by (T' := s₁) (g' := (mkF m 5 #[.val (.ref ca), .val (.int 1), .val (.int 3)] [])) (fun t k => XS.icmpNo X0.here hx rfl (hb hby d5_2) rfl (flt (by decide)).1 k) ?_
  refine own_by (T' := s₁) (g' := (mkF m 6 #[.val (.ref ca), .val (.int 1), .val (.int 3)] [(.ref ca)])) (fun t k => XS.aloadN X0.here hx rfl (hb hby d5_5) rfl rfl k) ?_
  refine own_by (T' := s₁) (g' := (mkF m 7 #[.val (.ref ca), .val (.int 1), .val (.int 3)] [(.int 0), (.ref ca)])) (fun t k => XS.iconst X0.here hx rfl (hb hby d5_6) k) ?_
  obtain ⟨cl1, Ar1, q1, S1, N1, Hs1, G1⟩ := id V_ca
  have hin1 : ¬ ((0 : Int32) < 0 ∨ cl1.slots.size ≤ ((0 : Int32)).toNatClampNeg) := inb_of S1 ⟨by decide, by decide⟩
  have hat1 : cl1.slots[((0 : Int32)).toNatClampNeg]? = some (.int c0) := Hs1.at hin1 rfl
  refine own_by (T' := s₁) (g' := (mkF m 8 #[.val (.ref ca), .val (.int 1), .val (.int 3)] [(.int c0)])) (fun t k => X0.caload hx (j := (0 : Int32)) (v := (.int c0)) (by rw [e0]; exact Ar1.1) (State.isArrayOf_alike hZ.alike Ar1.2.1) Ar1.2.2 hin1 hat1 (g := (mkF m 7 #[.val (.ref ca), .val (.int 1), .val (.int 3)] [(.int 0), (.ref ca)])) rfl rfl (hb hby d5_7) _ k) ?_
  clear hat1 hin1 G1 Hs1 N1 S1 q1 Ar1 cl1
  refine own_by (T' := s₁) (g' := (mkF m 9 #[.val (.ref ca), .val (.int 1), .val (.int 3)] [(.ref ca), (.int c0)])) (fun t k => XS.aloadN X0.here hx rfl (hb hby d5_8) rfl rfl k) ?_
  refine own_by (T' := s₁) (g' := (mkF m 10 #[.val (.ref ca), .val (.int 1), .val (.int 3)] [(.int 1), (.ref ca), (.int c0)])) (fun t k => XS.iloadN X0.here hx rfl (hb hby d5_9) rfl k) ?_
  obtain ⟨cl2, Ar2, q2, S2, N2, Hs2, G2⟩ := id V_ca
  have hin2 : ¬ ((1 : Int32) < 0 ∨ cl2.slots.size ≤ ((1 : Int32)).toNatClampNeg) := inb_of S2 ⟨by decide, by decide⟩
  have hat2 : cl2.slots[((1 : Int32)).toNatClampNeg]? = some (.int c1) := Hs2.at hin2 rfl
  refine own_by (T' := s₁) (g' := (mkF m 11 #[.val (.ref ca), .val (.int 1), .val (.int 3)] [(.int c1), (.int c0)])) (fun t k => X0.caload hx (j := (1 : Int32)) (v := (.int c1)) (by rw [e0]; exact Ar2.1) (State.isArrayOf_alike hZ.alike Ar2.2.1) Ar2.2.2 hin2 hat2 (g := (mkF m 10 #[.val (.ref ca), .val (.int 1), .val (.int 3)] [(.int 1), (.ref ca), (.int c0)])) rfl rfl (hb hby d5_10) _ k) ?_
  clear hat2 hin2 G2 Hs2 N2 S2 q2 Ar2 cl2
  by_cases hc11_3 : c0 = c1
  · refine own_by (T' := s₁) (g' := (mkF m 14 #[.val (.ref ca), .val (.int 1), .val (.int 3)] [])) (fun t k => XS.icmpNo X0.here hx rfl (hb hby d5_11) rfl (teq hc11_3).2 k) ?_
    refine own_by (T' := s₁) (g' := (mkF m 15 #[.val (.ref ca), .val (.int 1), .val (.int 3)] [(.int 3)])) (fun t k => XS.iloadN X0.here hx rfl (hb hby d5_14) rfl k) ?_
    refine own_by (T' := s₁) (g' := (mkF m 16 #[.val (.ref ca), .val (.int 1), .val (.int 3)] [(.int 2), (.int 3)])) (fun t k => XS.iconst X0.here hx rfl (hb hby d5_15) k) ?_
    refine own_by (T' := s₁) (g' := (mkF m 19 #[.val (.ref ca), .val (.int 1), .val (.int 3)] [])) (fun t k => XS.icmpNo X0.here hx rfl (hb hby d5_16) rfl (flt (by decide)).1 k) ?_
    refine own_by (T' := s₁) (g' := (mkF m 20 #[.val (.ref ca), .val (.int 1), .val (.int 3)] [(.ref ca)])) (fun t k => XS.aloadN X0.here hx rfl (hb hby d5_19) rfl rfl k) ?_
    refine own_by (T' := s₁) (g' := (mkF m 21 #[.val (.ref ca), .val (.int 1), .val (.int 3)] [(.int 1), (.ref ca)])) (fun t k => XS.iconst X0.here hx rfl (hb hby d5_20) k) ?_
    obtain ⟨cl4, Ar4, q4, S4, N4, Hs4, G4⟩ := id V_ca
    have hin4 : ¬ ((1 : Int32) < 0 ∨ cl4.slots.size ≤ ((1 : Int32)).toNatClampNeg) := inb_of S4 ⟨by decide, by decide⟩
    have hat4 : cl4.slots[((1 : Int32)).toNatClampNeg]? = some (.int c1) := Hs4.at hin4 rfl
    refine own_by (T' := s₁) (g' := (mkF m 22 #[.val (.ref ca), .val (.int 1), .val (.int 3)] [(.int c1)])) (fun t k => X0.caload hx (j := (1 : Int32)) (v := (.int c1)) (by rw [e0]; exact Ar4.1) (State.isArrayOf_alike hZ.alike Ar4.2.1) Ar4.2.2 hin4 hat4 (g := (mkF m 21 #[.val (.ref ca), .val (.int 1), .val (.int 3)] [(.int 1), (.ref ca)])) rfl rfl (hb hby d5_21) _ k) ?_
    clear hat4 hin4 G4 Hs4 N4 S4 q4 Ar4 cl4
    refine own_by (T' := s₁) (g' := (mkF m 23 #[.val (.ref ca), .val (.int 1), .val (.int 3)] [(.ref ca), (.int c1)])) (fun t k => XS.aloadN X0.here hx rfl (hb hby d5_22) rfl rfl k) ?_
    refine own_by (T' := s₁) (g' := (mkF m 24 #[.val (.ref ca), .val (.int 1), .val (.int 3)] [(.int 1), (.ref ca), (.int c1)])) (fun t k => XS.iloadN X0.here hx rfl (hb hby d5_23) rfl k) ?_
    refine own_by (T' := s₁) (g' := (mkF m 25 #[.val (.ref ca), .val (.int 1), .val (.int 3)] [(.int 1), (.int 1), (.ref ca), (.int c1)])) (fun t k => XS.iconst X0.here hx rfl (hb hby d5_24) k) ?_
    refine own_by (T' := s₁) (g' := (mkF m 26 #[.val (.ref ca), .val (.int 1), .val (.int 3)] [(.int 2), (.ref ca), (.int c1)])) (fun t k => XS.iadd X0.here hx rfl (hb hby d5_25) rfl k) ?_
    obtain ⟨cl5, Ar5, q5, S5, N5, Hs5, G5⟩ := id V_ca
    have hin5 : ¬ ((2 : Int32) < 0 ∨ cl5.slots.size ≤ ((2 : Int32)).toNatClampNeg) := inb_of S5 ⟨by decide, by decide⟩
    have hat5 : cl5.slots[((2 : Int32)).toNatClampNeg]? = some (.int c2) := Hs5.at hin5 rfl
    refine own_by (T' := s₁) (g' := (mkF m 27 #[.val (.ref ca), .val (.int 1), .val (.int 3)] [(.int c2), (.int c1)])) (fun t k => X0.caload hx (j := (2 : Int32)) (v := (.int c2)) (by rw [e0]; exact Ar5.1) (State.isArrayOf_alike hZ.alike Ar5.2.1) Ar5.2.2 hin5 hat5 (g := (mkF m 26 #[.val (.ref ca), .val (.int 1), .val (.int 3)] [(.int 2), (.ref ca), (.int c1)])) rfl rfl (hb hby d5_26) _ k) ?_
    clear hat5 hin5 G5 Hs5 N5 S5 q5 Ar5 cl5
    by_cases hc27_6 : c1 = c2
    · refine own_by (T' := s₁) (g' := (mkF m 30 #[.val (.ref ca), .val (.int 1), .val (.int 3)] [])) (fun t k => XS.icmpNo X0.here hx rfl (hb hby d5_27) rfl (teq hc27_6).2 k) ?_
      refine own_by (T' := s₁) (g' := (mkF m 31 #[.val (.ref ca), .val (.int 1), .val (.int 3)] [(.int 3)])) (fun t k => XS.iloadN X0.here hx rfl (hb hby d5_30) rfl k) ?_
      refine own_by (T' := s₁) (g' := (mkF m 32 #[.val (.ref ca), .val (.int 1), .val (.int 3)] [(.int 3), (.int 3)])) (fun t k => XS.iconst X0.here hx rfl (hb hby d5_31) k) ?_
      refine own_by (T' := s₁) (g' := (mkF m 35 #[.val (.ref ca), .val (.int 1), .val (.int 3)] [])) (fun t k => XS.icmpNo X0.here hx rfl (hb hby d5_32) rfl (flt (by decide)).1 k) ?_
      refine own_by (T' := s₁) (g' := (mkF m 36 #[.val (.ref ca), .val (.int 1), .val (.int 3)] [(.ref ca)])) (fun t k => XS.aloadN X0.here hx rfl (hb hby d5_35) rfl rfl k) ?_
      refine own_by (T' := s₁) (g' := (mkF m 37 #[.val (.ref ca), .val (.int 1), .val (.int 3)] [(.int 2), (.ref ca)])) (fun t k => XS.iconst X0.here hx rfl (hb hby d5_36) k) ?_
      obtain ⟨cl7, Ar7, q7, S7, N7, Hs7, G7⟩ := id V_ca
      have hin7 : ¬ ((2 : Int32) < 0 ∨ cl7.slots.size ≤ ((2 : Int32)).toNatClampNeg) := inb_of S7 ⟨by decide, by decide⟩
      have hat7 : cl7.slots[((2 : Int32)).toNatClampNeg]? = some (.int c2) := Hs7.at hin7 rfl
      refine own_by (T' := s₁) (g' := (mkF m 38 #[.val (.ref ca), .val (.int 1), .val (.int 3)] [(.int c2)])) (fun t k => X0.caload hx (j := (2 : Int32)) (v := (.int c2)) (by rw [e0]; exact Ar7.1) (State.isArrayOf_alike hZ.alike Ar7.2.1) Ar7.2.2 hin7 hat7 (g := (mkF m 37 #[.val (.ref ca), .val (.int 1), .val (.int 3)] [(.int 2), (.ref ca)])) rfl rfl (hb hby d5_37) _ k) ?_
      clear hat7 hin7 G7 Hs7 N7 S7 q7 Ar7 cl7
      refine own_by (T' := s₁) (g' := (mkF m 39 #[.val (.ref ca), .val (.int 1), .val (.int 3)] [(.ref ca), (.int c2)])) (fun t k => XS.aloadN X0.here hx rfl (hb hby d5_38) rfl rfl k) ?_
      refine own_by (T' := s₁) (g' := (mkF m 40 #[.val (.ref ca), .val (.int 1), .val (.int 3)] [(.int 1), (.ref ca), (.int c2)])) (fun t k => XS.iloadN X0.here hx rfl (hb hby d5_39) rfl k) ?_
      refine own_by (T' := s₁) (g' := (mkF m 41 #[.val (.ref ca), .val (.int 1), .val (.int 3)] [(.int 2), (.int 1), (.ref ca), (.int c2)])) (fun t k => XS.iconst X0.here hx rfl (hb hby d5_40) k) ?_
      refine own_by (T' := s₁) (g' := (mkF m 42 #[.val (.ref ca), .val (.int 1), .val (.int 3)] [(.int 3), (.ref ca), (.int c2)])) (fun t k => XS.iadd X0.here hx rfl (hb hby d5_41) rfl k) ?_
      obtain ⟨cl8, Ar8, q8, S8, N8, Hs8, G8⟩ := id V_ca
      have hin8 : ¬ ((3 : Int32) < 0 ∨ cl8.slots.size ≤ ((3 : Int32)).toNatClampNeg) := inb_of S8 ⟨by decide, by decide⟩
      have hat8 : cl8.slots[((3 : Int32)).toNatClampNeg]? = some (.int c3) := Hs8.at hin8 rfl
      refine own_by (T' := s₁) (g' := (mkF m 43 #[.val (.ref ca), .val (.int 1), .val (.int 3)] [(.int c3), (.int c2)])) (fun t k => X0.caload hx (j := (3 : Int32)) (v := (.int c3)) (by rw [e0]; exact Ar8.1) (State.isArrayOf_alike hZ.alike Ar8.2.1) Ar8.2.2 hin8 hat8 (g := (mkF m 42 #[.val (.ref ca), .val (.int 1), .val (.int 3)] [(.int 3), (.ref ca), (.int c2)])) rfl rfl (hb hby d5_42) _ k) ?_
      clear hat8 hin8 G8 Hs8 N8 S8 q8 Ar8 cl8
      by_cases hc43_9 : c2 = c3
      · refine own_by (T' := s₁) (g' := (mkF m 46 #[.val (.ref ca), .val (.int 1), .val (.int 3)] [])) (fun t k => XS.icmpNo X0.here hx rfl (hb hby d5_43) rfl (teq hc43_9).2 k) ?_
        refine own_by (T' := s₁) (g' := (mkF m 47 #[.val (.ref ca), .val (.int 1), .val (.int 3)] [(.int 3)])) (fun t k => XS.iloadN X0.here hx rfl (hb hby d5_46) rfl k) ?_
        refine own_by (T' := s₁) (g' := (mkF m 48 #[.val (.ref ca), .val (.int 1), .val (.int 3)] [(.int 4), (.int 3)])) (fun t k => XS.iconst X0.here hx rfl (hb hby d5_47) k) ?_
        refine own_by (T' := s₁) (g' := (mkF m 62 #[.val (.ref ca), .val (.int 1), .val (.int 3)] [])) (fun t k => XS.icmpYes X0.here hx rfl (pc0 := 48) (pc' := 62) rfl (hb hby d5_48) rfl (tlt (by decide)).1 (by decide) (by decide) k) ?_
        refine own_by (T' := s₁) (g' := (mkF m 63 #[.val (.ref ca), .val (.int 1), .val (.int 3)] [(.int 3)])) (fun t k => XS.iloadN X0.here hx rfl (hb hby d5_62) rfl k) ?_
        refine own_by (T' := s₁) (g' := (mkF m 64 #[.val (.ref ca), .val (.int 1), .val (.int 3)] [(.int 5), (.int 3)])) (fun t k => XS.iconst X0.here hx rfl (hb hby d5_63) k) ?_
        refine own_by (T' := s₁) (g' := (mkF m 78 #[.val (.ref ca), .val (.int 1), .val (.int 3)] [])) (fun t k => XS.icmpYes X0.here hx rfl (pc0 := 64) (pc' := 78) rfl (hb hby d5_64) rfl (tlt (by decide)).1 (by decide) (by decide) k) ?_
        refine own_by (T' := s₁) (g' := (mkF m 79 #[.val (.ref ca), .val (.int 1), .val (.int 3)] [(.int 1)])) (fun t k => XS.iconst X0.here hx rfl (hb hby d5_78) k) ?_
        refine own_by (T' := s₁) (g' := (mkF m 83 #[.val (.ref ca), .val (.int 1), .val (.int 3)] [(.int 1)])) (fun t k => XS.goto X0.here hx rfl (pc0 := 79) (pc' := 83) rfl (hb hby d5_79) (by decide) (by decide) k) ?_
        exact own_retN X0 hx (t := .boolean) Bd.notSynchronized Bd.returns (by simp) (hb hby d5_83) (by decide) (by decide) (by rw [e0]; exact ⟨by unfold own_eq1_3; rw [if_pos hc11_3, if_pos hc27_6, if_pos hc43_9] <;> rfl, N_, rfl⟩)
      · refine own_by (T' := s₁) (g' := (mkF m 82 #[.val (.ref ca), .val (.int 1), .val (.int 3)] [])) (fun t k => XS.icmpYes X0.here hx rfl (pc0 := 43) (pc' := 82) rfl (hb hby d5_43) rfl (feq hc43_9).2 (by decide) (by decide) k) ?_
        refine own_by (T' := s₁) (g' := (mkF m 83 #[.val (.ref ca), .val (.int 1), .val (.int 3)] [(.int 0)])) (fun t k => XS.iconst X0.here hx rfl (hb hby d5_82) k) ?_
        exact own_retN X0 hx (t := .boolean) Bd.notSynchronized Bd.returns (by simp) (hb hby d5_83) (by decide) (by decide) (by rw [e0]; exact ⟨by unfold own_eq1_3; rw [if_pos hc11_3, if_pos hc27_6, if_neg hc43_9] <;> rfl, N_, rfl⟩)
    · refine own_by (T' := s₁) (g' := (mkF m 82 #[.val (.ref ca), .val (.int 1), .val (.int 3)] [])) (fun t k => XS.icmpYes X0.here hx rfl (pc0 := 27) (pc' := 82) rfl (hb hby d5_27) rfl (feq hc27_6).2 (by decide) (by decide) k) ?_
      refine own_by (T' := s₁) (g' := (mkF m 83 #[.val (.ref ca), .val (.int 1), .val (.int 3)] [(.int 0)])) (fun t k => XS.iconst X0.here hx rfl (hb hby d5_82) k) ?_
      exact own_retN X0 hx (t := .boolean) Bd.notSynchronized Bd.returns (by simp) (hb hby d5_83) (by decide) (by decide) (by rw [e0]; exact ⟨by unfold own_eq1_3; rw [if_pos hc11_3, if_neg hc27_6] <;> rfl, N_, rfl⟩)
  · refine own_by (T' := s₁) (g' := (mkF m 82 #[.val (.ref ca), .val (.int 1), .val (.int 3)] [])) (fun t k => XS.icmpYes X0.here hx rfl (pc0 := 11) (pc' := 82) rfl (hb hby d5_11) rfl (feq hc11_3).2 (by decide) (by decide) k) ?_
    refine own_by (T' := s₁) (g' := (mkF m 83 #[.val (.ref ca), .val (.int 1), .val (.int 3)] [(.int 0)])) (fun t k => XS.iconst X0.here hx rfl (hb hby d5_82) k) ?_
    exact own_retN X0 hx (t := .boolean) Bd.notSynchronized Bd.returns (by simp) (hb hby d5_83) (by decide) (by decide) (by rw [e0]; exact ⟨by unfold own_eq1_3; rw [if_neg hc11_3] <;> rfl, N_, rfl⟩)

def Q5_1_4 (Z : State) (ca : Addr) (kc : ClassId) (c0 : Int32) (c1 : Int32) (c2 : Int32) (c3 : Int32) (c4 : Int32) (c5 : Int32) (h0 : Heap) (n0 : Nat) (v : Option Value) (h : Heap) (L : List Loc) : Prop := v = some (.int (own_eq1_4 c0 c1 c2 c3 c4 c5)) ∧ Fr n0 L ∧ h = h0
theorem ef_5_1_4 (m : MethodId) (ca : Addr) : entryFrame m #[(.ref ca), (.int 1), (.int 4)] 3 = mkF m 0 #[.val (.ref ca), .val (.int 1), .val (.int 4)] [] := by first | (simp [entryFrame, mkF, argsToLocals, Value.category]; done) | rfl
theorem d5_51 : decode method_5_code 51 = .ok (.aload_n 0, 1) := by decide +kernel
theorem d5_52 : decode method_5_code 52 = .ok (.iconst 3, 1) := by decide +kernel
theorem d5_53 : decode method_5_code 53 = .ok (.caload, 1) := by decide +kernel
theorem d5_54 : decode method_5_code 54 = .ok (.aload_n 0, 1) := by decide +kernel
theorem d5_55 : decode method_5_code 55 = .ok (.iload_n 1, 1) := by decide +kernel
theorem d5_56 : decode method_5_code 56 = .ok (.iconst 3, 1) := by decide +kernel
theorem d5_57 : decode method_5_code 57 = .ok (.iadd, 1) := by decide +kernel
theorem d5_58 : decode method_5_code 58 = .ok (.caload, 1) := by decide +kernel
theorem d5_59 : decode method_5_code 59 = .ok (.if_icmp .ne 23, 3) := by decide +kernel
set_option maxRecDepth 65536 in
set_option maxHeartbeats 40000000 in
theorem rm5_1_4 (l : Launch) (Z : State) (a0 : Array Value) (hw : ∀ d ∈ tables_1, d.before a0 Z = true) (ws : List Jvm.Cond) (ca : Addr) (kc : ClassId) (c0 : Int32) (c1 : Int32) (c2 : Int32) (c3 : Int32) (c4 : Int32) (c5 : Int32) (h0 : Heap) (n0 : Nat) (Zle : n0 ≤ h0.size) (V_ca : Arv Z h0 ca kc .char (6 : Int32) [(.int c0), (.int c1), (.int c2), (.int c3), (.int c4), (.int c5)] (.int 0)) :
    MetFree l (⟨"com/example/emu/emu/PrefixTableOfPinLaw", "eq", "([CII)Z"⟩ : MethodName) (head1 (Jvm.Cond.code (⟨"com/example/emu/emu/PrefixTableOfPinLaw", "eq", "([CII)Z"⟩ : MethodName) method_5_code 3 (some .boolean) :: ws) ({ frames := 0, cells := 0, slots := 0, locals := 0 } : Room)) (fun a U => a = #[(.ref ca), (.int 1), (.int 4)] ∧ Z.Warmed39 U.vm ∧ U.heap = h0) (fun _ _ _ _ _ => True) (fun _ U o U' => ∃ v L, o = .returned v ∧ Q5_1_4 Z ca kc c0 c1 c2 c3 c4 c5 h0 n0 v U'.heap L ∧ FrameEnd U o U' L ({ frames := 0, cells := 0, slots := 0, locals := 0 } : Room).cells ({ frames := 0, cells := 0, slots := 0, locals := 0 } : Room).slots) := by
  refine MetFree.of_bodySF (plainFor_of_name pn_com_example_emu_emu_PrefixTableOfPinLaw) hisR ?_
  intro p e s m args below meth c s₁ Bd hml0 hP hK
  obtain ⟨rfl, hZ, hh⟩ := hP
  have hx := Bd.exec
  have hby := Bd.bytes
  have hml : c.maxLocals = 3 := hml0
  have hown : s.vm.findClass "com/example/emu/emu/PrefixTableOfPinLaw" = some m.cls := findClass_of_methodNamed Bd.named
  have hnm := (name_of_methodNamed Bd.named Bd.method).1
  have X0 : Stand p l e ({ frames := 0, cells := 0, slots := 0, locals := 0 } : Room) s m #[(.ref ca), (.int 1), (.int 4)] below meth c s₁ [] 0 0 := Stand.of_body Bd
  have e0 : s₁.heap = h0 := by rw [← hh, Bd.state]; rfl
  have N_ := Fr.nil n0
  show own_Goes p.tables e below s (Q5_1_4 Z ca kc c0 c1 c2 c3 c4 c5 h0 n0) ({ frames := 0, cells := 0, slots := 0, locals := 0 } : Room).cells ({ frames := 0, cells := 0, slots := 0, locals := 0 } : Room).slots s₁ (entryFrame m #[(.ref ca), (.int 1), (.int 4)] 3)
  refine own_by (T' := s₁) (g' := (mkF m 0 #[.val (.ref ca), .val (.int 1), .val (.int 4)] [])) (fun t k => castTop (ef_5_1_4 m ca) k) ?_
  refine own_by (T' := s₁) (g' := (mkF m 1 #[.val (.ref ca), .val (.int 1), .val (.int 4)] [(.int 4)])) (fun t k => XS.iloadN X0.here hx rfl (hb hby d5_0) rfl k) ?_
  refine own_by (T' := s₁) (g' := (mkF m 2 #[.val (.ref ca), .val (.int 1), .val (.int 4)] [(.int 1), (.int 4)])) (fun t k => XS.iconst X0.here hx rfl (hb hby d5_1) k) ?_
  refine own_by (T' := s₁) (g' := (mkF m 5 #[.val (.ref ca), .val (.int 1), .val (.int 4)] [])) (fun t k => XS.icmpNo X0.here hx rfl (hb hby d5_2) rfl (flt (by decide)).1 k) ?_
  refine own_by (T' := s₁) (g' := (mkF m 6 #[.val (.ref ca), .val (.int 1), .val (.int 4)] [(.ref ca)])) (fun t k => XS.aloadN X0.here hx rfl (hb hby d5_5) rfl rfl k) ?_
  refine own_by (T' := s₁) (g' := (mkF m 7 #[.val (.ref ca), .val (.int 1), .val (.int 4)] [(.int 0), (.ref ca)])) (fun t k => XS.iconst X0.here hx rfl (hb hby d5_6) k) ?_
  obtain ⟨cl1, Ar1, q1, S1, N1, Hs1, G1⟩ := id V_ca
  have hin1 : ¬ ((0 : Int32) < 0 ∨ cl1.slots.size ≤ ((0 : Int32)).toNatClampNeg) := inb_of S1 ⟨by decide, by decide⟩
  have hat1 : cl1.slots[((0 : Int32)).toNatClampNeg]? = some (.int c0) := Hs1.at hin1 rfl
  refine own_by (T' := s₁) (g' := (mkF m 8 #[.val (.ref ca), .val (.int 1), .val (.int 4)] [(.int c0)])) (fun t k => X0.caload hx (j := (0 : Int32)) (v := (.int c0)) (by rw [e0]; exact Ar1.1) (State.isArrayOf_alike hZ.alike Ar1.2.1) Ar1.2.2 hin1 hat1 (g := (mkF m 7 #[.val (.ref ca), .val (.int 1), .val (.int 4)] [(.int 0), (.ref ca)])) rfl rfl (hb hby d5_7) _ k) ?_
  clear hat1 hin1 G1 Hs1 N1 S1 q1 Ar1 cl1
  refine own_by (T' := s₁) (g' := (mkF m 9 #[.val (.ref ca), .val (.int 1), .val (.int 4)] [(.ref ca), (.int c0)])) (fun t k => XS.aloadN X0.here hx rfl (hb hby d5_8) rfl rfl k) ?_
  refine own_by (T' := s₁) (g' := (mkF m 10 #[.val (.ref ca), .val (.int 1), .val (.int 4)] [(.int 1), (.ref ca), (.int c0)])) (fun t k => XS.iloadN X0.here hx rfl (hb hby d5_9) rfl k) ?_
  obtain ⟨cl2, Ar2, q2, S2, N2, Hs2, G2⟩ := id V_ca
  have hin2 : ¬ ((1 : Int32) < 0 ∨ cl2.slots.size ≤ ((1 : Int32)).toNatClampNeg) := inb_of S2 ⟨by decide, by decide⟩
  have hat2 : cl2.slots[((1 : Int32)).toNatClampNeg]? = some (.int c1) := Hs2.at hin2 rfl
  refine own_by (T' := s₁) (g' := (mkF m 11 #[.val (.ref ca), .val (.int 1), .val (.int 4)] [(.int c1), (.int c0)])) (fun t k => X0.caload hx (j := (1 : Int32)) (v := (.int c1)) (by rw [e0]; exact Ar2.1) (State.isArrayOf_alike hZ.alike Ar2.2.1) Ar2.2.2 hin2 hat2 (g := (mkF m 10 #[.val (.ref ca), .val (.int 1), .val (.int 4)] [(.int 1), (.ref ca), (.int c0)])) rfl rfl (hb hby d5_10) _ k) ?_
  clear hat2 hin2 G2 Hs2 N2 S2 q2 Ar2 cl2
  by_cases hc11_3 : c0 = c1
  · refine own_by (T' := s₁) (g' := (mkF m 14 #[.val (.ref ca), .val (.int 1), .val (.int 4)] [])) (fun t k => XS.icmpNo X0.here hx rfl (hb hby d5_11) rfl (teq hc11_3).2 k) ?_
    refine own_by (T' := s₁) (g' := (mkF m 15 #[.val (.ref ca), .val (.int 1), .val (.int 4)] [(.int 4)])) (fun t k => XS.iloadN X0.here hx rfl (hb hby d5_14) rfl k) ?_
    refine own_by (T' := s₁) (g' := (mkF m 16 #[.val (.ref ca), .val (.int 1), .val (.int 4)] [(.int 2), (.int 4)])) (fun t k => XS.iconst X0.here hx rfl (hb hby d5_15) k) ?_
    refine own_by (T' := s₁) (g' := (mkF m 19 #[.val (.ref ca), .val (.int 1), .val (.int 4)] [])) (fun t k => XS.icmpNo X0.here hx rfl (hb hby d5_16) rfl (flt (by decide)).1 k) ?_
    refine own_by (T' := s₁) (g' := (mkF m 20 #[.val (.ref ca), .val (.int 1), .val (.int 4)] [(.ref ca)])) (fun t k => XS.aloadN X0.here hx rfl (hb hby d5_19) rfl rfl k) ?_
    refine own_by (T' := s₁) (g' := (mkF m 21 #[.val (.ref ca), .val (.int 1), .val (.int 4)] [(.int 1), (.ref ca)])) (fun t k => XS.iconst X0.here hx rfl (hb hby d5_20) k) ?_
    obtain ⟨cl4, Ar4, q4, S4, N4, Hs4, G4⟩ := id V_ca
    have hin4 : ¬ ((1 : Int32) < 0 ∨ cl4.slots.size ≤ ((1 : Int32)).toNatClampNeg) := inb_of S4 ⟨by decide, by decide⟩
    have hat4 : cl4.slots[((1 : Int32)).toNatClampNeg]? = some (.int c1) := Hs4.at hin4 rfl
    refine own_by (T' := s₁) (g' := (mkF m 22 #[.val (.ref ca), .val (.int 1), .val (.int 4)] [(.int c1)])) (fun t k => X0.caload hx (j := (1 : Int32)) (v := (.int c1)) (by rw [e0]; exact Ar4.1) (State.isArrayOf_alike hZ.alike Ar4.2.1) Ar4.2.2 hin4 hat4 (g := (mkF m 21 #[.val (.ref ca), .val (.int 1), .val (.int 4)] [(.int 1), (.ref ca)])) rfl rfl (hb hby d5_21) _ k) ?_
    clear hat4 hin4 G4 Hs4 N4 S4 q4 Ar4 cl4
    refine own_by (T' := s₁) (g' := (mkF m 23 #[.val (.ref ca), .val (.int 1), .val (.int 4)] [(.ref ca), (.int c1)])) (fun t k => XS.aloadN X0.here hx rfl (hb hby d5_22) rfl rfl k) ?_
    refine own_by (T' := s₁) (g' := (mkF m 24 #[.val (.ref ca), .val (.int 1), .val (.int 4)] [(.int 1), (.ref ca), (.int c1)])) (fun t k => XS.iloadN X0.here hx rfl (hb hby d5_23) rfl k) ?_
    refine own_by (T' := s₁) (g' := (mkF m 25 #[.val (.ref ca), .val (.int 1), .val (.int 4)] [(.int 1), (.int 1), (.ref ca), (.int c1)])) (fun t k => XS.iconst X0.here hx rfl (hb hby d5_24) k) ?_
    refine own_by (T' := s₁) (g' := (mkF m 26 #[.val (.ref ca), .val (.int 1), .val (.int 4)] [(.int 2), (.ref ca), (.int c1)])) (fun t k => XS.iadd X0.here hx rfl (hb hby d5_25) rfl k) ?_
    obtain ⟨cl5, Ar5, q5, S5, N5, Hs5, G5⟩ := id V_ca
    have hin5 : ¬ ((2 : Int32) < 0 ∨ cl5.slots.size ≤ ((2 : Int32)).toNatClampNeg) := inb_of S5 ⟨by decide, by decide⟩
    have hat5 : cl5.slots[((2 : Int32)).toNatClampNeg]? = some (.int c2) := Hs5.at hin5 rfl
    refine own_by (T' := s₁) (g' := (mkF m 27 #[.val (.ref ca), .val (.int 1), .val (.int 4)] [(.int c2), (.int c1)])) (fun t k => X0.caload hx (j := (2 : Int32)) (v := (.int c2)) (by rw [e0]; exact Ar5.1) (State.isArrayOf_alike hZ.alike Ar5.2.1) Ar5.2.2 hin5 hat5 (g := (mkF m 26 #[.val (.ref ca), .val (.int 1), .val (.int 4)] [(.int 2), (.ref ca), (.int c1)])) rfl rfl (hb hby d5_26) _ k) ?_
    clear hat5 hin5 G5 Hs5 N5 S5 q5 Ar5 cl5
    by_cases hc27_6 : c1 = c2
    · refine own_by (T' := s₁) (g' := (mkF m 30 #[.val (.ref ca), .val (.int 1), .val (.int 4)] [])) (fun t k => XS.icmpNo X0.here hx rfl (hb hby d5_27) rfl (teq hc27_6).2 k) ?_
      refine own_by (T' := s₁) (g' := (mkF m 31 #[.val (.ref ca), .val (.int 1), .val (.int 4)] [(.int 4)])) (fun t k => XS.iloadN X0.here hx rfl (hb hby d5_30) rfl k) ?_
      refine own_by (T' := s₁) (g' := (mkF m 32 #[.val (.ref ca), .val (.int 1), .val (.int 4)] [(.int 3), (.int 4)])) (fun t k => XS.iconst X0.here hx rfl (hb hby d5_31) k) ?_
      refine own_by (T' := s₁) (g' := (mkF m 35 #[.val (.ref ca), .val (.int 1), .val (.int 4)] [])) (fun t k => XS.icmpNo X0.here hx rfl (hb hby d5_32) rfl (flt (by decide)).1 k) ?_
      refine own_by (T' := s₁) (g' := (mkF m 36 #[.val (.ref ca), .val (.int 1), .val (.int 4)] [(.ref ca)])) (fun t k => XS.aloadN X0.here hx rfl (hb hby d5_35) rfl rfl k) ?_
      refine own_by (T' := s₁) (g' := (mkF m 37 #[.val (.ref ca), .val (.int 1), .val (.int 4)] [(.int 2), (.ref ca)])) (fun t k => XS.iconst X0.here hx rfl (hb hby d5_36) k) ?_
      obtain ⟨cl7, Ar7, q7, S7, N7, Hs7, G7⟩ := id V_ca
      have hin7 : ¬ ((2 : Int32) < 0 ∨ cl7.slots.size ≤ ((2 : Int32)).toNatClampNeg) := inb_of S7 ⟨by decide, by decide⟩
      have hat7 : cl7.slots[((2 : Int32)).toNatClampNeg]? = some (.int c2) := Hs7.at hin7 rfl
      refine own_by (T' := s₁) (g' := (mkF m 38 #[.val (.ref ca), .val (.int 1), .val (.int 4)] [(.int c2)])) (fun t k => X0.caload hx (j := (2 : Int32)) (v := (.int c2)) (by rw [e0]; exact Ar7.1) (State.isArrayOf_alike hZ.alike Ar7.2.1) Ar7.2.2 hin7 hat7 (g := (mkF m 37 #[.val (.ref ca), .val (.int 1), .val (.int 4)] [(.int 2), (.ref ca)])) rfl rfl (hb hby d5_37) _ k) ?_
      clear hat7 hin7 G7 Hs7 N7 S7 q7 Ar7 cl7
      refine own_by (T' := s₁) (g' := (mkF m 39 #[.val (.ref ca), .val (.int 1), .val (.int 4)] [(.ref ca), (.int c2)])) (fun t k => XS.aloadN X0.here hx rfl (hb hby d5_38) rfl rfl k) ?_
      refine own_by (T' := s₁) (g' := (mkF m 40 #[.val (.ref ca), .val (.int 1), .val (.int 4)] [(.int 1), (.ref ca), (.int c2)])) (fun t k => XS.iloadN X0.here hx rfl (hb hby d5_39) rfl k) ?_
      refine own_by (T' := s₁) (g' := (mkF m 41 #[.val (.ref ca), .val (.int 1), .val (.int 4)] [(.int 2), (.int 1), (.ref ca), (.int c2)])) (fun t k => XS.iconst X0.here hx rfl (hb hby d5_40) k) ?_
      refine own_by (T' := s₁) (g' := (mkF m 42 #[.val (.ref ca), .val (.int 1), .val (.int 4)] [(.int 3), (.ref ca), (.int c2)])) (fun t k => XS.iadd X0.here hx rfl (hb hby d5_41) rfl k) ?_
      obtain ⟨cl8, Ar8, q8, S8, N8, Hs8, G8⟩ := id V_ca
      have hin8 : ¬ ((3 : Int32) < 0 ∨ cl8.slots.size ≤ ((3 : Int32)).toNatClampNeg) := inb_of S8 ⟨by decide, by decide⟩
      have hat8 : cl8.slots[((3 : Int32)).toNatClampNeg]? = some (.int c3) := Hs8.at hin8 rfl
      refine own_by (T' := s₁) (g' := (mkF m 43 #[.val (.ref ca), .val (.int 1), .val (.int 4)] [(.int c3), (.int c2)])) (fun t k => X0.caload hx (j := (3 : Int32)) (v := (.int c3)) (by rw [e0]; exact Ar8.1) (State.isArrayOf_alike hZ.alike Ar8.2.1) Ar8.2.2 hin8 hat8 (g := (mkF m 42 #[.val (.ref ca), .val (.int 1), .val (.int 4)] [(.int 3), (.ref ca), (.int c2)])) rfl rfl (hb hby d5_42) _ k) ?_
      clear hat8 hin8 G8 Hs8 N8 S8 q8 Ar8 cl8
      by_cases hc43_9 : c2 = c3
      · refine own_by (T' := s₁) (g' := (mkF m 46 #[.val (.ref ca), .val (.int 1), .val (.int 4)] [])) (fun t k => XS.icmpNo X0.here hx rfl (hb hby d5_43) rfl (teq hc43_9).2 k) ?_
        refine own_by (T' := s₁) (g' := (mkF m 47 #[.val (.ref ca), .val (.int 1), .val (.int 4)] [(.int 4)])) (fun t k => XS.iloadN X0.here hx rfl (hb hby d5_46) rfl k) ?_
        refine own_by (T' := s₁) (g' := (mkF m 48 #[.val (.ref ca), .val (.int 1), .val (.int 4)] [(.int 4), (.int 4)])) (fun t k => XS.iconst X0.here hx rfl (hb hby d5_47) k) ?_
        refine own_by (T' := s₁) (g' := (mkF m 51 #[.val (.ref ca), .val (.int 1), .val (.int 4)] [])) (fun t k => XS.icmpNo X0.here hx rfl (hb hby d5_48) rfl (flt (by decide)).1 k) ?_
        refine own_by (T' := s₁) (g' := (mkF m 52 #[.val (.ref ca), .val (.int 1), .val (.int 4)] [(.ref ca)])) (fun t k => XS.aloadN X0.here hx rfl (hb hby d5_51) rfl rfl k) ?_
        refine own_by (T' := s₁) (g' := (mkF m 53 #[.val (.ref ca), .val (.int 1), .val (.int 4)] [(.int 3), (.ref ca)])) (fun t k => XS.iconst X0.here hx rfl (hb hby d5_52) k) ?_
        obtain ⟨cl10, Ar10, q10, S10, N10, Hs10, G10⟩ := id V_ca
        have hin10 : ¬ ((3 : Int32) < 0 ∨ cl10.slots.size ≤ ((3 : Int32)).toNatClampNeg) := inb_of S10 ⟨by decide, by decide⟩
        have hat10 : cl10.slots[((3 : Int32)).toNatClampNeg]? = some (.int c3) := Hs10.at hin10 rfl
        refine own_by (T' := s₁) (g' := (mkF m 54 #[.val (.ref ca), .val (.int 1), .val (.int 4)] [(.int c3)])) (fun t k => X0.caload hx (j := (3 : Int32)) (v := (.int c3)) (by rw [e0]; exact Ar10.1) (State.isArrayOf_alike hZ.alike Ar10.2.1) Ar10.2.2 hin10 hat10 (g := (mkF m 53 #[.val (.ref ca), .val (.int 1), .val (.int 4)] [(.int 3), (.ref ca)])) rfl rfl (hb hby d5_53) _ k) ?_
        clear hat10 hin10 G10 Hs10 N10 S10 q10 Ar10 cl10
        refine own_by (T' := s₁) (g' := (mkF m 55 #[.val (.ref ca), .val (.int 1), .val (.int 4)] [(.ref ca), (.int c3)])) (fun t k => XS.aloadN X0.here hx rfl (hb hby d5_54) rfl rfl k) ?_
        refine own_by (T' := s₁) (g' := (mkF m 56 #[.val (.ref ca), .val (.int 1), .val (.int 4)] [(.int 1), (.ref ca), (.int c3)])) (fun t k => XS.iloadN X0.here hx rfl (hb hby d5_55) rfl k) ?_
        refine own_by (T' := s₁) (g' := (mkF m 57 #[.val (.ref ca), .val (.int 1), .val (.int 4)] [(.int 3), (.int 1), (.ref ca), (.int c3)])) (fun t k => XS.iconst X0.here hx rfl (hb hby d5_56) k) ?_
        refine own_by (T' := s₁) (g' := (mkF m 58 #[.val (.ref ca), .val (.int 1), .val (.int 4)] [(.int 4), (.ref ca), (.int c3)])) (fun t k => XS.iadd X0.here hx rfl (hb hby d5_57) rfl k) ?_
        obtain ⟨cl11, Ar11, q11, S11, N11, Hs11, G11⟩ := id V_ca
        have hin11 : ¬ ((4 : Int32) < 0 ∨ cl11.slots.size ≤ ((4 : Int32)).toNatClampNeg) := inb_of S11 ⟨by decide, by decide⟩
        have hat11 : cl11.slots[((4 : Int32)).toNatClampNeg]? = some (.int c4) := Hs11.at hin11 rfl
        refine own_by (T' := s₁) (g' := (mkF m 59 #[.val (.ref ca), .val (.int 1), .val (.int 4)] [(.int c4), (.int c3)])) (fun t k => X0.caload hx (j := (4 : Int32)) (v := (.int c4)) (by rw [e0]; exact Ar11.1) (State.isArrayOf_alike hZ.alike Ar11.2.1) Ar11.2.2 hin11 hat11 (g := (mkF m 58 #[.val (.ref ca), .val (.int 1), .val (.int 4)] [(.int 4), (.ref ca), (.int c3)])) rfl rfl (hb hby d5_58) _ k) ?_
        clear hat11 hin11 G11 Hs11 N11 S11 q11 Ar11 cl11
        by_cases hc59_12 : c3 = c4
        · refine own_by (T' := s₁) (g' := (mkF m 62 #[.val (.ref ca), .val (.int 1), .val (.int 4)] [])) (fun t k => XS.icmpNo X0.here hx rfl (hb hby d5_59) rfl (teq hc59_12).2 k) ?_
          refine own_by (T' := s₁) (g' := (mkF m 63 #[.val (.ref ca), .val (.int 1), .val (.int 4)] [(.int 4)])) (fun t k => XS.iloadN X0.here hx rfl (hb hby d5_62) rfl k) ?_
          refine own_by (T' := s₁) (g' := (mkF m 64 #[.val (.ref ca), .val (.int 1), .val (.int 4)] [(.int 5), (.int 4)])) (fun t k => XS.iconst X0.here hx rfl (hb hby d5_63) k) ?_
          refine own_by (T' := s₁) (g' := (mkF m 78 #[.val (.ref ca), .val (.int 1), .val (.int 4)] [])) (fun t k => XS.icmpYes X0.here hx rfl (pc0 := 64) (pc' := 78) rfl (hb hby d5_64) rfl (tlt (by decide)).1 (by decide) (by decide) k) ?_
          refine own_by (T' := s₁) (g' := (mkF m 79 #[.val (.ref ca), .val (.int 1), .val (.int 4)] [(.int 1)])) (fun t k => XS.iconst X0.here hx rfl (hb hby d5_78) k) ?_
          refine own_by (T' := s₁) (g' := (mkF m 83 #[.val (.ref ca), .val (.int 1), .val (.int 4)] [(.int 1)])) (fun t k => XS.goto X0.here hx rfl (pc0 := 79) (pc' := 83) rfl (hb hby d5_79) (by decide) (by decide) k) ?_
          exact own_retN X0 hx (t := .boolean) Bd.notSynchronized Bd.returns (by simp) (hb hby d5_83) (by decide) (by decide) (by rw [e0]; exact ⟨by unfold own_eq1_4; rw [if_pos hc11_3, if_pos hc27_6, if_pos hc43_9, if_pos hc59_12] <;> rfl, N_, rfl⟩)
        · refine own_by (T' := s₁) (g' := (mkF m 82 #[.val (.ref ca), .val (.int 1), .val (.int 4)] [])) (fun t k => XS.icmpYes X0.here hx rfl (pc0 := 59) (pc' := 82) rfl (hb hby d5_59) rfl (feq hc59_12).2 (by decide) (by decide) k) ?_
          refine own_by (T' := s₁) (g' := (mkF m 83 #[.val (.ref ca), .val (.int 1), .val (.int 4)] [(.int 0)])) (fun t k => XS.iconst X0.here hx rfl (hb hby d5_82) k) ?_
          exact own_retN X0 hx (t := .boolean) Bd.notSynchronized Bd.returns (by simp) (hb hby d5_83) (by decide) (by decide) (by rw [e0]; exact ⟨by unfold own_eq1_4; rw [if_pos hc11_3, if_pos hc27_6, if_pos hc43_9, if_neg hc59_12] <;> rfl, N_, rfl⟩)
      · refine own_by (T' := s₁) (g' := (mkF m 82 #[.val (.ref ca), .val (.int 1), .val (.int 4)] [])) (fun t k => XS.icmpYes X0.here hx rfl (pc0 := 43) (pc' := 82) rfl (hb hby d5_43) rfl (feq hc43_9).2 (by decide) (by decide) k) ?_
        refine own_by (T' := s₁) (g' := (mkF m 83 #[.val (.ref ca), .val (.int 1), .val (.int 4)] [(.int 0)])) (fun t k => XS.iconst X0.here hx rfl (hb hby d5_82) k) ?_
        exact own_retN X0 hx (t := .boolean) Bd.notSynchronized Bd.returns (by simp) (hb hby d5_83) (by decide) (by decide) (by rw [e0]; exact ⟨by unfold own_eq1_4; rw [if_pos hc11_3, if_pos hc27_6, if_neg hc43_9] <;> rfl, N_, rfl⟩)
    · refine own_by (T' := s₁) (g' := (mkF m 82 #[.val (.ref ca), .val (.int 1), .val (.int 4)] [])) (fun t k => XS.icmpYes X0.here hx rfl (pc0 := 27) (pc' := 82) rfl (hb hby d5_27) rfl (feq hc27_6).2 (by decide) (by decide) k) ?_
      refine own_by (T' := s₁) (g' := (mkF m 83 #[.val (.ref ca), .val (.int 1), .val (.int 4)] [(.int 0)])) (fun t k => XS.iconst X0.here hx rfl (hb hby d5_82) k) ?_
      exact own_retN X0 hx (t := .boolean) Bd.notSynchronized Bd.returns (by simp) (hb hby d5_83) (by decide) (by decide) (by rw [e0]; exact ⟨by unfold own_eq1_4; rw [if_pos hc11_3, if_neg hc27_6] <;> rfl, N_, rfl⟩)
  · refine own_by (T' := s₁) (g' := (mkF m 82 #[.val (.ref ca), .val (.int 1), .val (.int 4)] [])) (fun t k => XS.icmpYes X0.here hx rfl (pc0 := 11) (pc' := 82) rfl (hb hby d5_11) rfl (feq hc11_3).2 (by decide) (by decide) k) ?_
    refine own_by (T' := s₁) (g' := (mkF m 83 #[.val (.ref ca), .val (.int 1), .val (.int 4)] [(.int 0)])) (fun t k => XS.iconst X0.here hx rfl (hb hby d5_82) k) ?_
    exact own_retN X0 hx (t := .boolean) Bd.notSynchronized Bd.returns (by simp) (hb hby d5_83) (by decide) (by decide) (by rw [e0]; exact ⟨by unfold own_eq1_4; rw [if_neg hc11_3] <;> rfl, N_, rfl⟩)

def Q5_1_5 (Z : State) (ca : Addr) (kc : ClassId) (c0 : Int32) (c1 : Int32) (c2 : Int32) (c3 : Int32) (c4 : Int32) (c5 : Int32) (h0 : Heap) (n0 : Nat) (v : Option Value) (h : Heap) (L : List Loc) : Prop := v = some (.int (own_eq1_5 c0 c1 c2 c3 c4 c5)) ∧ Fr n0 L ∧ h = h0
theorem ef_5_1_5 (m : MethodId) (ca : Addr) : entryFrame m #[(.ref ca), (.int 1), (.int 5)] 3 = mkF m 0 #[.val (.ref ca), .val (.int 1), .val (.int 5)] [] := by first | (simp [entryFrame, mkF, argsToLocals, Value.category]; done) | rfl
theorem d5_67 : decode method_5_code 67 = .ok (.aload_n 0, 1) := by decide +kernel
theorem d5_68 : decode method_5_code 68 = .ok (.iconst 4, 1) := by decide +kernel
theorem d5_69 : decode method_5_code 69 = .ok (.caload, 1) := by decide +kernel
theorem d5_70 : decode method_5_code 70 = .ok (.aload_n 0, 1) := by decide +kernel
theorem d5_71 : decode method_5_code 71 = .ok (.iload_n 1, 1) := by decide +kernel
theorem d5_72 : decode method_5_code 72 = .ok (.iconst 4, 1) := by decide +kernel
theorem d5_73 : decode method_5_code 73 = .ok (.iadd, 1) := by decide +kernel
theorem d5_74 : decode method_5_code 74 = .ok (.caload, 1) := by decide +kernel
theorem d5_75 : decode method_5_code 75 = .ok (.if_icmp .ne 7, 3) := by decide +kernel
set_option maxRecDepth 65536 in
set_option maxHeartbeats 40000000 in
theorem rm5_1_5 (l : Launch) (Z : State) (a0 : Array Value) (hw : ∀ d ∈ tables_1, d.before a0 Z = true) (ws : List Jvm.Cond) (ca : Addr) (kc : ClassId) (c0 : Int32) (c1 : Int32) (c2 : Int32) (c3 : Int32) (c4 : Int32) (c5 : Int32) (h0 : Heap) (n0 : Nat) (Zle : n0 ≤ h0.size) (V_ca : Arv Z h0 ca kc .char (6 : Int32) [(.int c0), (.int c1), (.int c2), (.int c3), (.int c4), (.int c5)] (.int 0)) :
    MetFree l (⟨"com/example/emu/emu/PrefixTableOfPinLaw", "eq", "([CII)Z"⟩ : MethodName) (head1 (Jvm.Cond.code (⟨"com/example/emu/emu/PrefixTableOfPinLaw", "eq", "([CII)Z"⟩ : MethodName) method_5_code 3 (some .boolean) :: ws) ({ frames := 0, cells := 0, slots := 0, locals := 0 } : Room)) (fun a U => a = #[(.ref ca), (.int 1), (.int 5)] ∧ Z.Warmed39 U.vm ∧ U.heap = h0) (fun _ _ _ _ _ => True) (fun _ U o U' => ∃ v L, o = .returned v ∧ Q5_1_5 Z ca kc c0 c1 c2 c3 c4 c5 h0 n0 v U'.heap L ∧ FrameEnd U o U' L ({ frames := 0, cells := 0, slots := 0, locals := 0 } : Room).cells ({ frames := 0, cells := 0, slots := 0, locals := 0 } : Room).slots) := by
  refine MetFree.of_bodySF (plainFor_of_name pn_com_example_emu_emu_PrefixTableOfPinLaw) hisR ?_
  intro p e s m args below meth c s₁ Bd hml0 hP hK
  obtain ⟨rfl, hZ, hh⟩ := hP
  have hx := Bd.exec
  have hby := Bd.bytes
  have hml : c.maxLocals = 3 := hml0
  have hown : s.vm.findClass "com/example/emu/emu/PrefixTableOfPinLaw" = some m.cls := findClass_of_methodNamed Bd.named
  have hnm := (name_of_methodNamed Bd.named Bd.method).1
  have X0 : Stand p l e ({ frames := 0, cells := 0, slots := 0, locals := 0 } : Room) s m #[(.ref ca), (.int 1), (.int 5)] below meth c s₁ [] 0 0 := Stand.of_body Bd
  have e0 : s₁.heap = h0 := by rw [← hh, Bd.state]; rfl
  have N_ := Fr.nil n0
  show own_Goes p.tables e below s (Q5_1_5 Z ca kc c0 c1 c2 c3 c4 c5 h0 n0) ({ frames := 0, cells := 0, slots := 0, locals := 0 } : Room).cells ({ frames := 0, cells := 0, slots := 0, locals := 0 } : Room).slots s₁ (entryFrame m #[(.ref ca), (.int 1), (.int 5)] 3)
  refine own_by (T' := s₁) (g' := (mkF m 0 #[.val (.ref ca), .val (.int 1), .val (.int 5)] [])) (fun t k => castTop (ef_5_1_5 m ca) k) ?_
  refine own_by (T' := s₁) (g' := (mkF m 1 #[.val (.ref ca), .val (.int 1), .val (.int 5)] [(.int 5)])) (fun t k => XS.iloadN X0.here hx rfl (hb hby d5_0) rfl k) ?_
  refine own_by (T' := s₁) (g' := (mkF m 2 #[.val (.ref ca), .val (.int 1), .val (.int 5)] [(.int 1), (.int 5)])) (fun t k => XS.iconst X0.here hx rfl (hb hby d5_1) k) ?_
  refine own_by (T' := s₁) (g' := (mkF m 5 #[.val (.ref ca), .val (.int 1), .val (.int 5)] [])) (fun t k => XS.icmpNo X0.here hx rfl (hb hby d5_2) rfl (flt (by decide)).1 k) ?_
  refine own_by (T' := s₁) (g' := (mkF m 6 #[.val (.ref ca), .val (.int 1), .val (.int 5)] [(.ref ca)])) (fun t k => XS.aloadN X0.here hx rfl (hb hby d5_5) rfl rfl k) ?_
  refine own_by (T' := s₁) (g' := (mkF m 7 #[.val (.ref ca), .val (.int 1), .val (.int 5)] [(.int 0), (.ref ca)])) (fun t k => XS.iconst X0.here hx rfl (hb hby d5_6) k) ?_
  obtain ⟨cl1, Ar1, q1, S1, N1, Hs1, G1⟩ := id V_ca
  have hin1 : ¬ ((0 : Int32) < 0 ∨ cl1.slots.size ≤ ((0 : Int32)).toNatClampNeg) := inb_of S1 ⟨by decide, by decide⟩
  have hat1 : cl1.slots[((0 : Int32)).toNatClampNeg]? = some (.int c0) := Hs1.at hin1 rfl
  refine own_by (T' := s₁) (g' := (mkF m 8 #[.val (.ref ca), .val (.int 1), .val (.int 5)] [(.int c0)])) (fun t k => X0.caload hx (j := (0 : Int32)) (v := (.int c0)) (by rw [e0]; exact Ar1.1) (State.isArrayOf_alike hZ.alike Ar1.2.1) Ar1.2.2 hin1 hat1 (g := (mkF m 7 #[.val (.ref ca), .val (.int 1), .val (.int 5)] [(.int 0), (.ref ca)])) rfl rfl (hb hby d5_7) _ k) ?_
  clear hat1 hin1 G1 Hs1 N1 S1 q1 Ar1 cl1
  refine own_by (T' := s₁) (g' := (mkF m 9 #[.val (.ref ca), .val (.int 1), .val (.int 5)] [(.ref ca), (.int c0)])) (fun t k => XS.aloadN X0.here hx rfl (hb hby d5_8) rfl rfl k) ?_
  refine own_by (T' := s₁) (g' := (mkF m 10 #[.val (.ref ca), .val (.int 1), .val (.int 5)] [(.int 1), (.ref ca), (.int c0)])) (fun t k => XS.iloadN X0.here hx rfl (hb hby d5_9) rfl k) ?_
  obtain ⟨cl2, Ar2, q2, S2, N2, Hs2, G2⟩ := id V_ca
  have hin2 : ¬ ((1 : Int32) < 0 ∨ cl2.slots.size ≤ ((1 : Int32)).toNatClampNeg) := inb_of S2 ⟨by decide, by decide⟩
  have hat2 : cl2.slots[((1 : Int32)).toNatClampNeg]? = some (.int c1) := Hs2.at hin2 rfl
  refine own_by (T' := s₁) (g' := (mkF m 11 #[.val (.ref ca), .val (.int 1), .val (.int 5)] [(.int c1), (.int c0)])) (fun t k => X0.caload hx (j := (1 : Int32)) (v := (.int c1)) (by rw [e0]; exact Ar2.1) (State.isArrayOf_alike hZ.alike Ar2.2.1) Ar2.2.2 hin2 hat2 (g := (mkF m 10 #[.val (.ref ca), .val (.int 1), .val (.int 5)] [(.int 1), (.ref ca), (.int c0)])) rfl rfl (hb hby d5_10) _ k) ?_
  clear hat2 hin2 G2 Hs2 N2 S2 q2 Ar2 cl2
  by_cases hc11_3 : c0 = c1
  · refine own_by (T' := s₁) (g' := (mkF m 14 #[.val (.ref ca), .val (.int 1), .val (.int 5)] [])) (fun t k => XS.icmpNo X0.here hx rfl (hb hby d5_11) rfl (teq hc11_3).2 k) ?_
    refine own_by (T' := s₁) (g' := (mkF m 15 #[.val (.ref ca), .val (.int 1), .val (.int 5)] [(.int 5)])) (fun t k => XS.iloadN X0.here hx rfl (hb hby d5_14) rfl k) ?_
    refine own_by (T' := s₁) (g' := (mkF m 16 #[.val (.ref ca), .val (.int 1), .val (.int 5)] [(.int 2), (.int 5)])) (fun t k => XS.iconst X0.here hx rfl (hb hby d5_15) k) ?_
    refine own_by (T' := s₁) (g' := (mkF m 19 #[.val (.ref ca), .val (.int 1), .val (.int 5)] [])) (fun t k => XS.icmpNo X0.here hx rfl (hb hby d5_16) rfl (flt (by decide)).1 k) ?_
    refine own_by (T' := s₁) (g' := (mkF m 20 #[.val (.ref ca), .val (.int 1), .val (.int 5)] [(.ref ca)])) (fun t k => XS.aloadN X0.here hx rfl (hb hby d5_19) rfl rfl k) ?_
    refine own_by (T' := s₁) (g' := (mkF m 21 #[.val (.ref ca), .val (.int 1), .val (.int 5)] [(.int 1), (.ref ca)])) (fun t k => XS.iconst X0.here hx rfl (hb hby d5_20) k) ?_
    obtain ⟨cl4, Ar4, q4, S4, N4, Hs4, G4⟩ := id V_ca
    have hin4 : ¬ ((1 : Int32) < 0 ∨ cl4.slots.size ≤ ((1 : Int32)).toNatClampNeg) := inb_of S4 ⟨by decide, by decide⟩
    have hat4 : cl4.slots[((1 : Int32)).toNatClampNeg]? = some (.int c1) := Hs4.at hin4 rfl
    refine own_by (T' := s₁) (g' := (mkF m 22 #[.val (.ref ca), .val (.int 1), .val (.int 5)] [(.int c1)])) (fun t k => X0.caload hx (j := (1 : Int32)) (v := (.int c1)) (by rw [e0]; exact Ar4.1) (State.isArrayOf_alike hZ.alike Ar4.2.1) Ar4.2.2 hin4 hat4 (g := (mkF m 21 #[.val (.ref ca), .val (.int 1), .val (.int 5)] [(.int 1), (.ref ca)])) rfl rfl (hb hby d5_21) _ k) ?_
    clear hat4 hin4 G4 Hs4 N4 S4 q4 Ar4 cl4
    refine own_by (T' := s₁) (g' := (mkF m 23 #[.val (.ref ca), .val (.int 1), .val (.int 5)] [(.ref ca), (.int c1)])) (fun t k => XS.aloadN X0.here hx rfl (hb hby d5_22) rfl rfl k) ?_
    refine own_by (T' := s₁) (g' := (mkF m 24 #[.val (.ref ca), .val (.int 1), .val (.int 5)] [(.int 1), (.ref ca), (.int c1)])) (fun t k => XS.iloadN X0.here hx rfl (hb hby d5_23) rfl k) ?_
    refine own_by (T' := s₁) (g' := (mkF m 25 #[.val (.ref ca), .val (.int 1), .val (.int 5)] [(.int 1), (.int 1), (.ref ca), (.int c1)])) (fun t k => XS.iconst X0.here hx rfl (hb hby d5_24) k) ?_
    refine own_by (T' := s₁) (g' := (mkF m 26 #[.val (.ref ca), .val (.int 1), .val (.int 5)] [(.int 2), (.ref ca), (.int c1)])) (fun t k => XS.iadd X0.here hx rfl (hb hby d5_25) rfl k) ?_
    obtain ⟨cl5, Ar5, q5, S5, N5, Hs5, G5⟩ := id V_ca
    have hin5 : ¬ ((2 : Int32) < 0 ∨ cl5.slots.size ≤ ((2 : Int32)).toNatClampNeg) := inb_of S5 ⟨by decide, by decide⟩
    have hat5 : cl5.slots[((2 : Int32)).toNatClampNeg]? = some (.int c2) := Hs5.at hin5 rfl
    refine own_by (T' := s₁) (g' := (mkF m 27 #[.val (.ref ca), .val (.int 1), .val (.int 5)] [(.int c2), (.int c1)])) (fun t k => X0.caload hx (j := (2 : Int32)) (v := (.int c2)) (by rw [e0]; exact Ar5.1) (State.isArrayOf_alike hZ.alike Ar5.2.1) Ar5.2.2 hin5 hat5 (g := (mkF m 26 #[.val (.ref ca), .val (.int 1), .val (.int 5)] [(.int 2), (.ref ca), (.int c1)])) rfl rfl (hb hby d5_26) _ k) ?_
    clear hat5 hin5 G5 Hs5 N5 S5 q5 Ar5 cl5
    by_cases hc27_6 : c1 = c2
    · refine own_by (T' := s₁) (g' := (mkF m 30 #[.val (.ref ca), .val (.int 1), .val (.int 5)] [])) (fun t k => XS.icmpNo X0.here hx rfl (hb hby d5_27) rfl (teq hc27_6).2 k) ?_
      refine own_by (T' := s₁) (g' := (mkF m 31 #[.val (.ref ca), .val (.int 1), .val (.int 5)] [(.int 5)])) (fun t k => XS.iloadN X0.here hx rfl (hb hby d5_30) rfl k) ?_
      refine own_by (T' := s₁) (g' := (mkF m 32 #[.val (.ref ca), .val (.int 1), .val (.int 5)] [(.int 3), (.int 5)])) (fun t k => XS.iconst X0.here hx rfl (hb hby d5_31) k) ?_
      refine own_by (T' := s₁) (g' := (mkF m 35 #[.val (.ref ca), .val (.int 1), .val (.int 5)] [])) (fun t k => XS.icmpNo X0.here hx rfl (hb hby d5_32) rfl (flt (by decide)).1 k) ?_
      refine own_by (T' := s₁) (g' := (mkF m 36 #[.val (.ref ca), .val (.int 1), .val (.int 5)] [(.ref ca)])) (fun t k => XS.aloadN X0.here hx rfl (hb hby d5_35) rfl rfl k) ?_
      refine own_by (T' := s₁) (g' := (mkF m 37 #[.val (.ref ca), .val (.int 1), .val (.int 5)] [(.int 2), (.ref ca)])) (fun t k => XS.iconst X0.here hx rfl (hb hby d5_36) k) ?_
      obtain ⟨cl7, Ar7, q7, S7, N7, Hs7, G7⟩ := id V_ca
      have hin7 : ¬ ((2 : Int32) < 0 ∨ cl7.slots.size ≤ ((2 : Int32)).toNatClampNeg) := inb_of S7 ⟨by decide, by decide⟩
      have hat7 : cl7.slots[((2 : Int32)).toNatClampNeg]? = some (.int c2) := Hs7.at hin7 rfl
      refine own_by (T' := s₁) (g' := (mkF m 38 #[.val (.ref ca), .val (.int 1), .val (.int 5)] [(.int c2)])) (fun t k => X0.caload hx (j := (2 : Int32)) (v := (.int c2)) (by rw [e0]; exact Ar7.1) (State.isArrayOf_alike hZ.alike Ar7.2.1) Ar7.2.2 hin7 hat7 (g := (mkF m 37 #[.val (.ref ca), .val (.int 1), .val (.int 5)] [(.int 2), (.ref ca)])) rfl rfl (hb hby d5_37) _ k) ?_
      clear hat7 hin7 G7 Hs7 N7 S7 q7 Ar7 cl7
      refine own_by (T' := s₁) (g' := (mkF m 39 #[.val (.ref ca), .val (.int 1), .val (.int 5)] [(.ref ca), (.int c2)])) (fun t k => XS.aloadN X0.here hx rfl (hb hby d5_38) rfl rfl k) ?_
      refine own_by (T' := s₁) (g' := (mkF m 40 #[.val (.ref ca), .val (.int 1), .val (.int 5)] [(.int 1), (.ref ca), (.int c2)])) (fun t k => XS.iloadN X0.here hx rfl (hb hby d5_39) rfl k) ?_
      refine own_by (T' := s₁) (g' := (mkF m 41 #[.val (.ref ca), .val (.int 1), .val (.int 5)] [(.int 2), (.int 1), (.ref ca), (.int c2)])) (fun t k => XS.iconst X0.here hx rfl (hb hby d5_40) k) ?_
      refine own_by (T' := s₁) (g' := (mkF m 42 #[.val (.ref ca), .val (.int 1), .val (.int 5)] [(.int 3), (.ref ca), (.int c2)])) (fun t k => XS.iadd X0.here hx rfl (hb hby d5_41) rfl k) ?_
      obtain ⟨cl8, Ar8, q8, S8, N8, Hs8, G8⟩ := id V_ca
      have hin8 : ¬ ((3 : Int32) < 0 ∨ cl8.slots.size ≤ ((3 : Int32)).toNatClampNeg) := inb_of S8 ⟨by decide, by decide⟩
      have hat8 : cl8.slots[((3 : Int32)).toNatClampNeg]? = some (.int c3) := Hs8.at hin8 rfl
      refine own_by (T' := s₁) (g' := (mkF m 43 #[.val (.ref ca), .val (.int 1), .val (.int 5)] [(.int c3), (.int c2)])) (fun t k => X0.caload hx (j := (3 : Int32)) (v := (.int c3)) (by rw [e0]; exact Ar8.1) (State.isArrayOf_alike hZ.alike Ar8.2.1) Ar8.2.2 hin8 hat8 (g := (mkF m 42 #[.val (.ref ca), .val (.int 1), .val (.int 5)] [(.int 3), (.ref ca), (.int c2)])) rfl rfl (hb hby d5_42) _ k) ?_
      clear hat8 hin8 G8 Hs8 N8 S8 q8 Ar8 cl8
      by_cases hc43_9 : c2 = c3
      · refine own_by (T' := s₁) (g' := (mkF m 46 #[.val (.ref ca), .val (.int 1), .val (.int 5)] [])) (fun t k => XS.icmpNo X0.here hx rfl (hb hby d5_43) rfl (teq hc43_9).2 k) ?_
        refine own_by (T' := s₁) (g' := (mkF m 47 #[.val (.ref ca), .val (.int 1), .val (.int 5)] [(.int 5)])) (fun t k => XS.iloadN X0.here hx rfl (hb hby d5_46) rfl k) ?_
        refine own_by (T' := s₁) (g' := (mkF m 48 #[.val (.ref ca), .val (.int 1), .val (.int 5)] [(.int 4), (.int 5)])) (fun t k => XS.iconst X0.here hx rfl (hb hby d5_47) k) ?_
        refine own_by (T' := s₁) (g' := (mkF m 51 #[.val (.ref ca), .val (.int 1), .val (.int 5)] [])) (fun t k => XS.icmpNo X0.here hx rfl (hb hby d5_48) rfl (flt (by decide)).1 k) ?_
        refine own_by (T' := s₁) (g' := (mkF m 52 #[.val (.ref ca), .val (.int 1), .val (.int 5)] [(.ref ca)])) (fun t k => XS.aloadN X0.here hx rfl (hb hby d5_51) rfl rfl k) ?_
        refine own_by (T' := s₁) (g' := (mkF m 53 #[.val (.ref ca), .val (.int 1), .val (.int 5)] [(.int 3), (.ref ca)])) (fun t k => XS.iconst X0.here hx rfl (hb hby d5_52) k) ?_
        obtain ⟨cl10, Ar10, q10, S10, N10, Hs10, G10⟩ := id V_ca
        have hin10 : ¬ ((3 : Int32) < 0 ∨ cl10.slots.size ≤ ((3 : Int32)).toNatClampNeg) := inb_of S10 ⟨by decide, by decide⟩
        have hat10 : cl10.slots[((3 : Int32)).toNatClampNeg]? = some (.int c3) := Hs10.at hin10 rfl
        refine own_by (T' := s₁) (g' := (mkF m 54 #[.val (.ref ca), .val (.int 1), .val (.int 5)] [(.int c3)])) (fun t k => X0.caload hx (j := (3 : Int32)) (v := (.int c3)) (by rw [e0]; exact Ar10.1) (State.isArrayOf_alike hZ.alike Ar10.2.1) Ar10.2.2 hin10 hat10 (g := (mkF m 53 #[.val (.ref ca), .val (.int 1), .val (.int 5)] [(.int 3), (.ref ca)])) rfl rfl (hb hby d5_53) _ k) ?_
        clear hat10 hin10 G10 Hs10 N10 S10 q10 Ar10 cl10
        refine own_by (T' := s₁) (g' := (mkF m 55 #[.val (.ref ca), .val (.int 1), .val (.int 5)] [(.ref ca), (.int c3)])) (fun t k => XS.aloadN X0.here hx rfl (hb hby d5_54) rfl rfl k) ?_
        refine own_by (T' := s₁) (g' := (mkF m 56 #[.val (.ref ca), .val (.int 1), .val (.int 5)] [(.int 1), (.ref ca), (.int c3)])) (fun t k => XS.iloadN X0.here hx rfl (hb hby d5_55) rfl k) ?_
        refine own_by (T' := s₁) (g' := (mkF m 57 #[.val (.ref ca), .val (.int 1), .val (.int 5)] [(.int 3), (.int 1), (.ref ca), (.int c3)])) (fun t k => XS.iconst X0.here hx rfl (hb hby d5_56) k) ?_
        refine own_by (T' := s₁) (g' := (mkF m 58 #[.val (.ref ca), .val (.int 1), .val (.int 5)] [(.int 4), (.ref ca), (.int c3)])) (fun t k => XS.iadd X0.here hx rfl (hb hby d5_57) rfl k) ?_
        obtain ⟨cl11, Ar11, q11, S11, N11, Hs11, G11⟩ := id V_ca
        have hin11 : ¬ ((4 : Int32) < 0 ∨ cl11.slots.size ≤ ((4 : Int32)).toNatClampNeg) := inb_of S11 ⟨by decide, by decide⟩
        have hat11 : cl11.slots[((4 : Int32)).toNatClampNeg]? = some (.int c4) := Hs11.at hin11 rfl
        refine own_by (T' := s₁) (g' := (mkF m 59 #[.val (.ref ca), .val (.int 1), .val (.int 5)] [(.int c4), (.int c3)])) (fun t k => X0.caload hx (j := (4 : Int32)) (v := (.int c4)) (by rw [e0]; exact Ar11.1) (State.isArrayOf_alike hZ.alike Ar11.2.1) Ar11.2.2 hin11 hat11 (g := (mkF m 58 #[.val (.ref ca), .val (.int 1), .val (.int 5)] [(.int 4), (.ref ca), (.int c3)])) rfl rfl (hb hby d5_58) _ k) ?_
        clear hat11 hin11 G11 Hs11 N11 S11 q11 Ar11 cl11
        by_cases hc59_12 : c3 = c4
        · refine own_by (T' := s₁) (g' := (mkF m 62 #[.val (.ref ca), .val (.int 1), .val (.int 5)] [])) (fun t k => XS.icmpNo X0.here hx rfl (hb hby d5_59) rfl (teq hc59_12).2 k) ?_
          refine own_by (T' := s₁) (g' := (mkF m 63 #[.val (.ref ca), .val (.int 1), .val (.int 5)] [(.int 5)])) (fun t k => XS.iloadN X0.here hx rfl (hb hby d5_62) rfl k) ?_
          refine own_by (T' := s₁) (g' := (mkF m 64 #[.val (.ref ca), .val (.int 1), .val (.int 5)] [(.int 5), (.int 5)])) (fun t k => XS.iconst X0.here hx rfl (hb hby d5_63) k) ?_
          refine own_by (T' := s₁) (g' := (mkF m 67 #[.val (.ref ca), .val (.int 1), .val (.int 5)] [])) (fun t k => XS.icmpNo X0.here hx rfl (hb hby d5_64) rfl (flt (by decide)).1 k) ?_
          refine own_by (T' := s₁) (g' := (mkF m 68 #[.val (.ref ca), .val (.int 1), .val (.int 5)] [(.ref ca)])) (fun t k => XS.aloadN X0.here hx rfl (hb hby d5_67) rfl rfl k) ?_
          refine own_by (T' := s₁) (g' := (mkF m 69 #[.val (.ref ca), .val (.int 1), .val (.int 5)] [(.int 4), (.ref ca)])) (fun t k => XS.iconst X0.here hx rfl (hb hby d5_68) k) ?_
          obtain ⟨cl13, Ar13, q13, S13, N13, Hs13, G13⟩ := id V_ca
          have hin13 : ¬ ((4 : Int32) < 0 ∨ cl13.slots.size ≤ ((4 : Int32)).toNatClampNeg) := inb_of S13 ⟨by decide, by decide⟩
          have hat13 : cl13.slots[((4 : Int32)).toNatClampNeg]? = some (.int c4) := Hs13.at hin13 rfl
          refine own_by (T' := s₁) (g' := (mkF m 70 #[.val (.ref ca), .val (.int 1), .val (.int 5)] [(.int c4)])) (fun t k => X0.caload hx (j := (4 : Int32)) (v := (.int c4)) (by rw [e0]; exact Ar13.1) (State.isArrayOf_alike hZ.alike Ar13.2.1) Ar13.2.2 hin13 hat13 (g := (mkF m 69 #[.val (.ref ca), .val (.int 1), .val (.int 5)] [(.int 4), (.ref ca)])) rfl rfl (hb hby d5_69) _ k) ?_
          clear hat13 hin13 G13 Hs13 N13 S13 q13 Ar13 cl13
          refine own_by (T' := s₁) (g' := (mkF m 71 #[.val (.ref ca), .val (.int 1), .val (.int 5)] [(.ref ca), (.int c4)])) (fun t k => XS.aloadN X0.here hx rfl (hb hby d5_70) rfl rfl k) ?_
          refine own_by (T' := s₁) (g' := (mkF m 72 #[.val (.ref ca), .val (.int 1), .val (.int 5)] [(.int 1), (.ref ca), (.int c4)])) (fun t k => XS.iloadN X0.here hx rfl (hb hby d5_71) rfl k) ?_
          refine own_by (T' := s₁) (g' := (mkF m 73 #[.val (.ref ca), .val (.int 1), .val (.int 5)] [(.int 4), (.int 1), (.ref ca), (.int c4)])) (fun t k => XS.iconst X0.here hx rfl (hb hby d5_72) k) ?_
          refine own_by (T' := s₁) (g' := (mkF m 74 #[.val (.ref ca), .val (.int 1), .val (.int 5)] [(.int 5), (.ref ca), (.int c4)])) (fun t k => XS.iadd X0.here hx rfl (hb hby d5_73) rfl k) ?_
          obtain ⟨cl14, Ar14, q14, S14, N14, Hs14, G14⟩ := id V_ca
          have hin14 : ¬ ((5 : Int32) < 0 ∨ cl14.slots.size ≤ ((5 : Int32)).toNatClampNeg) := inb_of S14 ⟨by decide, by decide⟩
          have hat14 : cl14.slots[((5 : Int32)).toNatClampNeg]? = some (.int c5) := Hs14.at hin14 rfl
          refine own_by (T' := s₁) (g' := (mkF m 75 #[.val (.ref ca), .val (.int 1), .val (.int 5)] [(.int c5), (.int c4)])) (fun t k => X0.caload hx (j := (5 : Int32)) (v := (.int c5)) (by rw [e0]; exact Ar14.1) (State.isArrayOf_alike hZ.alike Ar14.2.1) Ar14.2.2 hin14 hat14 (g := (mkF m 74 #[.val (.ref ca), .val (.int 1), .val (.int 5)] [(.int 5), (.ref ca), (.int c4)])) rfl rfl (hb hby d5_74) _ k) ?_
          clear hat14 hin14 G14 Hs14 N14 S14 q14 Ar14 cl14
          by_cases hc75_15 : c4 = c5
          · refine own_by (T' := s₁) (g' := (mkF m 78 #[.val (.ref ca), .val (.int 1), .val (.int 5)] [])) (fun t k => XS.icmpNo X0.here hx rfl (hb hby d5_75) rfl (teq hc75_15).2 k) ?_
            refine own_by (T' := s₁) (g' := (mkF m 79 #[.val (.ref ca), .val (.int 1), .val (.int 5)] [(.int 1)])) (fun t k => XS.iconst X0.here hx rfl (hb hby d5_78) k) ?_
            refine own_by (T' := s₁) (g' := (mkF m 83 #[.val (.ref ca), .val (.int 1), .val (.int 5)] [(.int 1)])) (fun t k => XS.goto X0.here hx rfl (pc0 := 79) (pc' := 83) rfl (hb hby d5_79) (by decide) (by decide) k) ?_
            exact own_retN X0 hx (t := .boolean) Bd.notSynchronized Bd.returns (by simp) (hb hby d5_83) (by decide) (by decide) (by rw [e0]; exact ⟨by unfold own_eq1_5; rw [if_pos hc11_3, if_pos hc27_6, if_pos hc43_9, if_pos hc59_12, if_pos hc75_15] <;> rfl, N_, rfl⟩)
          · refine own_by (T' := s₁) (g' := (mkF m 82 #[.val (.ref ca), .val (.int 1), .val (.int 5)] [])) (fun t k => XS.icmpYes X0.here hx rfl (pc0 := 75) (pc' := 82) rfl (hb hby d5_75) rfl (feq hc75_15).2 (by decide) (by decide) k) ?_
            refine own_by (T' := s₁) (g' := (mkF m 83 #[.val (.ref ca), .val (.int 1), .val (.int 5)] [(.int 0)])) (fun t k => XS.iconst X0.here hx rfl (hb hby d5_82) k) ?_
            exact own_retN X0 hx (t := .boolean) Bd.notSynchronized Bd.returns (by simp) (hb hby d5_83) (by decide) (by decide) (by rw [e0]; exact ⟨by unfold own_eq1_5; rw [if_pos hc11_3, if_pos hc27_6, if_pos hc43_9, if_pos hc59_12, if_neg hc75_15] <;> rfl, N_, rfl⟩)
        · refine own_by (T' := s₁) (g' := (mkF m 82 #[.val (.ref ca), .val (.int 1), .val (.int 5)] [])) (fun t k => XS.icmpYes X0.here hx rfl (pc0 := 59) (pc' := 82) rfl (hb hby d5_59) rfl (feq hc59_12).2 (by decide) (by decide) k) ?_
          refine own_by (T' := s₁) (g' := (mkF m 83 #[.val (.ref ca), .val (.int 1), .val (.int 5)] [(.int 0)])) (fun t k => XS.iconst X0.here hx rfl (hb hby d5_82) k) ?_
          exact own_retN X0 hx (t := .boolean) Bd.notSynchronized Bd.returns (by simp) (hb hby d5_83) (by decide) (by decide) (by rw [e0]; exact ⟨by unfold own_eq1_5; rw [if_pos hc11_3, if_pos hc27_6, if_pos hc43_9, if_neg hc59_12] <;> rfl, N_, rfl⟩)
      · refine own_by (T' := s₁) (g' := (mkF m 82 #[.val (.ref ca), .val (.int 1), .val (.int 5)] [])) (fun t k => XS.icmpYes X0.here hx rfl (pc0 := 43) (pc' := 82) rfl (hb hby d5_43) rfl (feq hc43_9).2 (by decide) (by decide) k) ?_
        refine own_by (T' := s₁) (g' := (mkF m 83 #[.val (.ref ca), .val (.int 1), .val (.int 5)] [(.int 0)])) (fun t k => XS.iconst X0.here hx rfl (hb hby d5_82) k) ?_
        exact own_retN X0 hx (t := .boolean) Bd.notSynchronized Bd.returns (by simp) (hb hby d5_83) (by decide) (by decide) (by rw [e0]; exact ⟨by unfold own_eq1_5; rw [if_pos hc11_3, if_pos hc27_6, if_neg hc43_9] <;> rfl, N_, rfl⟩)
    · refine own_by (T' := s₁) (g' := (mkF m 82 #[.val (.ref ca), .val (.int 1), .val (.int 5)] [])) (fun t k => XS.icmpYes X0.here hx rfl (pc0 := 27) (pc' := 82) rfl (hb hby d5_27) rfl (feq hc27_6).2 (by decide) (by decide) k) ?_
      refine own_by (T' := s₁) (g' := (mkF m 83 #[.val (.ref ca), .val (.int 1), .val (.int 5)] [(.int 0)])) (fun t k => XS.iconst X0.here hx rfl (hb hby d5_82) k) ?_
      exact own_retN X0 hx (t := .boolean) Bd.notSynchronized Bd.returns (by simp) (hb hby d5_83) (by decide) (by decide) (by rw [e0]; exact ⟨by unfold own_eq1_5; rw [if_pos hc11_3, if_neg hc27_6] <;> rfl, N_, rfl⟩)
  · refine own_by (T' := s₁) (g' := (mkF m 82 #[.val (.ref ca), .val (.int 1), .val (.int 5)] [])) (fun t k => XS.icmpYes X0.here hx rfl (pc0 := 11) (pc' := 82) rfl (hb hby d5_11) rfl (feq hc11_3).2 (by decide) (by decide) k) ?_
    refine own_by (T' := s₁) (g' := (mkF m 83 #[.val (.ref ca), .val (.int 1), .val (.int 5)] [(.int 0)])) (fun t k => XS.iconst X0.here hx rfl (hb hby d5_82) k) ?_
    exact own_retN X0 hx (t := .boolean) Bd.notSynchronized Bd.returns (by simp) (hb hby d5_83) (by decide) (by decide) (by rw [e0]; exact ⟨by unfold own_eq1_5; rw [if_neg hc11_3] <;> rfl, N_, rfl⟩)

def Q5_2_1 (Z : State) (ca : Addr) (kc : ClassId) (c0 : Int32) (c1 : Int32) (c2 : Int32) (c3 : Int32) (c4 : Int32) (c5 : Int32) (h0 : Heap) (n0 : Nat) (v : Option Value) (h : Heap) (L : List Loc) : Prop := v = some (.int (own_eq2_1 c0 c1 c2 c3 c4 c5)) ∧ Fr n0 L ∧ h = h0
theorem ef_5_2_1 (m : MethodId) (ca : Addr) : entryFrame m #[(.ref ca), (.int 2), (.int 1)] 3 = mkF m 0 #[.val (.ref ca), .val (.int 2), .val (.int 1)] [] := by first | (simp [entryFrame, mkF, argsToLocals, Value.category]; done) | rfl
set_option maxRecDepth 65536 in
set_option maxHeartbeats 40000000 in
theorem rm5_2_1 (l : Launch) (Z : State) (a0 : Array Value) (hw : ∀ d ∈ tables_1, d.before a0 Z = true) (ws : List Jvm.Cond) (ca : Addr) (kc : ClassId) (c0 : Int32) (c1 : Int32) (c2 : Int32) (c3 : Int32) (c4 : Int32) (c5 : Int32) (h0 : Heap) (n0 : Nat) (Zle : n0 ≤ h0.size) (V_ca : Arv Z h0 ca kc .char (6 : Int32) [(.int c0), (.int c1), (.int c2), (.int c3), (.int c4), (.int c5)] (.int 0)) :
    MetFree l (⟨"com/example/emu/emu/PrefixTableOfPinLaw", "eq", "([CII)Z"⟩ : MethodName) (head1 (Jvm.Cond.code (⟨"com/example/emu/emu/PrefixTableOfPinLaw", "eq", "([CII)Z"⟩ : MethodName) method_5_code 3 (some .boolean) :: ws) ({ frames := 0, cells := 0, slots := 0, locals := 0 } : Room)) (fun a U => a = #[(.ref ca), (.int 2), (.int 1)] ∧ Z.Warmed39 U.vm ∧ U.heap = h0) (fun _ _ _ _ _ => True) (fun _ U o U' => ∃ v L, o = .returned v ∧ Q5_2_1 Z ca kc c0 c1 c2 c3 c4 c5 h0 n0 v U'.heap L ∧ FrameEnd U o U' L ({ frames := 0, cells := 0, slots := 0, locals := 0 } : Room).cells ({ frames := 0, cells := 0, slots := 0, locals := 0 } : Room).slots) := by
  refine MetFree.of_bodySF (plainFor_of_name pn_com_example_emu_emu_PrefixTableOfPinLaw) hisR ?_
  intro p e s m args below meth c s₁ Bd hml0 hP hK
  obtain ⟨rfl, hZ, hh⟩ := hP
  have hx := Bd.exec
  have hby := Bd.bytes
  have hml : c.maxLocals = 3 := hml0
  have hown : s.vm.findClass "com/example/emu/emu/PrefixTableOfPinLaw" = some m.cls := findClass_of_methodNamed Bd.named
  have hnm := (name_of_methodNamed Bd.named Bd.method).1
  have X0 : Stand p l e ({ frames := 0, cells := 0, slots := 0, locals := 0 } : Room) s m #[(.ref ca), (.int 2), (.int 1)] below meth c s₁ [] 0 0 := Stand.of_body Bd
  have e0 : s₁.heap = h0 := by rw [← hh, Bd.state]; rfl
  have N_ := Fr.nil n0
  show own_Goes p.tables e below s (Q5_2_1 Z ca kc c0 c1 c2 c3 c4 c5 h0 n0) ({ frames := 0, cells := 0, slots := 0, locals := 0 } : Room).cells ({ frames := 0, cells := 0, slots := 0, locals := 0 } : Room).slots s₁ (entryFrame m #[(.ref ca), (.int 2), (.int 1)] 3)
  refine own_by (T' := s₁) (g' := (mkF m 0 #[.val (.ref ca), .val (.int 2), .val (.int 1)] [])) (fun t k => castTop (ef_5_2_1 m ca) k) ?_
  refine own_by (T' := s₁) (g' := (mkF m 1 #[.val (.ref ca), .val (.int 2), .val (.int 1)] [(.int 1)])) (fun t k => XS.iloadN X0.here hx rfl (hb hby d5_0) rfl k) ?_
  refine own_by (T' := s₁) (g' := (mkF m 2 #[.val (.ref ca), .val (.int 2), .val (.int 1)] [(.int 1), (.int 1)])) (fun t k => XS.iconst X0.here hx rfl (hb hby d5_1) k) ?_
  refine own_by (T' := s₁) (g' := (mkF m 5 #[.val (.ref ca), .val (.int 2), .val (.int 1)] [])) (fun t k => XS.icmpNo X0.here hx rfl (hb hby d5_2) rfl (flt (by decide)).1 k) ?_
  refine own_by (T' := s₁) (g' := (mkF m 6 #[.val (.ref ca), .val (.int 2), .val (.int 1)] [(.ref ca)])) (fun t k => XS.aloadN X0.here hx rfl (hb hby d5_5) rfl rfl k) ?_
  refine own_by (T' := s₁) (g' := (mkF m 7 #[.val (.ref ca), .val (.int 2), .val (.int 1)] [(.int 0), (.ref ca)])) (fun t k => XS.iconst X0.here hx rfl (hb hby d5_6) k) ?_
  obtain ⟨cl1, Ar1, q1, S1, N1, Hs1, G1⟩ := id V_ca
  have hin1 : ¬ ((0 : Int32) < 0 ∨ cl1.slots.size ≤ ((0 : Int32)).toNatClampNeg) := inb_of S1 ⟨by decide, by decide⟩
  have hat1 : cl1.slots[((0 : Int32)).toNatClampNeg]? = some (.int c0) := Hs1.at hin1 rfl
  refine own_by (T' := s₁) (g' := (mkF m 8 #[.val (.ref ca), .val (.int 2), .val (.int 1)] [(.int c0)])) (fun t k => X0.caload hx (j := (0 : Int32)) (v := (.int c0)) (by rw [e0]; exact Ar1.1) (State.isArrayOf_alike hZ.alike Ar1.2.1) Ar1.2.2 hin1 hat1 (g := (mkF m 7 #[.val (.ref ca), .val (.int 2), .val (.int 1)] [(.int 0), (.ref ca)])) rfl rfl (hb hby d5_7) _ k) ?_
  clear hat1 hin1 G1 Hs1 N1 S1 q1 Ar1 cl1
  refine own_by (T' := s₁) (g' := (mkF m 9 #[.val (.ref ca), .val (.int 2), .val (.int 1)] [(.ref ca), (.int c0)])) (fun t k => XS.aloadN X0.here hx rfl (hb hby d5_8) rfl rfl k) ?_
  refine own_by (T' := s₁) (g' := (mkF m 10 #[.val (.ref ca), .val (.int 2), .val (.int 1)] [(.int 2), (.ref ca), (.int c0)])) (fun t k => XS.iloadN X0.here hx rfl (hb hby d5_9) rfl k) ?_
  obtain ⟨cl2, Ar2, q2, S2, N2, Hs2, G2⟩ := id V_ca
  have hin2 : ¬ ((2 : Int32) < 0 ∨ cl2.slots.size ≤ ((2 : Int32)).toNatClampNeg) := inb_of S2 ⟨by decide, by decide⟩
  have hat2 : cl2.slots[((2 : Int32)).toNatClampNeg]? = some (.int c2) := Hs2.at hin2 rfl
  refine own_by (T' := s₁) (g' := (mkF m 11 #[.val (.ref ca), .val (.int 2), .val (.int 1)] [(.int c2), (.int c0)])) (fun t k => X0.caload hx (j := (2 : Int32)) (v := (.int c2)) (by rw [e0]; exact Ar2.1) (State.isArrayOf_alike hZ.alike Ar2.2.1) Ar2.2.2 hin2 hat2 (g := (mkF m 10 #[.val (.ref ca), .val (.int 2), .val (.int 1)] [(.int 2), (.ref ca), (.int c0)])) rfl rfl (hb hby d5_10) _ k) ?_
  clear hat2 hin2 G2 Hs2 N2 S2 q2 Ar2 cl2
  by_cases hc11_3 : c0 = c2
  · refine own_by (T' := s₁) (g' := (mkF m 14 #[.val (.ref ca), .val (.int 2), .val (.int 1)] [])) (fun t k => XS.icmpNo X0.here hx rfl (hb hby d5_11) rfl (teq hc11_3).2 k) ?_
    refine own_by (T' := s₁) (g' := (mkF m 15 #[.val (.ref ca), .val (.int 2), .val (.int 1)] [(.int 1)])) (fun t k => XS.iloadN X0.here hx rfl (hb hby d5_14) rfl k) ?_
    refine own_by (T' := s₁) (g' := (mkF m 16 #[.val (.ref ca), .val (.int 2), .val (.int 1)] [(.int 2), (.int 1)])) (fun t k => XS.iconst X0.here hx rfl (hb hby d5_15) k) ?_
    refine own_by (T' := s₁) (g' := (mkF m 30 #[.val (.ref ca), .val (.int 2), .val (.int 1)] [])) (fun t k => XS.icmpYes X0.here hx rfl (pc0 := 16) (pc' := 30) rfl (hb hby d5_16) rfl (tlt (by decide)).1 (by decide) (by decide) k) ?_
    refine own_by (T' := s₁) (g' := (mkF m 31 #[.val (.ref ca), .val (.int 2), .val (.int 1)] [(.int 1)])) (fun t k => XS.iloadN X0.here hx rfl (hb hby d5_30) rfl k) ?_
    refine own_by (T' := s₁) (g' := (mkF m 32 #[.val (.ref ca), .val (.int 2), .val (.int 1)] [(.int 3), (.int 1)])) (fun t k => XS.iconst X0.here hx rfl (hb hby d5_31) k) ?_
    refine own_by (T' := s₁) (g' := (mkF m 46 #[.val (.ref ca), .val (.int 2), .val (.int 1)] [])) (fun t k => XS.icmpYes X0.here hx rfl (pc0 := 32) (pc' := 46) rfl (hb hby d5_32) rfl (tlt (by decide)).1 (by decide) (by decide) k) ?_
    refine own_by (T' := s₁) (g' := (mkF m 47 #[.val (.ref ca), .val (.int 2), .val (.int 1)] [(.int 1)])) (fun t k => XS.iloadN X0.here hx rfl (hb hby d5_46) rfl k) ?_
    refine own_by (T' := s₁) (g' := (mkF m 48 #[.val (.ref ca), .val (.int 2), .val (.int 1)] [(.int 4), (.int 1)])) (fun t k => XS.iconst X0.here hx rfl (hb hby d5_47) k) ?_
    refine own_by (T' := s₁) (g' := (mkF m 62 #[.val (.ref ca), .val (.int 2), .val (.int 1)] [])) (fun t k => XS.icmpYes X0.here hx rfl (pc0 := 48) (pc' := 62) rfl (hb hby d5_48) rfl (tlt (by decide)).1 (by decide) (by decide) k) ?_
    refine own_by (T' := s₁) (g' := (mkF m 63 #[.val (.ref ca), .val (.int 2), .val (.int 1)] [(.int 1)])) (fun t k => XS.iloadN X0.here hx rfl (hb hby d5_62) rfl k) ?_
    refine own_by (T' := s₁) (g' := (mkF m 64 #[.val (.ref ca), .val (.int 2), .val (.int 1)] [(.int 5), (.int 1)])) (fun t k => XS.iconst X0.here hx rfl (hb hby d5_63) k) ?_
    refine own_by (T' := s₁) (g' := (mkF m 78 #[.val (.ref ca), .val (.int 2), .val (.int 1)] [])) (fun t k => XS.icmpYes X0.here hx rfl (pc0 := 64) (pc' := 78) rfl (hb hby d5_64) rfl (tlt (by decide)).1 (by decide) (by decide) k) ?_
    refine own_by (T' := s₁) (g' := (mkF m 79 #[.val (.ref ca), .val (.int 2), .val (.int 1)] [(.int 1)])) (fun t k => XS.iconst X0.here hx rfl (hb hby d5_78) k) ?_
    refine own_by (T' := s₁) (g' := (mkF m 83 #[.val (.ref ca), .val (.int 2), .val (.int 1)] [(.int 1)])) (fun t k => XS.goto X0.here hx rfl (pc0 := 79) (pc' := 83) rfl (hb hby d5_79) (by decide) (by decide) k) ?_
    exact own_retN X0 hx (t := .boolean) Bd.notSynchronized Bd.returns (by simp) (hb hby d5_83) (by decide) (by decide) (by rw [e0]; exact ⟨by unfold own_eq2_1; rw [if_pos hc11_3] <;> rfl, N_, rfl⟩)
  · refine own_by (T' := s₁) (g' := (mkF m 82 #[.val (.ref ca), .val (.int 2), .val (.int 1)] [])) (fun t k => XS.icmpYes X0.here hx rfl (pc0 := 11) (pc' := 82) rfl (hb hby d5_11) rfl (feq hc11_3).2 (by decide) (by decide) k) ?_
    refine own_by (T' := s₁) (g' := (mkF m 83 #[.val (.ref ca), .val (.int 2), .val (.int 1)] [(.int 0)])) (fun t k => XS.iconst X0.here hx rfl (hb hby d5_82) k) ?_
    exact own_retN X0 hx (t := .boolean) Bd.notSynchronized Bd.returns (by simp) (hb hby d5_83) (by decide) (by decide) (by rw [e0]; exact ⟨by unfold own_eq2_1; rw [if_neg hc11_3] <;> rfl, N_, rfl⟩)

def Q5_2_2 (Z : State) (ca : Addr) (kc : ClassId) (c0 : Int32) (c1 : Int32) (c2 : Int32) (c3 : Int32) (c4 : Int32) (c5 : Int32) (h0 : Heap) (n0 : Nat) (v : Option Value) (h : Heap) (L : List Loc) : Prop := v = some (.int (own_eq2_2 c0 c1 c2 c3 c4 c5)) ∧ Fr n0 L ∧ h = h0
theorem ef_5_2_2 (m : MethodId) (ca : Addr) : entryFrame m #[(.ref ca), (.int 2), (.int 2)] 3 = mkF m 0 #[.val (.ref ca), .val (.int 2), .val (.int 2)] [] := by first | (simp [entryFrame, mkF, argsToLocals, Value.category]; done) | rfl
set_option maxRecDepth 65536 in
set_option maxHeartbeats 40000000 in
theorem rm5_2_2 (l : Launch) (Z : State) (a0 : Array Value) (hw : ∀ d ∈ tables_1, d.before a0 Z = true) (ws : List Jvm.Cond) (ca : Addr) (kc : ClassId) (c0 : Int32) (c1 : Int32) (c2 : Int32) (c3 : Int32) (c4 : Int32) (c5 : Int32) (h0 : Heap) (n0 : Nat) (Zle : n0 ≤ h0.size) (V_ca : Arv Z h0 ca kc .char (6 : Int32) [(.int c0), (.int c1), (.int c2), (.int c3), (.int c4), (.int c5)] (.int 0)) :
    MetFree l (⟨"com/example/emu/emu/PrefixTableOfPinLaw", "eq", "([CII)Z"⟩ : MethodName) (head1 (Jvm.Cond.code (⟨"com/example/emu/emu/PrefixTableOfPinLaw", "eq", "([CII)Z"⟩ : MethodName) method_5_code 3 (some .boolean) :: ws) ({ frames := 0, cells := 0, slots := 0, locals := 0 } : Room)) (fun a U => a = #[(.ref ca), (.int 2), (.int 2)] ∧ Z.Warmed39 U.vm ∧ U.heap = h0) (fun _ _ _ _ _ => True) (fun _ U o U' => ∃ v L, o = .returned v ∧ Q5_2_2 Z ca kc c0 c1 c2 c3 c4 c5 h0 n0 v U'.heap L ∧ FrameEnd U o U' L ({ frames := 0, cells := 0, slots := 0, locals := 0 } : Room).cells ({ frames := 0, cells := 0, slots := 0, locals := 0 } : Room).slots) := by
  refine MetFree.of_bodySF (plainFor_of_name pn_com_example_emu_emu_PrefixTableOfPinLaw) hisR ?_
  intro p e s m args below meth c s₁ Bd hml0 hP hK
  obtain ⟨rfl, hZ, hh⟩ := hP
  have hx := Bd.exec
  have hby := Bd.bytes
  have hml : c.maxLocals = 3 := hml0
  have hown : s.vm.findClass "com/example/emu/emu/PrefixTableOfPinLaw" = some m.cls := findClass_of_methodNamed Bd.named
  have hnm := (name_of_methodNamed Bd.named Bd.method).1
  have X0 : Stand p l e ({ frames := 0, cells := 0, slots := 0, locals := 0 } : Room) s m #[(.ref ca), (.int 2), (.int 2)] below meth c s₁ [] 0 0 := Stand.of_body Bd
  have e0 : s₁.heap = h0 := by rw [← hh, Bd.state]; rfl
  have N_ := Fr.nil n0
  show own_Goes p.tables e below s (Q5_2_2 Z ca kc c0 c1 c2 c3 c4 c5 h0 n0) ({ frames := 0, cells := 0, slots := 0, locals := 0 } : Room).cells ({ frames := 0, cells := 0, slots := 0, locals := 0 } : Room).slots s₁ (entryFrame m #[(.ref ca), (.int 2), (.int 2)] 3)
  refine own_by (T' := s₁) (g' := (mkF m 0 #[.val (.ref ca), .val (.int 2), .val (.int 2)] [])) (fun t k => castTop (ef_5_2_2 m ca) k) ?_
  refine own_by (T' := s₁) (g' := (mkF m 1 #[.val (.ref ca), .val (.int 2), .val (.int 2)] [(.int 2)])) (fun t k => XS.iloadN X0.here hx rfl (hb hby d5_0) rfl k) ?_
  refine own_by (T' := s₁) (g' := (mkF m 2 #[.val (.ref ca), .val (.int 2), .val (.int 2)] [(.int 1), (.int 2)])) (fun t k => XS.iconst X0.here hx rfl (hb hby d5_1) k) ?_
  refine own_by (T' := s₁) (g' := (mkF m 5 #[.val (.ref ca), .val (.int 2), .val (.int 2)] [])) (fun t k => XS.icmpNo X0.here hx rfl (hb hby d5_2) rfl (flt (by decide)).1 k) ?_
  refine own_by (T' := s₁) (g' := (mkF m 6 #[.val (.ref ca), .val (.int 2), .val (.int 2)] [(.ref ca)])) (fun t k => XS.aloadN X0.here hx rfl (hb hby d5_5) rfl rfl k) ?_
  refine own_by (T' := s₁) (g' := (mkF m 7 #[.val (.ref ca), .val (.int 2), .val (.int 2)] [(.int 0), (.ref ca)])) (fun t k => XS.iconst X0.here hx rfl (hb hby d5_6) k) ?_
  obtain ⟨cl1, Ar1, q1, S1, N1, Hs1, G1⟩ := id V_ca
  have hin1 : ¬ ((0 : Int32) < 0 ∨ cl1.slots.size ≤ ((0 : Int32)).toNatClampNeg) := inb_of S1 ⟨by decide, by decide⟩
  have hat1 : cl1.slots[((0 : Int32)).toNatClampNeg]? = some (.int c0) := Hs1.at hin1 rfl
  refine own_by (T' := s₁) (g' := (mkF m 8 #[.val (.ref ca), .val (.int 2), .val (.int 2)] [(.int c0)])) (fun t k => X0.caload hx (j := (0 : Int32)) (v := (.int c0)) (by rw [e0]; exact Ar1.1) (State.isArrayOf_alike hZ.alike Ar1.2.1) Ar1.2.2 hin1 hat1 (g := (mkF m 7 #[.val (.ref ca), .val (.int 2), .val (.int 2)] [(.int 0), (.ref ca)])) rfl rfl (hb hby d5_7) _ k) ?_
  clear hat1 hin1 G1 Hs1 N1 S1 q1 Ar1 cl1
  refine own_by (T' := s₁) (g' := (mkF m 9 #[.val (.ref ca), .val (.int 2), .val (.int 2)] [(.ref ca), (.int c0)])) (fun t k => XS.aloadN X0.here hx rfl (hb hby d5_8) rfl rfl k) ?_
  refine own_by (T' := s₁) (g' := (mkF m 10 #[.val (.ref ca), .val (.int 2), .val (.int 2)] [(.int 2), (.ref ca), (.int c0)])) (fun t k => XS.iloadN X0.here hx rfl (hb hby d5_9) rfl k) ?_
  obtain ⟨cl2, Ar2, q2, S2, N2, Hs2, G2⟩ := id V_ca
  have hin2 : ¬ ((2 : Int32) < 0 ∨ cl2.slots.size ≤ ((2 : Int32)).toNatClampNeg) := inb_of S2 ⟨by decide, by decide⟩
  have hat2 : cl2.slots[((2 : Int32)).toNatClampNeg]? = some (.int c2) := Hs2.at hin2 rfl
  refine own_by (T' := s₁) (g' := (mkF m 11 #[.val (.ref ca), .val (.int 2), .val (.int 2)] [(.int c2), (.int c0)])) (fun t k => X0.caload hx (j := (2 : Int32)) (v := (.int c2)) (by rw [e0]; exact Ar2.1) (State.isArrayOf_alike hZ.alike Ar2.2.1) Ar2.2.2 hin2 hat2 (g := (mkF m 10 #[.val (.ref ca), .val (.int 2), .val (.int 2)] [(.int 2), (.ref ca), (.int c0)])) rfl rfl (hb hby d5_10) _ k) ?_
  clear hat2 hin2 G2 Hs2 N2 S2 q2 Ar2 cl2
  by_cases hc11_3 : c0 = c2
  · refine own_by (T' := s₁) (g' := (mkF m 14 #[.val (.ref ca), .val (.int 2), .val (.int 2)] [])) (fun t k => XS.icmpNo X0.here hx rfl (hb hby d5_11) rfl (teq hc11_3).2 k) ?_
    refine own_by (T' := s₁) (g' := (mkF m 15 #[.val (.ref ca), .val (.int 2), .val (.int 2)] [(.int 2)])) (fun t k => XS.iloadN X0.here hx rfl (hb hby d5_14) rfl k) ?_
    refine own_by (T' := s₁) (g' := (mkF m 16 #[.val (.ref ca), .val (.int 2), .val (.int 2)] [(.int 2), (.int 2)])) (fun t k => XS.iconst X0.here hx rfl (hb hby d5_15) k) ?_
    refine own_by (T' := s₁) (g' := (mkF m 19 #[.val (.ref ca), .val (.int 2), .val (.int 2)] [])) (fun t k => XS.icmpNo X0.here hx rfl (hb hby d5_16) rfl (flt (by decide)).1 k) ?_
    refine own_by (T' := s₁) (g' := (mkF m 20 #[.val (.ref ca), .val (.int 2), .val (.int 2)] [(.ref ca)])) (fun t k => XS.aloadN X0.here hx rfl (hb hby d5_19) rfl rfl k) ?_
    refine own_by (T' := s₁) (g' := (mkF m 21 #[.val (.ref ca), .val (.int 2), .val (.int 2)] [(.int 1), (.ref ca)])) (fun t k => XS.iconst X0.here hx rfl (hb hby d5_20) k) ?_
    obtain ⟨cl4, Ar4, q4, S4, N4, Hs4, G4⟩ := id V_ca
    have hin4 : ¬ ((1 : Int32) < 0 ∨ cl4.slots.size ≤ ((1 : Int32)).toNatClampNeg) := inb_of S4 ⟨by decide, by decide⟩
    have hat4 : cl4.slots[((1 : Int32)).toNatClampNeg]? = some (.int c1) := Hs4.at hin4 rfl
    refine own_by (T' := s₁) (g' := (mkF m 22 #[.val (.ref ca), .val (.int 2), .val (.int 2)] [(.int c1)])) (fun t k => X0.caload hx (j := (1 : Int32)) (v := (.int c1)) (by rw [e0]; exact Ar4.1) (State.isArrayOf_alike hZ.alike Ar4.2.1) Ar4.2.2 hin4 hat4 (g := (mkF m 21 #[.val (.ref ca), .val (.int 2), .val (.int 2)] [(.int 1), (.ref ca)])) rfl rfl (hb hby d5_21) _ k) ?_
    clear hat4 hin4 G4 Hs4 N4 S4 q4 Ar4 cl4
    refine own_by (T' := s₁) (g' := (mkF m 23 #[.val (.ref ca), .val (.int 2), .val (.int 2)] [(.ref ca), (.int c1)])) (fun t k => XS.aloadN X0.here hx rfl (hb hby d5_22) rfl rfl k) ?_
    refine own_by (T' := s₁) (g' := (mkF m 24 #[.val (.ref ca), .val (.int 2), .val (.int 2)] [(.int 2), (.ref ca), (.int c1)])) (fun t k => XS.iloadN X0.here hx rfl (hb hby d5_23) rfl k) ?_
    refine own_by (T' := s₁) (g' := (mkF m 25 #[.val (.ref ca), .val (.int 2), .val (.int 2)] [(.int 1), (.int 2), (.ref ca), (.int c1)])) (fun t k => XS.iconst X0.here hx rfl (hb hby d5_24) k) ?_
    refine own_by (T' := s₁) (g' := (mkF m 26 #[.val (.ref ca), .val (.int 2), .val (.int 2)] [(.int 3), (.ref ca), (.int c1)])) (fun t k => XS.iadd X0.here hx rfl (hb hby d5_25) rfl k) ?_
    obtain ⟨cl5, Ar5, q5, S5, N5, Hs5, G5⟩ := id V_ca
    have hin5 : ¬ ((3 : Int32) < 0 ∨ cl5.slots.size ≤ ((3 : Int32)).toNatClampNeg) := inb_of S5 ⟨by decide, by decide⟩
    have hat5 : cl5.slots[((3 : Int32)).toNatClampNeg]? = some (.int c3) := Hs5.at hin5 rfl
    refine own_by (T' := s₁) (g' := (mkF m 27 #[.val (.ref ca), .val (.int 2), .val (.int 2)] [(.int c3), (.int c1)])) (fun t k => X0.caload hx (j := (3 : Int32)) (v := (.int c3)) (by rw [e0]; exact Ar5.1) (State.isArrayOf_alike hZ.alike Ar5.2.1) Ar5.2.2 hin5 hat5 (g := (mkF m 26 #[.val (.ref ca), .val (.int 2), .val (.int 2)] [(.int 3), (.ref ca), (.int c1)])) rfl rfl (hb hby d5_26) _ k) ?_
    clear hat5 hin5 G5 Hs5 N5 S5 q5 Ar5 cl5
    by_cases hc27_6 : c1 = c3
    · refine own_by (T' := s₁) (g' := (mkF m 30 #[.val (.ref ca), .val (.int 2), .val (.int 2)] [])) (fun t k => XS.icmpNo X0.here hx rfl (hb hby d5_27) rfl (teq hc27_6).2 k) ?_
      refine own_by (T' := s₁) (g' := (mkF m 31 #[.val (.ref ca), .val (.int 2), .val (.int 2)] [(.int 2)])) (fun t k => XS.iloadN X0.here hx rfl (hb hby d5_30) rfl k) ?_
      refine own_by (T' := s₁) (g' := (mkF m 32 #[.val (.ref ca), .val (.int 2), .val (.int 2)] [(.int 3), (.int 2)])) (fun t k => XS.iconst X0.here hx rfl (hb hby d5_31) k) ?_
      refine own_by (T' := s₁) (g' := (mkF m 46 #[.val (.ref ca), .val (.int 2), .val (.int 2)] [])) (fun t k => XS.icmpYes X0.here hx rfl (pc0 := 32) (pc' := 46) rfl (hb hby d5_32) rfl (tlt (by decide)).1 (by decide) (by decide) k) ?_
      refine own_by (T' := s₁) (g' := (mkF m 47 #[.val (.ref ca), .val (.int 2), .val (.int 2)] [(.int 2)])) (fun t k => XS.iloadN X0.here hx rfl (hb hby d5_46) rfl k) ?_
      refine own_by (T' := s₁) (g' := (mkF m 48 #[.val (.ref ca), .val (.int 2), .val (.int 2)] [(.int 4), (.int 2)])) (fun t k => XS.iconst X0.here hx rfl (hb hby d5_47) k) ?_
      refine own_by (T' := s₁) (g' := (mkF m 62 #[.val (.ref ca), .val (.int 2), .val (.int 2)] [])) (fun t k => XS.icmpYes X0.here hx rfl (pc0 := 48) (pc' := 62) rfl (hb hby d5_48) rfl (tlt (by decide)).1 (by decide) (by decide) k) ?_
      refine own_by (T' := s₁) (g' := (mkF m 63 #[.val (.ref ca), .val (.int 2), .val (.int 2)] [(.int 2)])) (fun t k => XS.iloadN X0.here hx rfl (hb hby d5_62) rfl k) ?_
      refine own_by (T' := s₁) (g' := (mkF m 64 #[.val (.ref ca), .val (.int 2), .val (.int 2)] [(.int 5), (.int 2)])) (fun t k => XS.iconst X0.here hx rfl (hb hby d5_63) k) ?_
      refine own_by (T' := s₁) (g' := (mkF m 78 #[.val (.ref ca), .val (.int 2), .val (.int 2)] [])) (fun t k => XS.icmpYes X0.here hx rfl (pc0 := 64) (pc' := 78) rfl (hb hby d5_64) rfl (tlt (by decide)).1 (by decide) (by decide) k) ?_
      refine own_by (T' := s₁) (g' := (mkF m 79 #[.val (.ref ca), .val (.int 2), .val (.int 2)] [(.int 1)])) (fun t k => XS.iconst X0.here hx rfl (hb hby d5_78) k) ?_
      refine own_by (T' := s₁) (g' := (mkF m 83 #[.val (.ref ca), .val (.int 2), .val (.int 2)] [(.int 1)])) (fun t k => XS.goto X0.here hx rfl (pc0 := 79) (pc' := 83) rfl (hb hby d5_79) (by decide) (by decide) k) ?_
      exact own_retN X0 hx (t := .boolean) Bd.notSynchronized Bd.returns (by simp) (hb hby d5_83) (by decide) (by decide) (by rw [e0]; exact ⟨by unfold own_eq2_2; rw [if_pos hc11_3, if_pos hc27_6] <;> rfl, N_, rfl⟩)
    · refine own_by (T' := s₁) (g' := (mkF m 82 #[.val (.ref ca), .val (.int 2), .val (.int 2)] [])) (fun t k => XS.icmpYes X0.here hx rfl (pc0 := 27) (pc' := 82) rfl (hb hby d5_27) rfl (feq hc27_6).2 (by decide) (by decide) k) ?_
      refine own_by (T' := s₁) (g' := (mkF m 83 #[.val (.ref ca), .val (.int 2), .val (.int 2)] [(.int 0)])) (fun t k => XS.iconst X0.here hx rfl (hb hby d5_82) k) ?_
      exact own_retN X0 hx (t := .boolean) Bd.notSynchronized Bd.returns (by simp) (hb hby d5_83) (by decide) (by decide) (by rw [e0]; exact ⟨by unfold own_eq2_2; rw [if_pos hc11_3, if_neg hc27_6] <;> rfl, N_, rfl⟩)
  · refine own_by (T' := s₁) (g' := (mkF m 82 #[.val (.ref ca), .val (.int 2), .val (.int 2)] [])) (fun t k => XS.icmpYes X0.here hx rfl (pc0 := 11) (pc' := 82) rfl (hb hby d5_11) rfl (feq hc11_3).2 (by decide) (by decide) k) ?_
    refine own_by (T' := s₁) (g' := (mkF m 83 #[.val (.ref ca), .val (.int 2), .val (.int 2)] [(.int 0)])) (fun t k => XS.iconst X0.here hx rfl (hb hby d5_82) k) ?_
    exact own_retN X0 hx (t := .boolean) Bd.notSynchronized Bd.returns (by simp) (hb hby d5_83) (by decide) (by decide) (by rw [e0]; exact ⟨by unfold own_eq2_2; rw [if_neg hc11_3] <;> rfl, N_, rfl⟩)

def Q5_2_3 (Z : State) (ca : Addr) (kc : ClassId) (c0 : Int32) (c1 : Int32) (c2 : Int32) (c3 : Int32) (c4 : Int32) (c5 : Int32) (h0 : Heap) (n0 : Nat) (v : Option Value) (h : Heap) (L : List Loc) : Prop := v = some (.int (own_eq2_3 c0 c1 c2 c3 c4 c5)) ∧ Fr n0 L ∧ h = h0
theorem ef_5_2_3 (m : MethodId) (ca : Addr) : entryFrame m #[(.ref ca), (.int 2), (.int 3)] 3 = mkF m 0 #[.val (.ref ca), .val (.int 2), .val (.int 3)] [] := by first | (simp [entryFrame, mkF, argsToLocals, Value.category]; done) | rfl
set_option maxRecDepth 65536 in
set_option maxHeartbeats 40000000 in
theorem rm5_2_3 (l : Launch) (Z : State) (a0 : Array Value) (hw : ∀ d ∈ tables_1, d.before a0 Z = true) (ws : List Jvm.Cond) (ca : Addr) (kc : ClassId) (c0 : Int32) (c1 : Int32) (c2 : Int32) (c3 : Int32) (c4 : Int32) (c5 : Int32) (h0 : Heap) (n0 : Nat) (Zle : n0 ≤ h0.size) (V_ca : Arv Z h0 ca kc .char (6 : Int32) [(.int c0), (.int c1), (.int c2), (.int c3), (.int c4), (.int c5)] (.int 0)) :
    MetFree l (⟨"com/example/emu/emu/PrefixTableOfPinLaw", "eq", "([CII)Z"⟩ : MethodName) (head1 (Jvm.Cond.code (⟨"com/example/emu/emu/PrefixTableOfPinLaw", "eq", "([CII)Z"⟩ : MethodName) method_5_code 3 (some .boolean) :: ws) ({ frames := 0, cells := 0, slots := 0, locals := 0 } : Room)) (fun a U => a = #[(.ref ca), (.int 2), (.int 3)] ∧ Z.Warmed39 U.vm ∧ U.heap = h0) (fun _ _ _ _ _ => True) (fun _ U o U' => ∃ v L, o = .returned v ∧ Q5_2_3 Z ca kc c0 c1 c2 c3 c4 c5 h0 n0 v U'.heap L ∧ FrameEnd U o U' L ({ frames := 0, cells := 0, slots := 0, locals := 0 } : Room).cells ({ frames := 0, cells := 0, slots := 0, locals := 0 } : Room).slots) := by
  refine MetFree.of_bodySF (plainFor_of_name pn_com_example_emu_emu_PrefixTableOfPinLaw) hisR ?_
  intro p e s m args below meth c s₁ Bd hml0 hP hK
  obtain ⟨rfl, hZ, hh⟩ := hP
  have hx := Bd.exec
  have hby := Bd.bytes
  have hml : c.maxLocals = 3 := hml0
  have hown : s.vm.findClass "com/example/emu/emu/PrefixTableOfPinLaw" = some m.cls := findClass_of_methodNamed Bd.named
  have hnm := (name_of_methodNamed Bd.named Bd.method).1
  have X0 : Stand p l e ({ frames := 0, cells := 0, slots := 0, locals := 0 } : Room) s m #[(.ref ca), (.int 2), (.int 3)] below meth c s₁ [] 0 0 := Stand.of_body Bd
  have e0 : s₁.heap = h0 := by rw [← hh, Bd.state]; rfl
  have N_ := Fr.nil n0
  show own_Goes p.tables e below s (Q5_2_3 Z ca kc c0 c1 c2 c3 c4 c5 h0 n0) ({ frames := 0, cells := 0, slots := 0, locals := 0 } : Room).cells ({ frames := 0, cells := 0, slots := 0, locals := 0 } : Room).slots s₁ (entryFrame m #[(.ref ca), (.int 2), (.int 3)] 3)
  refine own_by (T' := s₁) (g' := (mkF m 0 #[.val (.ref ca), .val (.int 2), .val (.int 3)] [])) (fun t k => castTop (ef_5_2_3 m ca) k) ?_
  refine own_by (T' := s₁) (g' := (mkF m 1 #[.val (.ref ca), .val (.int 2), .val (.int 3)] [(.int 3)])) (fun t k => XS.iloadN X0.here hx rfl (hb hby d5_0) rfl k) ?_
  refine own_by (T' := s₁) (g' := (mkF m 2 #[.val (.ref ca), .val (.int 2), .val (.int 3)] [(.int 1), (.int 3)])) (fun t k => XS.iconst X0.here hx rfl (hb hby d5_1) k) ?_
  refine own_by (T' := s₁) (g' := (mkF m 5 #[.val (.ref ca), .val (.int 2), .val (.int 3)] [])) (fun t k => XS.icmpNo X0.here hx rfl (hb hby d5_2) rfl (flt (by decide)).1 k) ?_
  refine own_by (T' := s₁) (g' := (mkF m 6 #[.val (.ref ca), .val (.int 2), .val (.int 3)] [(.ref ca)])) (fun t k => XS.aloadN X0.here hx rfl (hb hby d5_5) rfl rfl k) ?_
  refine own_by (T' := s₁) (g' := (mkF m 7 #[.val (.ref ca), .val (.int 2), .val (.int 3)] [(.int 0), (.ref ca)])) (fun t k => XS.iconst X0.here hx rfl (hb hby d5_6) k) ?_
  obtain ⟨cl1, Ar1, q1, S1, N1, Hs1, G1⟩ := id V_ca
  have hin1 : ¬ ((0 : Int32) < 0 ∨ cl1.slots.size ≤ ((0 : Int32)).toNatClampNeg) := inb_of S1 ⟨by decide, by decide⟩
  have hat1 : cl1.slots[((0 : Int32)).toNatClampNeg]? = some (.int c0) := Hs1.at hin1 rfl
  refine own_by (T' := s₁) (g' := (mkF m 8 #[.val (.ref ca), .val (.int 2), .val (.int 3)] [(.int c0)])) (fun t k => X0.caload hx (j := (0 : Int32)) (v := (.int c0)) (by rw [e0]; exact Ar1.1) (State.isArrayOf_alike hZ.alike Ar1.2.1) Ar1.2.2 hin1 hat1 (g := (mkF m 7 #[.val (.ref ca), .val (.int 2), .val (.int 3)] [(.int 0), (.ref ca)])) rfl rfl (hb hby d5_7) _ k) ?_
  clear hat1 hin1 G1 Hs1 N1 S1 q1 Ar1 cl1
  refine own_by (T' := s₁) (g' := (mkF m 9 #[.val (.ref ca), .val (.int 2), .val (.int 3)] [(.ref ca), (.int c0)])) (fun t k => XS.aloadN X0.here hx rfl (hb hby d5_8) rfl rfl k) ?_
  refine own_by (T' := s₁) (g' := (mkF m 10 #[.val (.ref ca), .val (.int 2), .val (.int 3)] [(.int 2), (.ref ca), (.int c0)])) (fun t k => XS.iloadN X0.here hx rfl (hb hby d5_9) rfl k) ?_
  obtain ⟨cl2, Ar2, q2, S2, N2, Hs2, G2⟩ := id V_ca
  have hin2 : ¬ ((2 : Int32) < 0 ∨ cl2.slots.size ≤ ((2 : Int32)).toNatClampNeg) := inb_of S2 ⟨by decide, by decide⟩
  have hat2 : cl2.slots[((2 : Int32)).toNatClampNeg]? = some (.int c2) := Hs2.at hin2 rfl
  refine own_by (T' := s₁) (g' := (mkF m 11 #[.val (.ref ca), .val (.int 2), .val (.int 3)] [(.int c2), (.int c0)])) (fun t k => X0.caload hx (j := (2 : Int32)) (v := (.int c2)) (by rw [e0]; exact Ar2.1) (State.isArrayOf_alike hZ.alike Ar2.2.1) Ar2.2.2 hin2 hat2 (g := (mkF m 10 #[.val (.ref ca), .val (.int 2), .val (.int 3)] [(.int 2), (.ref ca), (.int c0)])) rfl rfl (hb hby d5_10) _ k) ?_
  clear hat2 hin2 G2 Hs2 N2 S2 q2 Ar2 cl2
  by_cases hc11_3 : c0 = c2
  · refine own_by (T' := s₁) (g' := (mkF m 14 #[.val (.ref ca), .val (.int 2), .val (.int 3)] [])) (fun t k => XS.icmpNo X0.here hx rfl (hb hby d5_11) rfl (teq hc11_3).2 k) ?_
    refine own_by (T' := s₁) (g' := (mkF m 15 #[.val (.ref ca), .val (.int 2), .val (.int 3)] [(.int 3)])) (fun t k => XS.iloadN X0.here hx rfl (hb hby d5_14) rfl k) ?_
    refine own_by (T' := s₁) (g' := (mkF m 16 #[.val (.ref ca), .val (.int 2), .val (.int 3)] [(.int 2), (.int 3)])) (fun t k => XS.iconst X0.here hx rfl (hb hby d5_15) k) ?_
    refine own_by (T' := s₁) (g' := (mkF m 19 #[.val (.ref ca), .val (.int 2), .val (.int 3)] [])) (fun t k => XS.icmpNo X0.here hx rfl (hb hby d5_16) rfl (flt (by decide)).1 k) ?_
    refine own_by (T' := s₁) (g' := (mkF m 20 #[.val (.ref ca), .val (.int 2), .val (.int 3)] [(.ref ca)])) (fun t k => XS.aloadN X0.here hx rfl (hb hby d5_19) rfl rfl k) ?_
    refine own_by (T' := s₁) (g' := (mkF m 21 #[.val (.ref ca), .val (.int 2), .val (.int 3)] [(.int 1), (.ref ca)])) (fun t k => XS.iconst X0.here hx rfl (hb hby d5_20) k) ?_
    obtain ⟨cl4, Ar4, q4, S4, N4, Hs4, G4⟩ := id V_ca
    have hin4 : ¬ ((1 : Int32) < 0 ∨ cl4.slots.size ≤ ((1 : Int32)).toNatClampNeg) := inb_of S4 ⟨by decide, by decide⟩
    have hat4 : cl4.slots[((1 : Int32)).toNatClampNeg]? = some (.int c1) := Hs4.at hin4 rfl
    refine own_by (T' := s₁) (g' := (mkF m 22 #[.val (.ref ca), .val (.int 2), .val (.int 3)] [(.int c1)])) (fun t k => X0.caload hx (j := (1 : Int32)) (v := (.int c1)) (by rw [e0]; exact Ar4.1) (State.isArrayOf_alike hZ.alike Ar4.2.1) Ar4.2.2 hin4 hat4 (g := (mkF m 21 #[.val (.ref ca), .val (.int 2), .val (.int 3)] [(.int 1), (.ref ca)])) rfl rfl (hb hby d5_21) _ k) ?_
    clear hat4 hin4 G4 Hs4 N4 S4 q4 Ar4 cl4
    refine own_by (T' := s₁) (g' := (mkF m 23 #[.val (.ref ca), .val (.int 2), .val (.int 3)] [(.ref ca), (.int c1)])) (fun t k => XS.aloadN X0.here hx rfl (hb hby d5_22) rfl rfl k) ?_
    refine own_by (T' := s₁) (g' := (mkF m 24 #[.val (.ref ca), .val (.int 2), .val (.int 3)] [(.int 2), (.ref ca), (.int c1)])) (fun t k => XS.iloadN X0.here hx rfl (hb hby d5_23) rfl k) ?_
    refine own_by (T' := s₁) (g' := (mkF m 25 #[.val (.ref ca), .val (.int 2), .val (.int 3)] [(.int 1), (.int 2), (.ref ca), (.int c1)])) (fun t k => XS.iconst X0.here hx rfl (hb hby d5_24) k) ?_
    refine own_by (T' := s₁) (g' := (mkF m 26 #[.val (.ref ca), .val (.int 2), .val (.int 3)] [(.int 3), (.ref ca), (.int c1)])) (fun t k => XS.iadd X0.here hx rfl (hb hby d5_25) rfl k) ?_
    obtain ⟨cl5, Ar5, q5, S5, N5, Hs5, G5⟩ := id V_ca
    have hin5 : ¬ ((3 : Int32) < 0 ∨ cl5.slots.size ≤ ((3 : Int32)).toNatClampNeg) := inb_of S5 ⟨by decide, by decide⟩
    have hat5 : cl5.slots[((3 : Int32)).toNatClampNeg]? = some (.int c3) := Hs5.at hin5 rfl
    refine own_by (T' := s₁) (g' := (mkF m 27 #[.val (.ref ca), .val (.int 2), .val (.int 3)] [(.int c3), (.int c1)])) (fun t k => X0.caload hx (j := (3 : Int32)) (v := (.int c3)) (by rw [e0]; exact Ar5.1) (State.isArrayOf_alike hZ.alike Ar5.2.1) Ar5.2.2 hin5 hat5 (g := (mkF m 26 #[.val (.ref ca), .val (.int 2), .val (.int 3)] [(.int 3), (.ref ca), (.int c1)])) rfl rfl (hb hby d5_26) _ k) ?_
    clear hat5 hin5 G5 Hs5 N5 S5 q5 Ar5 cl5
    by_cases hc27_6 : c1 = c3
    · refine own_by (T' := s₁) (g' := (mkF m 30 #[.val (.ref ca), .val (.int 2), .val (.int 3)] [])) (fun t k => XS.icmpNo X0.here hx rfl (hb hby d5_27) rfl (teq hc27_6).2 k) ?_
      refine own_by (T' := s₁) (g' := (mkF m 31 #[.val (.ref ca), .val (.int 2), .val (.int 3)] [(.int 3)])) (fun t k => XS.iloadN X0.here hx rfl (hb hby d5_30) rfl k) ?_
      refine own_by (T' := s₁) (g' := (mkF m 32 #[.val (.ref ca), .val (.int 2), .val (.int 3)] [(.int 3), (.int 3)])) (fun t k => XS.iconst X0.here hx rfl (hb hby d5_31) k) ?_
      refine own_by (T' := s₁) (g' := (mkF m 35 #[.val (.ref ca), .val (.int 2), .val (.int 3)] [])) (fun t k => XS.icmpNo X0.here hx rfl (hb hby d5_32) rfl (flt (by decide)).1 k) ?_
      refine own_by (T' := s₁) (g' := (mkF m 36 #[.val (.ref ca), .val (.int 2), .val (.int 3)] [(.ref ca)])) (fun t k => XS.aloadN X0.here hx rfl (hb hby d5_35) rfl rfl k) ?_
      refine own_by (T' := s₁) (g' := (mkF m 37 #[.val (.ref ca), .val (.int 2), .val (.int 3)] [(.int 2), (.ref ca)])) (fun t k => XS.iconst X0.here hx rfl (hb hby d5_36) k) ?_
      obtain ⟨cl7, Ar7, q7, S7, N7, Hs7, G7⟩ := id V_ca
      have hin7 : ¬ ((2 : Int32) < 0 ∨ cl7.slots.size ≤ ((2 : Int32)).toNatClampNeg) := inb_of S7 ⟨by decide, by decide⟩
      have hat7 : cl7.slots[((2 : Int32)).toNatClampNeg]? = some (.int c2) := Hs7.at hin7 rfl
      refine own_by (T' := s₁) (g' := (mkF m 38 #[.val (.ref ca), .val (.int 2), .val (.int 3)] [(.int c2)])) (fun t k => X0.caload hx (j := (2 : Int32)) (v := (.int c2)) (by rw [e0]; exact Ar7.1) (State.isArrayOf_alike hZ.alike Ar7.2.1) Ar7.2.2 hin7 hat7 (g := (mkF m 37 #[.val (.ref ca), .val (.int 2), .val (.int 3)] [(.int 2), (.ref ca)])) rfl rfl (hb hby d5_37) _ k) ?_
      clear hat7 hin7 G7 Hs7 N7 S7 q7 Ar7 cl7
      refine own_by (T' := s₁) (g' := (mkF m 39 #[.val (.ref ca), .val (.int 2), .val (.int 3)] [(.ref ca), (.int c2)])) (fun t k => XS.aloadN X0.here hx rfl (hb hby d5_38) rfl rfl k) ?_
      refine own_by (T' := s₁) (g' := (mkF m 40 #[.val (.ref ca), .val (.int 2), .val (.int 3)] [(.int 2), (.ref ca), (.int c2)])) (fun t k => XS.iloadN X0.here hx rfl (hb hby d5_39) rfl k) ?_
      refine own_by (T' := s₁) (g' := (mkF m 41 #[.val (.ref ca), .val (.int 2), .val (.int 3)] [(.int 2), (.int 2), (.ref ca), (.int c2)])) (fun t k => XS.iconst X0.here hx rfl (hb hby d5_40) k) ?_
      refine own_by (T' := s₁) (g' := (mkF m 42 #[.val (.ref ca), .val (.int 2), .val (.int 3)] [(.int 4), (.ref ca), (.int c2)])) (fun t k => XS.iadd X0.here hx rfl (hb hby d5_41) rfl k) ?_
      obtain ⟨cl8, Ar8, q8, S8, N8, Hs8, G8⟩ := id V_ca
      have hin8 : ¬ ((4 : Int32) < 0 ∨ cl8.slots.size ≤ ((4 : Int32)).toNatClampNeg) := inb_of S8 ⟨by decide, by decide⟩
      have hat8 : cl8.slots[((4 : Int32)).toNatClampNeg]? = some (.int c4) := Hs8.at hin8 rfl
      refine own_by (T' := s₁) (g' := (mkF m 43 #[.val (.ref ca), .val (.int 2), .val (.int 3)] [(.int c4), (.int c2)])) (fun t k => X0.caload hx (j := (4 : Int32)) (v := (.int c4)) (by rw [e0]; exact Ar8.1) (State.isArrayOf_alike hZ.alike Ar8.2.1) Ar8.2.2 hin8 hat8 (g := (mkF m 42 #[.val (.ref ca), .val (.int 2), .val (.int 3)] [(.int 4), (.ref ca), (.int c2)])) rfl rfl (hb hby d5_42) _ k) ?_
      clear hat8 hin8 G8 Hs8 N8 S8 q8 Ar8 cl8
      by_cases hc43_9 : c2 = c4
      · refine own_by (T' := s₁) (g' := (mkF m 46 #[.val (.ref ca), .val (.int 2), .val (.int 3)] [])) (fun t k => XS.icmpNo X0.here hx rfl (hb hby d5_43) rfl (teq hc43_9).2 k) ?_
        refine own_by (T' := s₁) (g' := (mkF m 47 #[.val (.ref ca), .val (.int 2), .val (.int 3)] [(.int 3)])) (fun t k => XS.iloadN X0.here hx rfl (hb hby d5_46) rfl k) ?_
        refine own_by (T' := s₁) (g' := (mkF m 48 #[.val (.ref ca), .val (.int 2), .val (.int 3)] [(.int 4), (.int 3)])) (fun t k => XS.iconst X0.here hx rfl (hb hby d5_47) k) ?_
        refine own_by (T' := s₁) (g' := (mkF m 62 #[.val (.ref ca), .val (.int 2), .val (.int 3)] [])) (fun t k => XS.icmpYes X0.here hx rfl (pc0 := 48) (pc' := 62) rfl (hb hby d5_48) rfl (tlt (by decide)).1 (by decide) (by decide) k) ?_
        refine own_by (T' := s₁) (g' := (mkF m 63 #[.val (.ref ca), .val (.int 2), .val (.int 3)] [(.int 3)])) (fun t k => XS.iloadN X0.here hx rfl (hb hby d5_62) rfl k) ?_
        refine own_by (T' := s₁) (g' := (mkF m 64 #[.val (.ref ca), .val (.int 2), .val (.int 3)] [(.int 5), (.int 3)])) (fun t k => XS.iconst X0.here hx rfl (hb hby d5_63) k) ?_
        refine own_by (T' := s₁) (g' := (mkF m 78 #[.val (.ref ca), .val (.int 2), .val (.int 3)] [])) (fun t k => XS.icmpYes X0.here hx rfl (pc0 := 64) (pc' := 78) rfl (hb hby d5_64) rfl (tlt (by decide)).1 (by decide) (by decide) k) ?_
        refine own_by (T' := s₁) (g' := (mkF m 79 #[.val (.ref ca), .val (.int 2), .val (.int 3)] [(.int 1)])) (fun t k => XS.iconst X0.here hx rfl (hb hby d5_78) k) ?_
        refine own_by (T' := s₁) (g' := (mkF m 83 #[.val (.ref ca), .val (.int 2), .val (.int 3)] [(.int 1)])) (fun t k => XS.goto X0.here hx rfl (pc0 := 79) (pc' := 83) rfl (hb hby d5_79) (by decide) (by decide) k) ?_
        exact own_retN X0 hx (t := .boolean) Bd.notSynchronized Bd.returns (by simp) (hb hby d5_83) (by decide) (by decide) (by rw [e0]; exact ⟨by unfold own_eq2_3; rw [if_pos hc11_3, if_pos hc27_6, if_pos hc43_9] <;> rfl, N_, rfl⟩)
      · refine own_by (T' := s₁) (g' := (mkF m 82 #[.val (.ref ca), .val (.int 2), .val (.int 3)] [])) (fun t k => XS.icmpYes X0.here hx rfl (pc0 := 43) (pc' := 82) rfl (hb hby d5_43) rfl (feq hc43_9).2 (by decide) (by decide) k) ?_
        refine own_by (T' := s₁) (g' := (mkF m 83 #[.val (.ref ca), .val (.int 2), .val (.int 3)] [(.int 0)])) (fun t k => XS.iconst X0.here hx rfl (hb hby d5_82) k) ?_
        exact own_retN X0 hx (t := .boolean) Bd.notSynchronized Bd.returns (by simp) (hb hby d5_83) (by decide) (by decide) (by rw [e0]; exact ⟨by unfold own_eq2_3; rw [if_pos hc11_3, if_pos hc27_6, if_neg hc43_9] <;> rfl, N_, rfl⟩)
    · refine own_by (T' := s₁) (g' := (mkF m 82 #[.val (.ref ca), .val (.int 2), .val (.int 3)] [])) (fun t k => XS.icmpYes X0.here hx rfl (pc0 := 27) (pc' := 82) rfl (hb hby d5_27) rfl (feq hc27_6).2 (by decide) (by decide) k) ?_
      refine own_by (T' := s₁) (g' := (mkF m 83 #[.val (.ref ca), .val (.int 2), .val (.int 3)] [(.int 0)])) (fun t k => XS.iconst X0.here hx rfl (hb hby d5_82) k) ?_
      exact own_retN X0 hx (t := .boolean) Bd.notSynchronized Bd.returns (by simp) (hb hby d5_83) (by decide) (by decide) (by rw [e0]; exact ⟨by unfold own_eq2_3; rw [if_pos hc11_3, if_neg hc27_6] <;> rfl, N_, rfl⟩)
  · refine own_by (T' := s₁) (g' := (mkF m 82 #[.val (.ref ca), .val (.int 2), .val (.int 3)] [])) (fun t k => XS.icmpYes X0.here hx rfl (pc0 := 11) (pc' := 82) rfl (hb hby d5_11) rfl (feq hc11_3).2 (by decide) (by decide) k) ?_
    refine own_by (T' := s₁) (g' := (mkF m 83 #[.val (.ref ca), .val (.int 2), .val (.int 3)] [(.int 0)])) (fun t k => XS.iconst X0.here hx rfl (hb hby d5_82) k) ?_
    exact own_retN X0 hx (t := .boolean) Bd.notSynchronized Bd.returns (by simp) (hb hby d5_83) (by decide) (by decide) (by rw [e0]; exact ⟨by unfold own_eq2_3; rw [if_neg hc11_3] <;> rfl, N_, rfl⟩)

def Q5_2_4 (Z : State) (ca : Addr) (kc : ClassId) (c0 : Int32) (c1 : Int32) (c2 : Int32) (c3 : Int32) (c4 : Int32) (c5 : Int32) (h0 : Heap) (n0 : Nat) (v : Option Value) (h : Heap) (L : List Loc) : Prop := v = some (.int (own_eq2_4 c0 c1 c2 c3 c4 c5)) ∧ Fr n0 L ∧ h = h0
theorem ef_5_2_4 (m : MethodId) (ca : Addr) : entryFrame m #[(.ref ca), (.int 2), (.int 4)] 3 = mkF m 0 #[.val (.ref ca), .val (.int 2), .val (.int 4)] [] := by first | (simp [entryFrame, mkF, argsToLocals, Value.category]; done) | rfl
set_option maxRecDepth 65536 in
set_option maxHeartbeats 40000000 in
theorem rm5_2_4 (l : Launch) (Z : State) (a0 : Array Value) (hw : ∀ d ∈ tables_1, d.before a0 Z = true) (ws : List Jvm.Cond) (ca : Addr) (kc : ClassId) (c0 : Int32) (c1 : Int32) (c2 : Int32) (c3 : Int32) (c4 : Int32) (c5 : Int32) (h0 : Heap) (n0 : Nat) (Zle : n0 ≤ h0.size) (V_ca : Arv Z h0 ca kc .char (6 : Int32) [(.int c0), (.int c1), (.int c2), (.int c3), (.int c4), (.int c5)] (.int 0)) :
    MetFree l (⟨"com/example/emu/emu/PrefixTableOfPinLaw", "eq", "([CII)Z"⟩ : MethodName) (head1 (Jvm.Cond.code (⟨"com/example/emu/emu/PrefixTableOfPinLaw", "eq", "([CII)Z"⟩ : MethodName) method_5_code 3 (some .boolean) :: ws) ({ frames := 0, cells := 0, slots := 0, locals := 0 } : Room)) (fun a U => a = #[(.ref ca), (.int 2), (.int 4)] ∧ Z.Warmed39 U.vm ∧ U.heap = h0) (fun _ _ _ _ _ => True) (fun _ U o U' => ∃ v L, o = .returned v ∧ Q5_2_4 Z ca kc c0 c1 c2 c3 c4 c5 h0 n0 v U'.heap L ∧ FrameEnd U o U' L ({ frames := 0, cells := 0, slots := 0, locals := 0 } : Room).cells ({ frames := 0, cells := 0, slots := 0, locals := 0 } : Room).slots) := by
  refine MetFree.of_bodySF (plainFor_of_name pn_com_example_emu_emu_PrefixTableOfPinLaw) hisR ?_
  intro p e s m args below meth c s₁ Bd hml0 hP hK
  obtain ⟨rfl, hZ, hh⟩ := hP
  have hx := Bd.exec
  have hby := Bd.bytes
  have hml : c.maxLocals = 3 := hml0
  have hown : s.vm.findClass "com/example/emu/emu/PrefixTableOfPinLaw" = some m.cls := findClass_of_methodNamed Bd.named
  have hnm := (name_of_methodNamed Bd.named Bd.method).1
  have X0 : Stand p l e ({ frames := 0, cells := 0, slots := 0, locals := 0 } : Room) s m #[(.ref ca), (.int 2), (.int 4)] below meth c s₁ [] 0 0 := Stand.of_body Bd
  have e0 : s₁.heap = h0 := by rw [← hh, Bd.state]; rfl
  have N_ := Fr.nil n0
  show own_Goes p.tables e below s (Q5_2_4 Z ca kc c0 c1 c2 c3 c4 c5 h0 n0) ({ frames := 0, cells := 0, slots := 0, locals := 0 } : Room).cells ({ frames := 0, cells := 0, slots := 0, locals := 0 } : Room).slots s₁ (entryFrame m #[(.ref ca), (.int 2), (.int 4)] 3)
  refine own_by (T' := s₁) (g' := (mkF m 0 #[.val (.ref ca), .val (.int 2), .val (.int 4)] [])) (fun t k => castTop (ef_5_2_4 m ca) k) ?_
  refine own_by (T' := s₁) (g' := (mkF m 1 #[.val (.ref ca), .val (.int 2), .val (.int 4)] [(.int 4)])) (fun t k => XS.iloadN X0.here hx rfl (hb hby d5_0) rfl k) ?_
  refine own_by (T' := s₁) (g' := (mkF m 2 #[.val (.ref ca), .val (.int 2), .val (.int 4)] [(.int 1), (.int 4)])) (fun t k => XS.iconst X0.here hx rfl (hb hby d5_1) k) ?_
  refine own_by (T' := s₁) (g' := (mkF m 5 #[.val (.ref ca), .val (.int 2), .val (.int 4)] [])) (fun t k => XS.icmpNo X0.here hx rfl (hb hby d5_2) rfl (flt (by decide)).1 k) ?_
  refine own_by (T' := s₁) (g' := (mkF m 6 #[.val (.ref ca), .val (.int 2), .val (.int 4)] [(.ref ca)])) (fun t k => XS.aloadN X0.here hx rfl (hb hby d5_5) rfl rfl k) ?_
  refine own_by (T' := s₁) (g' := (mkF m 7 #[.val (.ref ca), .val (.int 2), .val (.int 4)] [(.int 0), (.ref ca)])) (fun t k => XS.iconst X0.here hx rfl (hb hby d5_6) k) ?_
  obtain ⟨cl1, Ar1, q1, S1, N1, Hs1, G1⟩ := id V_ca
  have hin1 : ¬ ((0 : Int32) < 0 ∨ cl1.slots.size ≤ ((0 : Int32)).toNatClampNeg) := inb_of S1 ⟨by decide, by decide⟩
  have hat1 : cl1.slots[((0 : Int32)).toNatClampNeg]? = some (.int c0) := Hs1.at hin1 rfl
  refine own_by (T' := s₁) (g' := (mkF m 8 #[.val (.ref ca), .val (.int 2), .val (.int 4)] [(.int c0)])) (fun t k => X0.caload hx (j := (0 : Int32)) (v := (.int c0)) (by rw [e0]; exact Ar1.1) (State.isArrayOf_alike hZ.alike Ar1.2.1) Ar1.2.2 hin1 hat1 (g := (mkF m 7 #[.val (.ref ca), .val (.int 2), .val (.int 4)] [(.int 0), (.ref ca)])) rfl rfl (hb hby d5_7) _ k) ?_
  clear hat1 hin1 G1 Hs1 N1 S1 q1 Ar1 cl1
  refine own_by (T' := s₁) (g' := (mkF m 9 #[.val (.ref ca), .val (.int 2), .val (.int 4)] [(.ref ca), (.int c0)])) (fun t k => XS.aloadN X0.here hx rfl (hb hby d5_8) rfl rfl k) ?_
  refine own_by (T' := s₁) (g' := (mkF m 10 #[.val (.ref ca), .val (.int 2), .val (.int 4)] [(.int 2), (.ref ca), (.int c0)])) (fun t k => XS.iloadN X0.here hx rfl (hb hby d5_9) rfl k) ?_
  obtain ⟨cl2, Ar2, q2, S2, N2, Hs2, G2⟩ := id V_ca
  have hin2 : ¬ ((2 : Int32) < 0 ∨ cl2.slots.size ≤ ((2 : Int32)).toNatClampNeg) := inb_of S2 ⟨by decide, by decide⟩
  have hat2 : cl2.slots[((2 : Int32)).toNatClampNeg]? = some (.int c2) := Hs2.at hin2 rfl
  refine own_by (T' := s₁) (g' := (mkF m 11 #[.val (.ref ca), .val (.int 2), .val (.int 4)] [(.int c2), (.int c0)])) (fun t k => X0.caload hx (j := (2 : Int32)) (v := (.int c2)) (by rw [e0]; exact Ar2.1) (State.isArrayOf_alike hZ.alike Ar2.2.1) Ar2.2.2 hin2 hat2 (g := (mkF m 10 #[.val (.ref ca), .val (.int 2), .val (.int 4)] [(.int 2), (.ref ca), (.int c0)])) rfl rfl (hb hby d5_10) _ k) ?_
  clear hat2 hin2 G2 Hs2 N2 S2 q2 Ar2 cl2
  by_cases hc11_3 : c0 = c2
  · refine own_by (T' := s₁) (g' := (mkF m 14 #[.val (.ref ca), .val (.int 2), .val (.int 4)] [])) (fun t k => XS.icmpNo X0.here hx rfl (hb hby d5_11) rfl (teq hc11_3).2 k) ?_
    refine own_by (T' := s₁) (g' := (mkF m 15 #[.val (.ref ca), .val (.int 2), .val (.int 4)] [(.int 4)])) (fun t k => XS.iloadN X0.here hx rfl (hb hby d5_14) rfl k) ?_
    refine own_by (T' := s₁) (g' := (mkF m 16 #[.val (.ref ca), .val (.int 2), .val (.int 4)] [(.int 2), (.int 4)])) (fun t k => XS.iconst X0.here hx rfl (hb hby d5_15) k) ?_
    refine own_by (T' := s₁) (g' := (mkF m 19 #[.val (.ref ca), .val (.int 2), .val (.int 4)] [])) (fun t k => XS.icmpNo X0.here hx rfl (hb hby d5_16) rfl (flt (by decide)).1 k) ?_
    refine own_by (T' := s₁) (g' := (mkF m 20 #[.val (.ref ca), .val (.int 2), .val (.int 4)] [(.ref ca)])) (fun t k => XS.aloadN X0.here hx rfl (hb hby d5_19) rfl rfl k) ?_
    refine own_by (T' := s₁) (g' := (mkF m 21 #[.val (.ref ca), .val (.int 2), .val (.int 4)] [(.int 1), (.ref ca)])) (fun t k => XS.iconst X0.here hx rfl (hb hby d5_20) k) ?_
    obtain ⟨cl4, Ar4, q4, S4, N4, Hs4, G4⟩ := id V_ca
    have hin4 : ¬ ((1 : Int32) < 0 ∨ cl4.slots.size ≤ ((1 : Int32)).toNatClampNeg) := inb_of S4 ⟨by decide, by decide⟩
    have hat4 : cl4.slots[((1 : Int32)).toNatClampNeg]? = some (.int c1) := Hs4.at hin4 rfl
    refine own_by (T' := s₁) (g' := (mkF m 22 #[.val (.ref ca), .val (.int 2), .val (.int 4)] [(.int c1)])) (fun t k => X0.caload hx (j := (1 : Int32)) (v := (.int c1)) (by rw [e0]; exact Ar4.1) (State.isArrayOf_alike hZ.alike Ar4.2.1) Ar4.2.2 hin4 hat4 (g := (mkF m 21 #[.val (.ref ca), .val (.int 2), .val (.int 4)] [(.int 1), (.ref ca)])) rfl rfl (hb hby d5_21) _ k) ?_
    clear hat4 hin4 G4 Hs4 N4 S4 q4 Ar4 cl4
    refine own_by (T' := s₁) (g' := (mkF m 23 #[.val (.ref ca), .val (.int 2), .val (.int 4)] [(.ref ca), (.int c1)])) (fun t k => XS.aloadN X0.here hx rfl (hb hby d5_22) rfl rfl k) ?_
    refine own_by (T' := s₁) (g' := (mkF m 24 #[.val (.ref ca), .val (.int 2), .val (.int 4)] [(.int 2), (.ref ca), (.int c1)])) (fun t k => XS.iloadN X0.here hx rfl (hb hby d5_23) rfl k) ?_
    refine own_by (T' := s₁) (g' := (mkF m 25 #[.val (.ref ca), .val (.int 2), .val (.int 4)] [(.int 1), (.int 2), (.ref ca), (.int c1)])) (fun t k => XS.iconst X0.here hx rfl (hb hby d5_24) k) ?_
    refine own_by (T' := s₁) (g' := (mkF m 26 #[.val (.ref ca), .val (.int 2), .val (.int 4)] [(.int 3), (.ref ca), (.int c1)])) (fun t k => XS.iadd X0.here hx rfl (hb hby d5_25) rfl k) ?_
    obtain ⟨cl5, Ar5, q5, S5, N5, Hs5, G5⟩ := id V_ca
    have hin5 : ¬ ((3 : Int32) < 0 ∨ cl5.slots.size ≤ ((3 : Int32)).toNatClampNeg) := inb_of S5 ⟨by decide, by decide⟩
    have hat5 : cl5.slots[((3 : Int32)).toNatClampNeg]? = some (.int c3) := Hs5.at hin5 rfl
    refine own_by (T' := s₁) (g' := (mkF m 27 #[.val (.ref ca), .val (.int 2), .val (.int 4)] [(.int c3), (.int c1)])) (fun t k => X0.caload hx (j := (3 : Int32)) (v := (.int c3)) (by rw [e0]; exact Ar5.1) (State.isArrayOf_alike hZ.alike Ar5.2.1) Ar5.2.2 hin5 hat5 (g := (mkF m 26 #[.val (.ref ca), .val (.int 2), .val (.int 4)] [(.int 3), (.ref ca), (.int c1)])) rfl rfl (hb hby d5_26) _ k) ?_
    clear hat5 hin5 G5 Hs5 N5 S5 q5 Ar5 cl5
    by_cases hc27_6 : c1 = c3
    · refine own_by (T' := s₁) (g' := (mkF m 30 #[.val (.ref ca), .val (.int 2), .val (.int 4)] [])) (fun t k => XS.icmpNo X0.here hx rfl (hb hby d5_27) rfl (teq hc27_6).2 k) ?_
      refine own_by (T' := s₁) (g' := (mkF m 31 #[.val (.ref ca), .val (.int 2), .val (.int 4)] [(.int 4)])) (fun t k => XS.iloadN X0.here hx rfl (hb hby d5_30) rfl k) ?_
      refine own_by (T' := s₁) (g' := (mkF m 32 #[.val (.ref ca), .val (.int 2), .val (.int 4)] [(.int 3), (.int 4)])) (fun t k => XS.iconst X0.here hx rfl (hb hby d5_31) k) ?_
      refine own_by (T' := s₁) (g' := (mkF m 35 #[.val (.ref ca), .val (.int 2), .val (.int 4)] [])) (fun t k => XS.icmpNo X0.here hx rfl (hb hby d5_32) rfl (flt (by decide)).1 k) ?_
      refine own_by (T' := s₁) (g' := (mkF m 36 #[.val (.ref ca), .val (.int 2), .val (.int 4)] [(.ref ca)])) (fun t k => XS.aloadN X0.here hx rfl (hb hby d5_35) rfl rfl k) ?_
      refine own_by (T' := s₁) (g' := (mkF m 37 #[.val (.ref ca), .val (.int 2), .val (.int 4)] [(.int 2), (.ref ca)])) (fun t k => XS.iconst X0.here hx rfl (hb hby d5_36) k) ?_
      obtain ⟨cl7, Ar7, q7, S7, N7, Hs7, G7⟩ := id V_ca
      have hin7 : ¬ ((2 : Int32) < 0 ∨ cl7.slots.size ≤ ((2 : Int32)).toNatClampNeg) := inb_of S7 ⟨by decide, by decide⟩
      have hat7 : cl7.slots[((2 : Int32)).toNatClampNeg]? = some (.int c2) := Hs7.at hin7 rfl
      refine own_by (T' := s₁) (g' := (mkF m 38 #[.val (.ref ca), .val (.int 2), .val (.int 4)] [(.int c2)])) (fun t k => X0.caload hx (j := (2 : Int32)) (v := (.int c2)) (by rw [e0]; exact Ar7.1) (State.isArrayOf_alike hZ.alike Ar7.2.1) Ar7.2.2 hin7 hat7 (g := (mkF m 37 #[.val (.ref ca), .val (.int 2), .val (.int 4)] [(.int 2), (.ref ca)])) rfl rfl (hb hby d5_37) _ k) ?_
      clear hat7 hin7 G7 Hs7 N7 S7 q7 Ar7 cl7
      refine own_by (T' := s₁) (g' := (mkF m 39 #[.val (.ref ca), .val (.int 2), .val (.int 4)] [(.ref ca), (.int c2)])) (fun t k => XS.aloadN X0.here hx rfl (hb hby d5_38) rfl rfl k) ?_
      refine own_by (T' := s₁) (g' := (mkF m 40 #[.val (.ref ca), .val (.int 2), .val (.int 4)] [(.int 2), (.ref ca), (.int c2)])) (fun t k => XS.iloadN X0.here hx rfl (hb hby d5_39) rfl k) ?_
      refine own_by (T' := s₁) (g' := (mkF m 41 #[.val (.ref ca), .val (.int 2), .val (.int 4)] [(.int 2), (.int 2), (.ref ca), (.int c2)])) (fun t k => XS.iconst X0.here hx rfl (hb hby d5_40) k) ?_
      refine own_by (T' := s₁) (g' := (mkF m 42 #[.val (.ref ca), .val (.int 2), .val (.int 4)] [(.int 4), (.ref ca), (.int c2)])) (fun t k => XS.iadd X0.here hx rfl (hb hby d5_41) rfl k) ?_
      obtain ⟨cl8, Ar8, q8, S8, N8, Hs8, G8⟩ := id V_ca
      have hin8 : ¬ ((4 : Int32) < 0 ∨ cl8.slots.size ≤ ((4 : Int32)).toNatClampNeg) := inb_of S8 ⟨by decide, by decide⟩
      have hat8 : cl8.slots[((4 : Int32)).toNatClampNeg]? = some (.int c4) := Hs8.at hin8 rfl
      refine own_by (T' := s₁) (g' := (mkF m 43 #[.val (.ref ca), .val (.int 2), .val (.int 4)] [(.int c4), (.int c2)])) (fun t k => X0.caload hx (j := (4 : Int32)) (v := (.int c4)) (by rw [e0]; exact Ar8.1) (State.isArrayOf_alike hZ.alike Ar8.2.1) Ar8.2.2 hin8 hat8 (g := (mkF m 42 #[.val (.ref ca), .val (.int 2), .val (.int 4)] [(.int 4), (.ref ca), (.int c2)])) rfl rfl (hb hby d5_42) _ k) ?_
      clear hat8 hin8 G8 Hs8 N8 S8 q8 Ar8 cl8
      by_cases hc43_9 : c2 = c4
      · refine own_by (T' := s₁) (g' := (mkF m 46 #[.val (.ref ca), .val (.int 2), .val (.int 4)] [])) (fun t k => XS.icmpNo X0.here hx rfl (hb hby d5_43) rfl (teq hc43_9).2 k) ?_
        refine own_by (T' := s₁) (g' := (mkF m 47 #[.val (.ref ca), .val (.int 2), .val (.int 4)] [(.int 4)])) (fun t k => XS.iloadN X0.here hx rfl (hb hby d5_46) rfl k) ?_
        refine own_by (T' := s₁) (g' := (mkF m 48 #[.val (.ref ca), .val (.int 2), .val (.int 4)] [(.int 4), (.int 4)])) (fun t k => XS.iconst X0.here hx rfl (hb hby d5_47) k) ?_
        refine own_by (T' := s₁) (g' := (mkF m 51 #[.val (.ref ca), .val (.int 2), .val (.int 4)] [])) (fun t k => XS.icmpNo X0.here hx rfl (hb hby d5_48) rfl (flt (by decide)).1 k) ?_
        refine own_by (T' := s₁) (g' := (mkF m 52 #[.val (.ref ca), .val (.int 2), .val (.int 4)] [(.ref ca)])) (fun t k => XS.aloadN X0.here hx rfl (hb hby d5_51) rfl rfl k) ?_
        refine own_by (T' := s₁) (g' := (mkF m 53 #[.val (.ref ca), .val (.int 2), .val (.int 4)] [(.int 3), (.ref ca)])) (fun t k => XS.iconst X0.here hx rfl (hb hby d5_52) k) ?_
        obtain ⟨cl10, Ar10, q10, S10, N10, Hs10, G10⟩ := id V_ca
        have hin10 : ¬ ((3 : Int32) < 0 ∨ cl10.slots.size ≤ ((3 : Int32)).toNatClampNeg) := inb_of S10 ⟨by decide, by decide⟩
        have hat10 : cl10.slots[((3 : Int32)).toNatClampNeg]? = some (.int c3) := Hs10.at hin10 rfl
        refine own_by (T' := s₁) (g' := (mkF m 54 #[.val (.ref ca), .val (.int 2), .val (.int 4)] [(.int c3)])) (fun t k => X0.caload hx (j := (3 : Int32)) (v := (.int c3)) (by rw [e0]; exact Ar10.1) (State.isArrayOf_alike hZ.alike Ar10.2.1) Ar10.2.2 hin10 hat10 (g := (mkF m 53 #[.val (.ref ca), .val (.int 2), .val (.int 4)] [(.int 3), (.ref ca)])) rfl rfl (hb hby d5_53) _ k) ?_
        clear hat10 hin10 G10 Hs10 N10 S10 q10 Ar10 cl10
        refine own_by (T' := s₁) (g' := (mkF m 55 #[.val (.ref ca), .val (.int 2), .val (.int 4)] [(.ref ca), (.int c3)])) (fun t k => XS.aloadN X0.here hx rfl (hb hby d5_54) rfl rfl k) ?_
        refine own_by (T' := s₁) (g' := (mkF m 56 #[.val (.ref ca), .val (.int 2), .val (.int 4)] [(.int 2), (.ref ca), (.int c3)])) (fun t k => XS.iloadN X0.here hx rfl (hb hby d5_55) rfl k) ?_
        refine own_by (T' := s₁) (g' := (mkF m 57 #[.val (.ref ca), .val (.int 2), .val (.int 4)] [(.int 3), (.int 2), (.ref ca), (.int c3)])) (fun t k => XS.iconst X0.here hx rfl (hb hby d5_56) k) ?_
        refine own_by (T' := s₁) (g' := (mkF m 58 #[.val (.ref ca), .val (.int 2), .val (.int 4)] [(.int 5), (.ref ca), (.int c3)])) (fun t k => XS.iadd X0.here hx rfl (hb hby d5_57) rfl k) ?_
        obtain ⟨cl11, Ar11, q11, S11, N11, Hs11, G11⟩ := id V_ca
        have hin11 : ¬ ((5 : Int32) < 0 ∨ cl11.slots.size ≤ ((5 : Int32)).toNatClampNeg) := inb_of S11 ⟨by decide, by decide⟩
        have hat11 : cl11.slots[((5 : Int32)).toNatClampNeg]? = some (.int c5) := Hs11.at hin11 rfl
        refine own_by (T' := s₁) (g' := (mkF m 59 #[.val (.ref ca), .val (.int 2), .val (.int 4)] [(.int c5), (.int c3)])) (fun t k => X0.caload hx (j := (5 : Int32)) (v := (.int c5)) (by rw [e0]; exact Ar11.1) (State.isArrayOf_alike hZ.alike Ar11.2.1) Ar11.2.2 hin11 hat11 (g := (mkF m 58 #[.val (.ref ca), .val (.int 2), .val (.int 4)] [(.int 5), (.ref ca), (.int c3)])) rfl rfl (hb hby d5_58) _ k) ?_
        clear hat11 hin11 G11 Hs11 N11 S11 q11 Ar11 cl11
        by_cases hc59_12 : c3 = c5
        · refine own_by (T' := s₁) (g' := (mkF m 62 #[.val (.ref ca), .val (.int 2), .val (.int 4)] [])) (fun t k => XS.icmpNo X0.here hx rfl (hb hby d5_59) rfl (teq hc59_12).2 k) ?_
          refine own_by (T' := s₁) (g' := (mkF m 63 #[.val (.ref ca), .val (.int 2), .val (.int 4)] [(.int 4)])) (fun t k => XS.iloadN X0.here hx rfl (hb hby d5_62) rfl k) ?_
          refine own_by (T' := s₁) (g' := (mkF m 64 #[.val (.ref ca), .val (.int 2), .val (.int 4)] [(.int 5), (.int 4)])) (fun t k => XS.iconst X0.here hx rfl (hb hby d5_63) k) ?_
          refine own_by (T' := s₁) (g' := (mkF m 78 #[.val (.ref ca), .val (.int 2), .val (.int 4)] [])) (fun t k => XS.icmpYes X0.here hx rfl (pc0 := 64) (pc' := 78) rfl (hb hby d5_64) rfl (tlt (by decide)).1 (by decide) (by decide) k) ?_
          refine own_by (T' := s₁) (g' := (mkF m 79 #[.val (.ref ca), .val (.int 2), .val (.int 4)] [(.int 1)])) (fun t k => XS.iconst X0.here hx rfl (hb hby d5_78) k) ?_
          refine own_by (T' := s₁) (g' := (mkF m 83 #[.val (.ref ca), .val (.int 2), .val (.int 4)] [(.int 1)])) (fun t k => XS.goto X0.here hx rfl (pc0 := 79) (pc' := 83) rfl (hb hby d5_79) (by decide) (by decide) k) ?_
          exact own_retN X0 hx (t := .boolean) Bd.notSynchronized Bd.returns (by simp) (hb hby d5_83) (by decide) (by decide) (by rw [e0]; exact ⟨by unfold own_eq2_4; rw [if_pos hc11_3, if_pos hc27_6, if_pos hc43_9, if_pos hc59_12] <;> rfl, N_, rfl⟩)
        · refine own_by (T' := s₁) (g' := (mkF m 82 #[.val (.ref ca), .val (.int 2), .val (.int 4)] [])) (fun t k => XS.icmpYes X0.here hx rfl (pc0 := 59) (pc' := 82) rfl (hb hby d5_59) rfl (feq hc59_12).2 (by decide) (by decide) k) ?_
          refine own_by (T' := s₁) (g' := (mkF m 83 #[.val (.ref ca), .val (.int 2), .val (.int 4)] [(.int 0)])) (fun t k => XS.iconst X0.here hx rfl (hb hby d5_82) k) ?_
          exact own_retN X0 hx (t := .boolean) Bd.notSynchronized Bd.returns (by simp) (hb hby d5_83) (by decide) (by decide) (by rw [e0]; exact ⟨by unfold own_eq2_4; rw [if_pos hc11_3, if_pos hc27_6, if_pos hc43_9, if_neg hc59_12] <;> rfl, N_, rfl⟩)
      · refine own_by (T' := s₁) (g' := (mkF m 82 #[.val (.ref ca), .val (.int 2), .val (.int 4)] [])) (fun t k => XS.icmpYes X0.here hx rfl (pc0 := 43) (pc' := 82) rfl (hb hby d5_43) rfl (feq hc43_9).2 (by decide) (by decide) k) ?_
        refine own_by (T' := s₁) (g' := (mkF m 83 #[.val (.ref ca), .val (.int 2), .val (.int 4)] [(.int 0)])) (fun t k => XS.iconst X0.here hx rfl (hb hby d5_82) k) ?_
        exact own_retN X0 hx (t := .boolean) Bd.notSynchronized Bd.returns (by simp) (hb hby d5_83) (by decide) (by decide) (by rw [e0]; exact ⟨by unfold own_eq2_4; rw [if_pos hc11_3, if_pos hc27_6, if_neg hc43_9] <;> rfl, N_, rfl⟩)
    · refine own_by (T' := s₁) (g' := (mkF m 82 #[.val (.ref ca), .val (.int 2), .val (.int 4)] [])) (fun t k => XS.icmpYes X0.here hx rfl (pc0 := 27) (pc' := 82) rfl (hb hby d5_27) rfl (feq hc27_6).2 (by decide) (by decide) k) ?_
      refine own_by (T' := s₁) (g' := (mkF m 83 #[.val (.ref ca), .val (.int 2), .val (.int 4)] [(.int 0)])) (fun t k => XS.iconst X0.here hx rfl (hb hby d5_82) k) ?_
      exact own_retN X0 hx (t := .boolean) Bd.notSynchronized Bd.returns (by simp) (hb hby d5_83) (by decide) (by decide) (by rw [e0]; exact ⟨by unfold own_eq2_4; rw [if_pos hc11_3, if_neg hc27_6] <;> rfl, N_, rfl⟩)
  · refine own_by (T' := s₁) (g' := (mkF m 82 #[.val (.ref ca), .val (.int 2), .val (.int 4)] [])) (fun t k => XS.icmpYes X0.here hx rfl (pc0 := 11) (pc' := 82) rfl (hb hby d5_11) rfl (feq hc11_3).2 (by decide) (by decide) k) ?_
    refine own_by (T' := s₁) (g' := (mkF m 83 #[.val (.ref ca), .val (.int 2), .val (.int 4)] [(.int 0)])) (fun t k => XS.iconst X0.here hx rfl (hb hby d5_82) k) ?_
    exact own_retN X0 hx (t := .boolean) Bd.notSynchronized Bd.returns (by simp) (hb hby d5_83) (by decide) (by decide) (by rw [e0]; exact ⟨by unfold own_eq2_4; rw [if_neg hc11_3] <;> rfl, N_, rfl⟩)

def Q5_3_1 (Z : State) (ca : Addr) (kc : ClassId) (c0 : Int32) (c1 : Int32) (c2 : Int32) (c3 : Int32) (c4 : Int32) (c5 : Int32) (h0 : Heap) (n0 : Nat) (v : Option Value) (h : Heap) (L : List Loc) : Prop := v = some (.int (own_eq3_1 c0 c1 c2 c3 c4 c5)) ∧ Fr n0 L ∧ h = h0
theorem ef_5_3_1 (m : MethodId) (ca : Addr) : entryFrame m #[(.ref ca), (.int 3), (.int 1)] 3 = mkF m 0 #[.val (.ref ca), .val (.int 3), .val (.int 1)] [] := by first | (simp [entryFrame, mkF, argsToLocals, Value.category]; done) | rfl
set_option maxRecDepth 65536 in
set_option maxHeartbeats 40000000 in
theorem rm5_3_1 (l : Launch) (Z : State) (a0 : Array Value) (hw : ∀ d ∈ tables_1, d.before a0 Z = true) (ws : List Jvm.Cond) (ca : Addr) (kc : ClassId) (c0 : Int32) (c1 : Int32) (c2 : Int32) (c3 : Int32) (c4 : Int32) (c5 : Int32) (h0 : Heap) (n0 : Nat) (Zle : n0 ≤ h0.size) (V_ca : Arv Z h0 ca kc .char (6 : Int32) [(.int c0), (.int c1), (.int c2), (.int c3), (.int c4), (.int c5)] (.int 0)) :
    MetFree l (⟨"com/example/emu/emu/PrefixTableOfPinLaw", "eq", "([CII)Z"⟩ : MethodName) (head1 (Jvm.Cond.code (⟨"com/example/emu/emu/PrefixTableOfPinLaw", "eq", "([CII)Z"⟩ : MethodName) method_5_code 3 (some .boolean) :: ws) ({ frames := 0, cells := 0, slots := 0, locals := 0 } : Room)) (fun a U => a = #[(.ref ca), (.int 3), (.int 1)] ∧ Z.Warmed39 U.vm ∧ U.heap = h0) (fun _ _ _ _ _ => True) (fun _ U o U' => ∃ v L, o = .returned v ∧ Q5_3_1 Z ca kc c0 c1 c2 c3 c4 c5 h0 n0 v U'.heap L ∧ FrameEnd U o U' L ({ frames := 0, cells := 0, slots := 0, locals := 0 } : Room).cells ({ frames := 0, cells := 0, slots := 0, locals := 0 } : Room).slots) := by
  refine MetFree.of_bodySF (plainFor_of_name pn_com_example_emu_emu_PrefixTableOfPinLaw) hisR ?_
  intro p e s m args below meth c s₁ Bd hml0 hP hK
  obtain ⟨rfl, hZ, hh⟩ := hP
  have hx := Bd.exec
  have hby := Bd.bytes
  have hml : c.maxLocals = 3 := hml0
  have hown : s.vm.findClass "com/example/emu/emu/PrefixTableOfPinLaw" = some m.cls := findClass_of_methodNamed Bd.named
  have hnm := (name_of_methodNamed Bd.named Bd.method).1
  have X0 : Stand p l e ({ frames := 0, cells := 0, slots := 0, locals := 0 } : Room) s m #[(.ref ca), (.int 3), (.int 1)] below meth c s₁ [] 0 0 := Stand.of_body Bd
  have e0 : s₁.heap = h0 := by rw [← hh, Bd.state]; rfl
  have N_ := Fr.nil n0
  show own_Goes p.tables e below s (Q5_3_1 Z ca kc c0 c1 c2 c3 c4 c5 h0 n0) ({ frames := 0, cells := 0, slots := 0, locals := 0 } : Room).cells ({ frames := 0, cells := 0, slots := 0, locals := 0 } : Room).slots s₁ (entryFrame m #[(.ref ca), (.int 3), (.int 1)] 3)
  refine own_by (T' := s₁) (g' := (mkF m 0 #[.val (.ref ca), .val (.int 3), .val (.int 1)] [])) (fun t k => castTop (ef_5_3_1 m ca) k) ?_
  refine own_by (T' := s₁) (g' := (mkF m 1 #[.val (.ref ca), .val (.int 3), .val (.int 1)] [(.int 1)])) (fun t k => XS.iloadN X0.here hx rfl (hb hby d5_0) rfl k) ?_
  refine own_by (T' := s₁) (g' := (mkF m 2 #[.val (.ref ca), .val (.int 3), .val (.int 1)] [(.int 1), (.int 1)])) (fun t k => XS.iconst X0.here hx rfl (hb hby d5_1) k) ?_
  refine own_by (T' := s₁) (g' := (mkF m 5 #[.val (.ref ca), .val (.int 3), .val (.int 1)] [])) (fun t k => XS.icmpNo X0.here hx rfl (hb hby d5_2) rfl (flt (by decide)).1 k) ?_
  refine own_by (T' := s₁) (g' := (mkF m 6 #[.val (.ref ca), .val (.int 3), .val (.int 1)] [(.ref ca)])) (fun t k => XS.aloadN X0.here hx rfl (hb hby d5_5) rfl rfl k) ?_
  refine own_by (T' := s₁) (g' := (mkF m 7 #[.val (.ref ca), .val (.int 3), .val (.int 1)] [(.int 0), (.ref ca)])) (fun t k => XS.iconst X0.here hx rfl (hb hby d5_6) k) ?_
  obtain ⟨cl1, Ar1, q1, S1, N1, Hs1, G1⟩ := id V_ca
  have hin1 : ¬ ((0 : Int32) < 0 ∨ cl1.slots.size ≤ ((0 : Int32)).toNatClampNeg) := inb_of S1 ⟨by decide, by decide⟩
  have hat1 : cl1.slots[((0 : Int32)).toNatClampNeg]? = some (.int c0) := Hs1.at hin1 rfl
  refine own_by (T' := s₁) (g' := (mkF m 8 #[.val (.ref ca), .val (.int 3), .val (.int 1)] [(.int c0)])) (fun t k => X0.caload hx (j := (0 : Int32)) (v := (.int c0)) (by rw [e0]; exact Ar1.1) (State.isArrayOf_alike hZ.alike Ar1.2.1) Ar1.2.2 hin1 hat1 (g := (mkF m 7 #[.val (.ref ca), .val (.int 3), .val (.int 1)] [(.int 0), (.ref ca)])) rfl rfl (hb hby d5_7) _ k) ?_
  clear hat1 hin1 G1 Hs1 N1 S1 q1 Ar1 cl1
  refine own_by (T' := s₁) (g' := (mkF m 9 #[.val (.ref ca), .val (.int 3), .val (.int 1)] [(.ref ca), (.int c0)])) (fun t k => XS.aloadN X0.here hx rfl (hb hby d5_8) rfl rfl k) ?_
  refine own_by (T' := s₁) (g' := (mkF m 10 #[.val (.ref ca), .val (.int 3), .val (.int 1)] [(.int 3), (.ref ca), (.int c0)])) (fun t k => XS.iloadN X0.here hx rfl (hb hby d5_9) rfl k) ?_
  obtain ⟨cl2, Ar2, q2, S2, N2, Hs2, G2⟩ := id V_ca
  have hin2 : ¬ ((3 : Int32) < 0 ∨ cl2.slots.size ≤ ((3 : Int32)).toNatClampNeg) := inb_of S2 ⟨by decide, by decide⟩
  have hat2 : cl2.slots[((3 : Int32)).toNatClampNeg]? = some (.int c3) := Hs2.at hin2 rfl
  refine own_by (T' := s₁) (g' := (mkF m 11 #[.val (.ref ca), .val (.int 3), .val (.int 1)] [(.int c3), (.int c0)])) (fun t k => X0.caload hx (j := (3 : Int32)) (v := (.int c3)) (by rw [e0]; exact Ar2.1) (State.isArrayOf_alike hZ.alike Ar2.2.1) Ar2.2.2 hin2 hat2 (g := (mkF m 10 #[.val (.ref ca), .val (.int 3), .val (.int 1)] [(.int 3), (.ref ca), (.int c0)])) rfl rfl (hb hby d5_10) _ k) ?_
  clear hat2 hin2 G2 Hs2 N2 S2 q2 Ar2 cl2
  by_cases hc11_3 : c0 = c3
  · refine own_by (T' := s₁) (g' := (mkF m 14 #[.val (.ref ca), .val (.int 3), .val (.int 1)] [])) (fun t k => XS.icmpNo X0.here hx rfl (hb hby d5_11) rfl (teq hc11_3).2 k) ?_
    refine own_by (T' := s₁) (g' := (mkF m 15 #[.val (.ref ca), .val (.int 3), .val (.int 1)] [(.int 1)])) (fun t k => XS.iloadN X0.here hx rfl (hb hby d5_14) rfl k) ?_
    refine own_by (T' := s₁) (g' := (mkF m 16 #[.val (.ref ca), .val (.int 3), .val (.int 1)] [(.int 2), (.int 1)])) (fun t k => XS.iconst X0.here hx rfl (hb hby d5_15) k) ?_
    refine own_by (T' := s₁) (g' := (mkF m 30 #[.val (.ref ca), .val (.int 3), .val (.int 1)] [])) (fun t k => XS.icmpYes X0.here hx rfl (pc0 := 16) (pc' := 30) rfl (hb hby d5_16) rfl (tlt (by decide)).1 (by decide) (by decide) k) ?_
    refine own_by (T' := s₁) (g' := (mkF m 31 #[.val (.ref ca), .val (.int 3), .val (.int 1)] [(.int 1)])) (fun t k => XS.iloadN X0.here hx rfl (hb hby d5_30) rfl k) ?_
    refine own_by (T' := s₁) (g' := (mkF m 32 #[.val (.ref ca), .val (.int 3), .val (.int 1)] [(.int 3), (.int 1)])) (fun t k => XS.iconst X0.here hx rfl (hb hby d5_31) k) ?_
    refine own_by (T' := s₁) (g' := (mkF m 46 #[.val (.ref ca), .val (.int 3), .val (.int 1)] [])) (fun t k => XS.icmpYes X0.here hx rfl (pc0 := 32) (pc' := 46) rfl (hb hby d5_32) rfl (tlt (by decide)).1 (by decide) (by decide) k) ?_
    refine own_by (T' := s₁) (g' := (mkF m 47 #[.val (.ref ca), .val (.int 3), .val (.int 1)] [(.int 1)])) (fun t k => XS.iloadN X0.here hx rfl (hb hby d5_46) rfl k) ?_
    refine own_by (T' := s₁) (g' := (mkF m 48 #[.val (.ref ca), .val (.int 3), .val (.int 1)] [(.int 4), (.int 1)])) (fun t k => XS.iconst X0.here hx rfl (hb hby d5_47) k) ?_
    refine own_by (T' := s₁) (g' := (mkF m 62 #[.val (.ref ca), .val (.int 3), .val (.int 1)] [])) (fun t k => XS.icmpYes X0.here hx rfl (pc0 := 48) (pc' := 62) rfl (hb hby d5_48) rfl (tlt (by decide)).1 (by decide) (by decide) k) ?_
    refine own_by (T' := s₁) (g' := (mkF m 63 #[.val (.ref ca), .val (.int 3), .val (.int 1)] [(.int 1)])) (fun t k => XS.iloadN X0.here hx rfl (hb hby d5_62) rfl k) ?_
    refine own_by (T' := s₁) (g' := (mkF m 64 #[.val (.ref ca), .val (.int 3), .val (.int 1)] [(.int 5), (.int 1)])) (fun t k => XS.iconst X0.here hx rfl (hb hby d5_63) k) ?_
    refine own_by (T' := s₁) (g' := (mkF m 78 #[.val (.ref ca), .val (.int 3), .val (.int 1)] [])) (fun t k => XS.icmpYes X0.here hx rfl (pc0 := 64) (pc' := 78) rfl (hb hby d5_64) rfl (tlt (by decide)).1 (by decide) (by decide) k) ?_
    refine own_by (T' := s₁) (g' := (mkF m 79 #[.val (.ref ca), .val (.int 3), .val (.int 1)] [(.int 1)])) (fun t k => XS.iconst X0.here hx rfl (hb hby d5_78) k) ?_
    refine own_by (T' := s₁) (g' := (mkF m 83 #[.val (.ref ca), .val (.int 3), .val (.int 1)] [(.int 1)])) (fun t k => XS.goto X0.here hx rfl (pc0 := 79) (pc' := 83) rfl (hb hby d5_79) (by decide) (by decide) k) ?_
    exact own_retN X0 hx (t := .boolean) Bd.notSynchronized Bd.returns (by simp) (hb hby d5_83) (by decide) (by decide) (by rw [e0]; exact ⟨by unfold own_eq3_1; rw [if_pos hc11_3] <;> rfl, N_, rfl⟩)
  · refine own_by (T' := s₁) (g' := (mkF m 82 #[.val (.ref ca), .val (.int 3), .val (.int 1)] [])) (fun t k => XS.icmpYes X0.here hx rfl (pc0 := 11) (pc' := 82) rfl (hb hby d5_11) rfl (feq hc11_3).2 (by decide) (by decide) k) ?_
    refine own_by (T' := s₁) (g' := (mkF m 83 #[.val (.ref ca), .val (.int 3), .val (.int 1)] [(.int 0)])) (fun t k => XS.iconst X0.here hx rfl (hb hby d5_82) k) ?_
    exact own_retN X0 hx (t := .boolean) Bd.notSynchronized Bd.returns (by simp) (hb hby d5_83) (by decide) (by decide) (by rw [e0]; exact ⟨by unfold own_eq3_1; rw [if_neg hc11_3] <;> rfl, N_, rfl⟩)

def Q5_3_2 (Z : State) (ca : Addr) (kc : ClassId) (c0 : Int32) (c1 : Int32) (c2 : Int32) (c3 : Int32) (c4 : Int32) (c5 : Int32) (h0 : Heap) (n0 : Nat) (v : Option Value) (h : Heap) (L : List Loc) : Prop := v = some (.int (own_eq3_2 c0 c1 c2 c3 c4 c5)) ∧ Fr n0 L ∧ h = h0
theorem ef_5_3_2 (m : MethodId) (ca : Addr) : entryFrame m #[(.ref ca), (.int 3), (.int 2)] 3 = mkF m 0 #[.val (.ref ca), .val (.int 3), .val (.int 2)] [] := by first | (simp [entryFrame, mkF, argsToLocals, Value.category]; done) | rfl
set_option maxRecDepth 65536 in
set_option maxHeartbeats 40000000 in
theorem rm5_3_2 (l : Launch) (Z : State) (a0 : Array Value) (hw : ∀ d ∈ tables_1, d.before a0 Z = true) (ws : List Jvm.Cond) (ca : Addr) (kc : ClassId) (c0 : Int32) (c1 : Int32) (c2 : Int32) (c3 : Int32) (c4 : Int32) (c5 : Int32) (h0 : Heap) (n0 : Nat) (Zle : n0 ≤ h0.size) (V_ca : Arv Z h0 ca kc .char (6 : Int32) [(.int c0), (.int c1), (.int c2), (.int c3), (.int c4), (.int c5)] (.int 0)) :
    MetFree l (⟨"com/example/emu/emu/PrefixTableOfPinLaw", "eq", "([CII)Z"⟩ : MethodName) (head1 (Jvm.Cond.code (⟨"com/example/emu/emu/PrefixTableOfPinLaw", "eq", "([CII)Z"⟩ : MethodName) method_5_code 3 (some .boolean) :: ws) ({ frames := 0, cells := 0, slots := 0, locals := 0 } : Room)) (fun a U => a = #[(.ref ca), (.int 3), (.int 2)] ∧ Z.Warmed39 U.vm ∧ U.heap = h0) (fun _ _ _ _ _ => True) (fun _ U o U' => ∃ v L, o = .returned v ∧ Q5_3_2 Z ca kc c0 c1 c2 c3 c4 c5 h0 n0 v U'.heap L ∧ FrameEnd U o U' L ({ frames := 0, cells := 0, slots := 0, locals := 0 } : Room).cells ({ frames := 0, cells := 0, slots := 0, locals := 0 } : Room).slots) := by
  refine MetFree.of_bodySF (plainFor_of_name pn_com_example_emu_emu_PrefixTableOfPinLaw) hisR ?_
  intro p e s m args below meth c s₁ Bd hml0 hP hK
  obtain ⟨rfl, hZ, hh⟩ := hP
  have hx := Bd.exec
  have hby := Bd.bytes
  have hml : c.maxLocals = 3 := hml0
  have hown : s.vm.findClass "com/example/emu/emu/PrefixTableOfPinLaw" = some m.cls := findClass_of_methodNamed Bd.named
  have hnm := (name_of_methodNamed Bd.named Bd.method).1
  have X0 : Stand p l e ({ frames := 0, cells := 0, slots := 0, locals := 0 } : Room) s m #[(.ref ca), (.int 3), (.int 2)] below meth c s₁ [] 0 0 := Stand.of_body Bd
  have e0 : s₁.heap = h0 := by rw [← hh, Bd.state]; rfl
  have N_ := Fr.nil n0
  show own_Goes p.tables e below s (Q5_3_2 Z ca kc c0 c1 c2 c3 c4 c5 h0 n0) ({ frames := 0, cells := 0, slots := 0, locals := 0 } : Room).cells ({ frames := 0, cells := 0, slots := 0, locals := 0 } : Room).slots s₁ (entryFrame m #[(.ref ca), (.int 3), (.int 2)] 3)
  refine own_by (T' := s₁) (g' := (mkF m 0 #[.val (.ref ca), .val (.int 3), .val (.int 2)] [])) (fun t k => castTop (ef_5_3_2 m ca) k) ?_
  refine own_by (T' := s₁) (g' := (mkF m 1 #[.val (.ref ca), .val (.int 3), .val (.int 2)] [(.int 2)])) (fun t k => XS.iloadN X0.here hx rfl (hb hby d5_0) rfl k) ?_
  refine own_by (T' := s₁) (g' := (mkF m 2 #[.val (.ref ca), .val (.int 3), .val (.int 2)] [(.int 1), (.int 2)])) (fun t k => XS.iconst X0.here hx rfl (hb hby d5_1) k) ?_
  refine own_by (T' := s₁) (g' := (mkF m 5 #[.val (.ref ca), .val (.int 3), .val (.int 2)] [])) (fun t k => XS.icmpNo X0.here hx rfl (hb hby d5_2) rfl (flt (by decide)).1 k) ?_
  refine own_by (T' := s₁) (g' := (mkF m 6 #[.val (.ref ca), .val (.int 3), .val (.int 2)] [(.ref ca)])) (fun t k => XS.aloadN X0.here hx rfl (hb hby d5_5) rfl rfl k) ?_
  refine own_by (T' := s₁) (g' := (mkF m 7 #[.val (.ref ca), .val (.int 3), .val (.int 2)] [(.int 0), (.ref ca)])) (fun t k => XS.iconst X0.here hx rfl (hb hby d5_6) k) ?_
  obtain ⟨cl1, Ar1, q1, S1, N1, Hs1, G1⟩ := id V_ca
  have hin1 : ¬ ((0 : Int32) < 0 ∨ cl1.slots.size ≤ ((0 : Int32)).toNatClampNeg) := inb_of S1 ⟨by decide, by decide⟩
  have hat1 : cl1.slots[((0 : Int32)).toNatClampNeg]? = some (.int c0) := Hs1.at hin1 rfl
  refine own_by (T' := s₁) (g' := (mkF m 8 #[.val (.ref ca), .val (.int 3), .val (.int 2)] [(.int c0)])) (fun t k => X0.caload hx (j := (0 : Int32)) (v := (.int c0)) (by rw [e0]; exact Ar1.1) (State.isArrayOf_alike hZ.alike Ar1.2.1) Ar1.2.2 hin1 hat1 (g := (mkF m 7 #[.val (.ref ca), .val (.int 3), .val (.int 2)] [(.int 0), (.ref ca)])) rfl rfl (hb hby d5_7) _ k) ?_
  clear hat1 hin1 G1 Hs1 N1 S1 q1 Ar1 cl1
  refine own_by (T' := s₁) (g' := (mkF m 9 #[.val (.ref ca), .val (.int 3), .val (.int 2)] [(.ref ca), (.int c0)])) (fun t k => XS.aloadN X0.here hx rfl (hb hby d5_8) rfl rfl k) ?_
  refine own_by (T' := s₁) (g' := (mkF m 10 #[.val (.ref ca), .val (.int 3), .val (.int 2)] [(.int 3), (.ref ca), (.int c0)])) (fun t k => XS.iloadN X0.here hx rfl (hb hby d5_9) rfl k) ?_
  obtain ⟨cl2, Ar2, q2, S2, N2, Hs2, G2⟩ := id V_ca
  have hin2 : ¬ ((3 : Int32) < 0 ∨ cl2.slots.size ≤ ((3 : Int32)).toNatClampNeg) := inb_of S2 ⟨by decide, by decide⟩
  have hat2 : cl2.slots[((3 : Int32)).toNatClampNeg]? = some (.int c3) := Hs2.at hin2 rfl
  refine own_by (T' := s₁) (g' := (mkF m 11 #[.val (.ref ca), .val (.int 3), .val (.int 2)] [(.int c3), (.int c0)])) (fun t k => X0.caload hx (j := (3 : Int32)) (v := (.int c3)) (by rw [e0]; exact Ar2.1) (State.isArrayOf_alike hZ.alike Ar2.2.1) Ar2.2.2 hin2 hat2 (g := (mkF m 10 #[.val (.ref ca), .val (.int 3), .val (.int 2)] [(.int 3), (.ref ca), (.int c0)])) rfl rfl (hb hby d5_10) _ k) ?_
  clear hat2 hin2 G2 Hs2 N2 S2 q2 Ar2 cl2
  by_cases hc11_3 : c0 = c3
  · refine own_by (T' := s₁) (g' := (mkF m 14 #[.val (.ref ca), .val (.int 3), .val (.int 2)] [])) (fun t k => XS.icmpNo X0.here hx rfl (hb hby d5_11) rfl (teq hc11_3).2 k) ?_
    refine own_by (T' := s₁) (g' := (mkF m 15 #[.val (.ref ca), .val (.int 3), .val (.int 2)] [(.int 2)])) (fun t k => XS.iloadN X0.here hx rfl (hb hby d5_14) rfl k) ?_
    refine own_by (T' := s₁) (g' := (mkF m 16 #[.val (.ref ca), .val (.int 3), .val (.int 2)] [(.int 2), (.int 2)])) (fun t k => XS.iconst X0.here hx rfl (hb hby d5_15) k) ?_
    refine own_by (T' := s₁) (g' := (mkF m 19 #[.val (.ref ca), .val (.int 3), .val (.int 2)] [])) (fun t k => XS.icmpNo X0.here hx rfl (hb hby d5_16) rfl (flt (by decide)).1 k) ?_
    refine own_by (T' := s₁) (g' := (mkF m 20 #[.val (.ref ca), .val (.int 3), .val (.int 2)] [(.ref ca)])) (fun t k => XS.aloadN X0.here hx rfl (hb hby d5_19) rfl rfl k) ?_
    refine own_by (T' := s₁) (g' := (mkF m 21 #[.val (.ref ca), .val (.int 3), .val (.int 2)] [(.int 1), (.ref ca)])) (fun t k => XS.iconst X0.here hx rfl (hb hby d5_20) k) ?_
    obtain ⟨cl4, Ar4, q4, S4, N4, Hs4, G4⟩ := id V_ca
    have hin4 : ¬ ((1 : Int32) < 0 ∨ cl4.slots.size ≤ ((1 : Int32)).toNatClampNeg) := inb_of S4 ⟨by decide, by decide⟩
    have hat4 : cl4.slots[((1 : Int32)).toNatClampNeg]? = some (.int c1) := Hs4.at hin4 rfl
    refine own_by (T' := s₁) (g' := (mkF m 22 #[.val (.ref ca), .val (.int 3), .val (.int 2)] [(.int c1)])) (fun t k => X0.caload hx (j := (1 : Int32)) (v := (.int c1)) (by rw [e0]; exact Ar4.1) (State.isArrayOf_alike hZ.alike Ar4.2.1) Ar4.2.2 hin4 hat4 (g := (mkF m 21 #[.val (.ref ca), .val (.int 3), .val (.int 2)] [(.int 1), (.ref ca)])) rfl rfl (hb hby d5_21) _ k) ?_
    clear hat4 hin4 G4 Hs4 N4 S4 q4 Ar4 cl4
    refine own_by (T' := s₁) (g' := (mkF m 23 #[.val (.ref ca), .val (.int 3), .val (.int 2)] [(.ref ca), (.int c1)])) (fun t k => XS.aloadN X0.here hx rfl (hb hby d5_22) rfl rfl k) ?_
    refine own_by (T' := s₁) (g' := (mkF m 24 #[.val (.ref ca), .val (.int 3), .val (.int 2)] [(.int 3), (.ref ca), (.int c1)])) (fun t k => XS.iloadN X0.here hx rfl (hb hby d5_23) rfl k) ?_
    refine own_by (T' := s₁) (g' := (mkF m 25 #[.val (.ref ca), .val (.int 3), .val (.int 2)] [(.int 1), (.int 3), (.ref ca), (.int c1)])) (fun t k => XS.iconst X0.here hx rfl (hb hby d5_24) k) ?_
    refine own_by (T' := s₁) (g' := (mkF m 26 #[.val (.ref ca), .val (.int 3), .val (.int 2)] [(.int 4), (.ref ca), (.int c1)])) (fun t k => XS.iadd X0.here hx rfl (hb hby d5_25) rfl k) ?_
    obtain ⟨cl5, Ar5, q5, S5, N5, Hs5, G5⟩ := id V_ca
    have hin5 : ¬ ((4 : Int32) < 0 ∨ cl5.slots.size ≤ ((4 : Int32)).toNatClampNeg) := inb_of S5 ⟨by decide, by decide⟩
    have hat5 : cl5.slots[((4 : Int32)).toNatClampNeg]? = some (.int c4) := Hs5.at hin5 rfl
    refine own_by (T' := s₁) (g' := (mkF m 27 #[.val (.ref ca), .val (.int 3), .val (.int 2)] [(.int c4), (.int c1)])) (fun t k => X0.caload hx (j := (4 : Int32)) (v := (.int c4)) (by rw [e0]; exact Ar5.1) (State.isArrayOf_alike hZ.alike Ar5.2.1) Ar5.2.2 hin5 hat5 (g := (mkF m 26 #[.val (.ref ca), .val (.int 3), .val (.int 2)] [(.int 4), (.ref ca), (.int c1)])) rfl rfl (hb hby d5_26) _ k) ?_
    clear hat5 hin5 G5 Hs5 N5 S5 q5 Ar5 cl5
    by_cases hc27_6 : c1 = c4
    · refine own_by (T' := s₁) (g' := (mkF m 30 #[.val (.ref ca), .val (.int 3), .val (.int 2)] [])) (fun t k => XS.icmpNo X0.here hx rfl (hb hby d5_27) rfl (teq hc27_6).2 k) ?_
      refine own_by (T' := s₁) (g' := (mkF m 31 #[.val (.ref ca), .val (.int 3), .val (.int 2)] [(.int 2)])) (fun t k => XS.iloadN X0.here hx rfl (hb hby d5_30) rfl k) ?_
      refine own_by (T' := s₁) (g' := (mkF m 32 #[.val (.ref ca), .val (.int 3), .val (.int 2)] [(.int 3), (.int 2)])) (fun t k => XS.iconst X0.here hx rfl (hb hby d5_31) k) ?_
      refine own_by (T' := s₁) (g' := (mkF m 46 #[.val (.ref ca), .val (.int 3), .val (.int 2)] [])) (fun t k => XS.icmpYes X0.here hx rfl (pc0 := 32) (pc' := 46) rfl (hb hby d5_32) rfl (tlt (by decide)).1 (by decide) (by decide) k) ?_
      refine own_by (T' := s₁) (g' := (mkF m 47 #[.val (.ref ca), .val (.int 3), .val (.int 2)] [(.int 2)])) (fun t k => XS.iloadN X0.here hx rfl (hb hby d5_46) rfl k) ?_
      refine own_by (T' := s₁) (g' := (mkF m 48 #[.val (.ref ca), .val (.int 3), .val (.int 2)] [(.int 4), (.int 2)])) (fun t k => XS.iconst X0.here hx rfl (hb hby d5_47) k) ?_
      refine own_by (T' := s₁) (g' := (mkF m 62 #[.val (.ref ca), .val (.int 3), .val (.int 2)] [])) (fun t k => XS.icmpYes X0.here hx rfl (pc0 := 48) (pc' := 62) rfl (hb hby d5_48) rfl (tlt (by decide)).1 (by decide) (by decide) k) ?_
      refine own_by (T' := s₁) (g' := (mkF m 63 #[.val (.ref ca), .val (.int 3), .val (.int 2)] [(.int 2)])) (fun t k => XS.iloadN X0.here hx rfl (hb hby d5_62) rfl k) ?_
      refine own_by (T' := s₁) (g' := (mkF m 64 #[.val (.ref ca), .val (.int 3), .val (.int 2)] [(.int 5), (.int 2)])) (fun t k => XS.iconst X0.here hx rfl (hb hby d5_63) k) ?_
      refine own_by (T' := s₁) (g' := (mkF m 78 #[.val (.ref ca), .val (.int 3), .val (.int 2)] [])) (fun t k => XS.icmpYes X0.here hx rfl (pc0 := 64) (pc' := 78) rfl (hb hby d5_64) rfl (tlt (by decide)).1 (by decide) (by decide) k) ?_
      refine own_by (T' := s₁) (g' := (mkF m 79 #[.val (.ref ca), .val (.int 3), .val (.int 2)] [(.int 1)])) (fun t k => XS.iconst X0.here hx rfl (hb hby d5_78) k) ?_
      refine own_by (T' := s₁) (g' := (mkF m 83 #[.val (.ref ca), .val (.int 3), .val (.int 2)] [(.int 1)])) (fun t k => XS.goto X0.here hx rfl (pc0 := 79) (pc' := 83) rfl (hb hby d5_79) (by decide) (by decide) k) ?_
      exact own_retN X0 hx (t := .boolean) Bd.notSynchronized Bd.returns (by simp) (hb hby d5_83) (by decide) (by decide) (by rw [e0]; exact ⟨by unfold own_eq3_2; rw [if_pos hc11_3, if_pos hc27_6] <;> rfl, N_, rfl⟩)
    · refine own_by (T' := s₁) (g' := (mkF m 82 #[.val (.ref ca), .val (.int 3), .val (.int 2)] [])) (fun t k => XS.icmpYes X0.here hx rfl (pc0 := 27) (pc' := 82) rfl (hb hby d5_27) rfl (feq hc27_6).2 (by decide) (by decide) k) ?_
      refine own_by (T' := s₁) (g' := (mkF m 83 #[.val (.ref ca), .val (.int 3), .val (.int 2)] [(.int 0)])) (fun t k => XS.iconst X0.here hx rfl (hb hby d5_82) k) ?_
      exact own_retN X0 hx (t := .boolean) Bd.notSynchronized Bd.returns (by simp) (hb hby d5_83) (by decide) (by decide) (by rw [e0]; exact ⟨by unfold own_eq3_2; rw [if_pos hc11_3, if_neg hc27_6] <;> rfl, N_, rfl⟩)
  · refine own_by (T' := s₁) (g' := (mkF m 82 #[.val (.ref ca), .val (.int 3), .val (.int 2)] [])) (fun t k => XS.icmpYes X0.here hx rfl (pc0 := 11) (pc' := 82) rfl (hb hby d5_11) rfl (feq hc11_3).2 (by decide) (by decide) k) ?_
    refine own_by (T' := s₁) (g' := (mkF m 83 #[.val (.ref ca), .val (.int 3), .val (.int 2)] [(.int 0)])) (fun t k => XS.iconst X0.here hx rfl (hb hby d5_82) k) ?_
    exact own_retN X0 hx (t := .boolean) Bd.notSynchronized Bd.returns (by simp) (hb hby d5_83) (by decide) (by decide) (by rw [e0]; exact ⟨by unfold own_eq3_2; rw [if_neg hc11_3] <;> rfl, N_, rfl⟩)

def Q5_3_3 (Z : State) (ca : Addr) (kc : ClassId) (c0 : Int32) (c1 : Int32) (c2 : Int32) (c3 : Int32) (c4 : Int32) (c5 : Int32) (h0 : Heap) (n0 : Nat) (v : Option Value) (h : Heap) (L : List Loc) : Prop := v = some (.int (own_eq3_3 c0 c1 c2 c3 c4 c5)) ∧ Fr n0 L ∧ h = h0
theorem ef_5_3_3 (m : MethodId) (ca : Addr) : entryFrame m #[(.ref ca), (.int 3), (.int 3)] 3 = mkF m 0 #[.val (.ref ca), .val (.int 3), .val (.int 3)] [] := by first | (simp [entryFrame, mkF, argsToLocals, Value.category]; done) | rfl
set_option maxRecDepth 65536 in
set_option maxHeartbeats 40000000 in
theorem rm5_3_3 (l : Launch) (Z : State) (a0 : Array Value) (hw : ∀ d ∈ tables_1, d.before a0 Z = true) (ws : List Jvm.Cond) (ca : Addr) (kc : ClassId) (c0 : Int32) (c1 : Int32) (c2 : Int32) (c3 : Int32) (c4 : Int32) (c5 : Int32) (h0 : Heap) (n0 : Nat) (Zle : n0 ≤ h0.size) (V_ca : Arv Z h0 ca kc .char (6 : Int32) [(.int c0), (.int c1), (.int c2), (.int c3), (.int c4), (.int c5)] (.int 0)) :
    MetFree l (⟨"com/example/emu/emu/PrefixTableOfPinLaw", "eq", "([CII)Z"⟩ : MethodName) (head1 (Jvm.Cond.code (⟨"com/example/emu/emu/PrefixTableOfPinLaw", "eq", "([CII)Z"⟩ : MethodName) method_5_code 3 (some .boolean) :: ws) ({ frames := 0, cells := 0, slots := 0, locals := 0 } : Room)) (fun a U => a = #[(.ref ca), (.int 3), (.int 3)] ∧ Z.Warmed39 U.vm ∧ U.heap = h0) (fun _ _ _ _ _ => True) (fun _ U o U' => ∃ v L, o = .returned v ∧ Q5_3_3 Z ca kc c0 c1 c2 c3 c4 c5 h0 n0 v U'.heap L ∧ FrameEnd U o U' L ({ frames := 0, cells := 0, slots := 0, locals := 0 } : Room).cells ({ frames := 0, cells := 0, slots := 0, locals := 0 } : Room).slots) := by
  refine MetFree.of_bodySF (plainFor_of_name pn_com_example_emu_emu_PrefixTableOfPinLaw) hisR ?_
  intro p e s m args below meth c s₁ Bd hml0 hP hK
  obtain ⟨rfl, hZ, hh⟩ := hP
  have hx := Bd.exec
  have hby := Bd.bytes
  have hml : c.maxLocals = 3 := hml0
  have hown : s.vm.findClass "com/example/emu/emu/PrefixTableOfPinLaw" = some m.cls := findClass_of_methodNamed Bd.named
  have hnm := (name_of_methodNamed Bd.named Bd.method).1
  have X0 : Stand p l e ({ frames := 0, cells := 0, slots := 0, locals := 0 } : Room) s m #[(.ref ca), (.int 3), (.int 3)] below meth c s₁ [] 0 0 := Stand.of_body Bd
  have e0 : s₁.heap = h0 := by rw [← hh, Bd.state]; rfl
  have N_ := Fr.nil n0
  show own_Goes p.tables e below s (Q5_3_3 Z ca kc c0 c1 c2 c3 c4 c5 h0 n0) ({ frames := 0, cells := 0, slots := 0, locals := 0 } : Room).cells ({ frames := 0, cells := 0, slots := 0, locals := 0 } : Room).slots s₁ (entryFrame m #[(.ref ca), (.int 3), (.int 3)] 3)
  refine own_by (T' := s₁) (g' := (mkF m 0 #[.val (.ref ca), .val (.int 3), .val (.int 3)] [])) (fun t k => castTop (ef_5_3_3 m ca) k) ?_
  refine own_by (T' := s₁) (g' := (mkF m 1 #[.val (.ref ca), .val (.int 3), .val (.int 3)] [(.int 3)])) (fun t k => XS.iloadN X0.here hx rfl (hb hby d5_0) rfl k) ?_
  refine own_by (T' := s₁) (g' := (mkF m 2 #[.val (.ref ca), .val (.int 3), .val (.int 3)] [(.int 1), (.int 3)])) (fun t k => XS.iconst X0.here hx rfl (hb hby d5_1) k) ?_
  refine own_by (T' := s₁) (g' := (mkF m 5 #[.val (.ref ca), .val (.int 3), .val (.int 3)] [])) (fun t k => XS.icmpNo X0.here hx rfl (hb hby d5_2) rfl (flt (by decide)).1 k) ?_
  refine own_by (T' := s₁) (g' := (mkF m 6 #[.val (.ref ca), .val (.int 3), .val (.int 3)] [(.ref ca)])) (fun t k => XS.aloadN X0.here hx rfl (hb hby d5_5) rfl rfl k) ?_
  refine own_by (T' := s₁) (g' := (mkF m 7 #[.val (.ref ca), .val (.int 3), .val (.int 3)] [(.int 0), (.ref ca)])) (fun t k => XS.iconst X0.here hx rfl (hb hby d5_6) k) ?_
  obtain ⟨cl1, Ar1, q1, S1, N1, Hs1, G1⟩ := id V_ca
  have hin1 : ¬ ((0 : Int32) < 0 ∨ cl1.slots.size ≤ ((0 : Int32)).toNatClampNeg) := inb_of S1 ⟨by decide, by decide⟩
  have hat1 : cl1.slots[((0 : Int32)).toNatClampNeg]? = some (.int c0) := Hs1.at hin1 rfl
  refine own_by (T' := s₁) (g' := (mkF m 8 #[.val (.ref ca), .val (.int 3), .val (.int 3)] [(.int c0)])) (fun t k => X0.caload hx (j := (0 : Int32)) (v := (.int c0)) (by rw [e0]; exact Ar1.1) (State.isArrayOf_alike hZ.alike Ar1.2.1) Ar1.2.2 hin1 hat1 (g := (mkF m 7 #[.val (.ref ca), .val (.int 3), .val (.int 3)] [(.int 0), (.ref ca)])) rfl rfl (hb hby d5_7) _ k) ?_
  clear hat1 hin1 G1 Hs1 N1 S1 q1 Ar1 cl1
  refine own_by (T' := s₁) (g' := (mkF m 9 #[.val (.ref ca), .val (.int 3), .val (.int 3)] [(.ref ca), (.int c0)])) (fun t k => XS.aloadN X0.here hx rfl (hb hby d5_8) rfl rfl k) ?_
  refine own_by (T' := s₁) (g' := (mkF m 10 #[.val (.ref ca), .val (.int 3), .val (.int 3)] [(.int 3), (.ref ca), (.int c0)])) (fun t k => XS.iloadN X0.here hx rfl (hb hby d5_9) rfl k) ?_
  obtain ⟨cl2, Ar2, q2, S2, N2, Hs2, G2⟩ := id V_ca
  have hin2 : ¬ ((3 : Int32) < 0 ∨ cl2.slots.size ≤ ((3 : Int32)).toNatClampNeg) := inb_of S2 ⟨by decide, by decide⟩
  have hat2 : cl2.slots[((3 : Int32)).toNatClampNeg]? = some (.int c3) := Hs2.at hin2 rfl
  refine own_by (T' := s₁) (g' := (mkF m 11 #[.val (.ref ca), .val (.int 3), .val (.int 3)] [(.int c3), (.int c0)])) (fun t k => X0.caload hx (j := (3 : Int32)) (v := (.int c3)) (by rw [e0]; exact Ar2.1) (State.isArrayOf_alike hZ.alike Ar2.2.1) Ar2.2.2 hin2 hat2 (g := (mkF m 10 #[.val (.ref ca), .val (.int 3), .val (.int 3)] [(.int 3), (.ref ca), (.int c0)])) rfl rfl (hb hby d5_10) _ k) ?_
  clear hat2 hin2 G2 Hs2 N2 S2 q2 Ar2 cl2
  by_cases hc11_3 : c0 = c3
  · refine own_by (T' := s₁) (g' := (mkF m 14 #[.val (.ref ca), .val (.int 3), .val (.int 3)] [])) (fun t k => XS.icmpNo X0.here hx rfl (hb hby d5_11) rfl (teq hc11_3).2 k) ?_
    refine own_by (T' := s₁) (g' := (mkF m 15 #[.val (.ref ca), .val (.int 3), .val (.int 3)] [(.int 3)])) (fun t k => XS.iloadN X0.here hx rfl (hb hby d5_14) rfl k) ?_
    refine own_by (T' := s₁) (g' := (mkF m 16 #[.val (.ref ca), .val (.int 3), .val (.int 3)] [(.int 2), (.int 3)])) (fun t k => XS.iconst X0.here hx rfl (hb hby d5_15) k) ?_
    refine own_by (T' := s₁) (g' := (mkF m 19 #[.val (.ref ca), .val (.int 3), .val (.int 3)] [])) (fun t k => XS.icmpNo X0.here hx rfl (hb hby d5_16) rfl (flt (by decide)).1 k) ?_
    refine own_by (T' := s₁) (g' := (mkF m 20 #[.val (.ref ca), .val (.int 3), .val (.int 3)] [(.ref ca)])) (fun t k => XS.aloadN X0.here hx rfl (hb hby d5_19) rfl rfl k) ?_
    refine own_by (T' := s₁) (g' := (mkF m 21 #[.val (.ref ca), .val (.int 3), .val (.int 3)] [(.int 1), (.ref ca)])) (fun t k => XS.iconst X0.here hx rfl (hb hby d5_20) k) ?_
    obtain ⟨cl4, Ar4, q4, S4, N4, Hs4, G4⟩ := id V_ca
    have hin4 : ¬ ((1 : Int32) < 0 ∨ cl4.slots.size ≤ ((1 : Int32)).toNatClampNeg) := inb_of S4 ⟨by decide, by decide⟩
    have hat4 : cl4.slots[((1 : Int32)).toNatClampNeg]? = some (.int c1) := Hs4.at hin4 rfl
    refine own_by (T' := s₁) (g' := (mkF m 22 #[.val (.ref ca), .val (.int 3), .val (.int 3)] [(.int c1)])) (fun t k => X0.caload hx (j := (1 : Int32)) (v := (.int c1)) (by rw [e0]; exact Ar4.1) (State.isArrayOf_alike hZ.alike Ar4.2.1) Ar4.2.2 hin4 hat4 (g := (mkF m 21 #[.val (.ref ca), .val (.int 3), .val (.int 3)] [(.int 1), (.ref ca)])) rfl rfl (hb hby d5_21) _ k) ?_
    clear hat4 hin4 G4 Hs4 N4 S4 q4 Ar4 cl4
    refine own_by (T' := s₁) (g' := (mkF m 23 #[.val (.ref ca), .val (.int 3), .val (.int 3)] [(.ref ca), (.int c1)])) (fun t k => XS.aloadN X0.here hx rfl (hb hby d5_22) rfl rfl k) ?_
    refine own_by (T' := s₁) (g' := (mkF m 24 #[.val (.ref ca), .val (.int 3), .val (.int 3)] [(.int 3), (.ref ca), (.int c1)])) (fun t k => XS.iloadN X0.here hx rfl (hb hby d5_23) rfl k) ?_
    refine own_by (T' := s₁) (g' := (mkF m 25 #[.val (.ref ca), .val (.int 3), .val (.int 3)] [(.int 1), (.int 3), (.ref ca), (.int c1)])) (fun t k => XS.iconst X0.here hx rfl (hb hby d5_24) k) ?_
    refine own_by (T' := s₁) (g' := (mkF m 26 #[.val (.ref ca), .val (.int 3), .val (.int 3)] [(.int 4), (.ref ca), (.int c1)])) (fun t k => XS.iadd X0.here hx rfl (hb hby d5_25) rfl k) ?_
    obtain ⟨cl5, Ar5, q5, S5, N5, Hs5, G5⟩ := id V_ca
    have hin5 : ¬ ((4 : Int32) < 0 ∨ cl5.slots.size ≤ ((4 : Int32)).toNatClampNeg) := inb_of S5 ⟨by decide, by decide⟩
    have hat5 : cl5.slots[((4 : Int32)).toNatClampNeg]? = some (.int c4) := Hs5.at hin5 rfl
    refine own_by (T' := s₁) (g' := (mkF m 27 #[.val (.ref ca), .val (.int 3), .val (.int 3)] [(.int c4), (.int c1)])) (fun t k => X0.caload hx (j := (4 : Int32)) (v := (.int c4)) (by rw [e0]; exact Ar5.1) (State.isArrayOf_alike hZ.alike Ar5.2.1) Ar5.2.2 hin5 hat5 (g := (mkF m 26 #[.val (.ref ca), .val (.int 3), .val (.int 3)] [(.int 4), (.ref ca), (.int c1)])) rfl rfl (hb hby d5_26) _ k) ?_
    clear hat5 hin5 G5 Hs5 N5 S5 q5 Ar5 cl5
    by_cases hc27_6 : c1 = c4
    · refine own_by (T' := s₁) (g' := (mkF m 30 #[.val (.ref ca), .val (.int 3), .val (.int 3)] [])) (fun t k => XS.icmpNo X0.here hx rfl (hb hby d5_27) rfl (teq hc27_6).2 k) ?_
      refine own_by (T' := s₁) (g' := (mkF m 31 #[.val (.ref ca), .val (.int 3), .val (.int 3)] [(.int 3)])) (fun t k => XS.iloadN X0.here hx rfl (hb hby d5_30) rfl k) ?_
      refine own_by (T' := s₁) (g' := (mkF m 32 #[.val (.ref ca), .val (.int 3), .val (.int 3)] [(.int 3), (.int 3)])) (fun t k => XS.iconst X0.here hx rfl (hb hby d5_31) k) ?_
      refine own_by (T' := s₁) (g' := (mkF m 35 #[.val (.ref ca), .val (.int 3), .val (.int 3)] [])) (fun t k => XS.icmpNo X0.here hx rfl (hb hby d5_32) rfl (flt (by decide)).1 k) ?_
      refine own_by (T' := s₁) (g' := (mkF m 36 #[.val (.ref ca), .val (.int 3), .val (.int 3)] [(.ref ca)])) (fun t k => XS.aloadN X0.here hx rfl (hb hby d5_35) rfl rfl k) ?_
      refine own_by (T' := s₁) (g' := (mkF m 37 #[.val (.ref ca), .val (.int 3), .val (.int 3)] [(.int 2), (.ref ca)])) (fun t k => XS.iconst X0.here hx rfl (hb hby d5_36) k) ?_
      obtain ⟨cl7, Ar7, q7, S7, N7, Hs7, G7⟩ := id V_ca
      have hin7 : ¬ ((2 : Int32) < 0 ∨ cl7.slots.size ≤ ((2 : Int32)).toNatClampNeg) := inb_of S7 ⟨by decide, by decide⟩
      have hat7 : cl7.slots[((2 : Int32)).toNatClampNeg]? = some (.int c2) := Hs7.at hin7 rfl
      refine own_by (T' := s₁) (g' := (mkF m 38 #[.val (.ref ca), .val (.int 3), .val (.int 3)] [(.int c2)])) (fun t k => X0.caload hx (j := (2 : Int32)) (v := (.int c2)) (by rw [e0]; exact Ar7.1) (State.isArrayOf_alike hZ.alike Ar7.2.1) Ar7.2.2 hin7 hat7 (g := (mkF m 37 #[.val (.ref ca), .val (.int 3), .val (.int 3)] [(.int 2), (.ref ca)])) rfl rfl (hb hby d5_37) _ k) ?_
      clear hat7 hin7 G7 Hs7 N7 S7 q7 Ar7 cl7
      refine own_by (T' := s₁) (g' := (mkF m 39 #[.val (.ref ca), .val (.int 3), .val (.int 3)] [(.ref ca), (.int c2)])) (fun t k => XS.aloadN X0.here hx rfl (hb hby d5_38) rfl rfl k) ?_
      refine own_by (T' := s₁) (g' := (mkF m 40 #[.val (.ref ca), .val (.int 3), .val (.int 3)] [(.int 3), (.ref ca), (.int c2)])) (fun t k => XS.iloadN X0.here hx rfl (hb hby d5_39) rfl k) ?_
      refine own_by (T' := s₁) (g' := (mkF m 41 #[.val (.ref ca), .val (.int 3), .val (.int 3)] [(.int 2), (.int 3), (.ref ca), (.int c2)])) (fun t k => XS.iconst X0.here hx rfl (hb hby d5_40) k) ?_
      refine own_by (T' := s₁) (g' := (mkF m 42 #[.val (.ref ca), .val (.int 3), .val (.int 3)] [(.int 5), (.ref ca), (.int c2)])) (fun t k => XS.iadd X0.here hx rfl (hb hby d5_41) rfl k) ?_
      obtain ⟨cl8, Ar8, q8, S8, N8, Hs8, G8⟩ := id V_ca
      have hin8 : ¬ ((5 : Int32) < 0 ∨ cl8.slots.size ≤ ((5 : Int32)).toNatClampNeg) := inb_of S8 ⟨by decide, by decide⟩
      have hat8 : cl8.slots[((5 : Int32)).toNatClampNeg]? = some (.int c5) := Hs8.at hin8 rfl
      refine own_by (T' := s₁) (g' := (mkF m 43 #[.val (.ref ca), .val (.int 3), .val (.int 3)] [(.int c5), (.int c2)])) (fun t k => X0.caload hx (j := (5 : Int32)) (v := (.int c5)) (by rw [e0]; exact Ar8.1) (State.isArrayOf_alike hZ.alike Ar8.2.1) Ar8.2.2 hin8 hat8 (g := (mkF m 42 #[.val (.ref ca), .val (.int 3), .val (.int 3)] [(.int 5), (.ref ca), (.int c2)])) rfl rfl (hb hby d5_42) _ k) ?_
      clear hat8 hin8 G8 Hs8 N8 S8 q8 Ar8 cl8
      by_cases hc43_9 : c2 = c5
      · refine own_by (T' := s₁) (g' := (mkF m 46 #[.val (.ref ca), .val (.int 3), .val (.int 3)] [])) (fun t k => XS.icmpNo X0.here hx rfl (hb hby d5_43) rfl (teq hc43_9).2 k) ?_
        refine own_by (T' := s₁) (g' := (mkF m 47 #[.val (.ref ca), .val (.int 3), .val (.int 3)] [(.int 3)])) (fun t k => XS.iloadN X0.here hx rfl (hb hby d5_46) rfl k) ?_
        refine own_by (T' := s₁) (g' := (mkF m 48 #[.val (.ref ca), .val (.int 3), .val (.int 3)] [(.int 4), (.int 3)])) (fun t k => XS.iconst X0.here hx rfl (hb hby d5_47) k) ?_
        refine own_by (T' := s₁) (g' := (mkF m 62 #[.val (.ref ca), .val (.int 3), .val (.int 3)] [])) (fun t k => XS.icmpYes X0.here hx rfl (pc0 := 48) (pc' := 62) rfl (hb hby d5_48) rfl (tlt (by decide)).1 (by decide) (by decide) k) ?_
        refine own_by (T' := s₁) (g' := (mkF m 63 #[.val (.ref ca), .val (.int 3), .val (.int 3)] [(.int 3)])) (fun t k => XS.iloadN X0.here hx rfl (hb hby d5_62) rfl k) ?_
        refine own_by (T' := s₁) (g' := (mkF m 64 #[.val (.ref ca), .val (.int 3), .val (.int 3)] [(.int 5), (.int 3)])) (fun t k => XS.iconst X0.here hx rfl (hb hby d5_63) k) ?_
        refine own_by (T' := s₁) (g' := (mkF m 78 #[.val (.ref ca), .val (.int 3), .val (.int 3)] [])) (fun t k => XS.icmpYes X0.here hx rfl (pc0 := 64) (pc' := 78) rfl (hb hby d5_64) rfl (tlt (by decide)).1 (by decide) (by decide) k) ?_
        refine own_by (T' := s₁) (g' := (mkF m 79 #[.val (.ref ca), .val (.int 3), .val (.int 3)] [(.int 1)])) (fun t k => XS.iconst X0.here hx rfl (hb hby d5_78) k) ?_
        refine own_by (T' := s₁) (g' := (mkF m 83 #[.val (.ref ca), .val (.int 3), .val (.int 3)] [(.int 1)])) (fun t k => XS.goto X0.here hx rfl (pc0 := 79) (pc' := 83) rfl (hb hby d5_79) (by decide) (by decide) k) ?_
        exact own_retN X0 hx (t := .boolean) Bd.notSynchronized Bd.returns (by simp) (hb hby d5_83) (by decide) (by decide) (by rw [e0]; exact ⟨by unfold own_eq3_3; rw [if_pos hc11_3, if_pos hc27_6, if_pos hc43_9] <;> rfl, N_, rfl⟩)
      · refine own_by (T' := s₁) (g' := (mkF m 82 #[.val (.ref ca), .val (.int 3), .val (.int 3)] [])) (fun t k => XS.icmpYes X0.here hx rfl (pc0 := 43) (pc' := 82) rfl (hb hby d5_43) rfl (feq hc43_9).2 (by decide) (by decide) k) ?_
        refine own_by (T' := s₁) (g' := (mkF m 83 #[.val (.ref ca), .val (.int 3), .val (.int 3)] [(.int 0)])) (fun t k => XS.iconst X0.here hx rfl (hb hby d5_82) k) ?_
        exact own_retN X0 hx (t := .boolean) Bd.notSynchronized Bd.returns (by simp) (hb hby d5_83) (by decide) (by decide) (by rw [e0]; exact ⟨by unfold own_eq3_3; rw [if_pos hc11_3, if_pos hc27_6, if_neg hc43_9] <;> rfl, N_, rfl⟩)
    · refine own_by (T' := s₁) (g' := (mkF m 82 #[.val (.ref ca), .val (.int 3), .val (.int 3)] [])) (fun t k => XS.icmpYes X0.here hx rfl (pc0 := 27) (pc' := 82) rfl (hb hby d5_27) rfl (feq hc27_6).2 (by decide) (by decide) k) ?_
      refine own_by (T' := s₁) (g' := (mkF m 83 #[.val (.ref ca), .val (.int 3), .val (.int 3)] [(.int 0)])) (fun t k => XS.iconst X0.here hx rfl (hb hby d5_82) k) ?_
      exact own_retN X0 hx (t := .boolean) Bd.notSynchronized Bd.returns (by simp) (hb hby d5_83) (by decide) (by decide) (by rw [e0]; exact ⟨by unfold own_eq3_3; rw [if_pos hc11_3, if_neg hc27_6] <;> rfl, N_, rfl⟩)
  · refine own_by (T' := s₁) (g' := (mkF m 82 #[.val (.ref ca), .val (.int 3), .val (.int 3)] [])) (fun t k => XS.icmpYes X0.here hx rfl (pc0 := 11) (pc' := 82) rfl (hb hby d5_11) rfl (feq hc11_3).2 (by decide) (by decide) k) ?_
    refine own_by (T' := s₁) (g' := (mkF m 83 #[.val (.ref ca), .val (.int 3), .val (.int 3)] [(.int 0)])) (fun t k => XS.iconst X0.here hx rfl (hb hby d5_82) k) ?_
    exact own_retN X0 hx (t := .boolean) Bd.notSynchronized Bd.returns (by simp) (hb hby d5_83) (by decide) (by decide) (by rw [e0]; exact ⟨by unfold own_eq3_3; rw [if_neg hc11_3] <;> rfl, N_, rfl⟩)

def Q5_4_1 (Z : State) (ca : Addr) (kc : ClassId) (c0 : Int32) (c1 : Int32) (c2 : Int32) (c3 : Int32) (c4 : Int32) (c5 : Int32) (h0 : Heap) (n0 : Nat) (v : Option Value) (h : Heap) (L : List Loc) : Prop := v = some (.int (own_eq4_1 c0 c1 c2 c3 c4 c5)) ∧ Fr n0 L ∧ h = h0
theorem ef_5_4_1 (m : MethodId) (ca : Addr) : entryFrame m #[(.ref ca), (.int 4), (.int 1)] 3 = mkF m 0 #[.val (.ref ca), .val (.int 4), .val (.int 1)] [] := by first | (simp [entryFrame, mkF, argsToLocals, Value.category]; done) | rfl
set_option maxRecDepth 65536 in
set_option maxHeartbeats 40000000 in
theorem rm5_4_1 (l : Launch) (Z : State) (a0 : Array Value) (hw : ∀ d ∈ tables_1, d.before a0 Z = true) (ws : List Jvm.Cond) (ca : Addr) (kc : ClassId) (c0 : Int32) (c1 : Int32) (c2 : Int32) (c3 : Int32) (c4 : Int32) (c5 : Int32) (h0 : Heap) (n0 : Nat) (Zle : n0 ≤ h0.size) (V_ca : Arv Z h0 ca kc .char (6 : Int32) [(.int c0), (.int c1), (.int c2), (.int c3), (.int c4), (.int c5)] (.int 0)) :
    MetFree l (⟨"com/example/emu/emu/PrefixTableOfPinLaw", "eq", "([CII)Z"⟩ : MethodName) (head1 (Jvm.Cond.code (⟨"com/example/emu/emu/PrefixTableOfPinLaw", "eq", "([CII)Z"⟩ : MethodName) method_5_code 3 (some .boolean) :: ws) ({ frames := 0, cells := 0, slots := 0, locals := 0 } : Room)) (fun a U => a = #[(.ref ca), (.int 4), (.int 1)] ∧ Z.Warmed39 U.vm ∧ U.heap = h0) (fun _ _ _ _ _ => True) (fun _ U o U' => ∃ v L, o = .returned v ∧ Q5_4_1 Z ca kc c0 c1 c2 c3 c4 c5 h0 n0 v U'.heap L ∧ FrameEnd U o U' L ({ frames := 0, cells := 0, slots := 0, locals := 0 } : Room).cells ({ frames := 0, cells := 0, slots := 0, locals := 0 } : Room).slots) := by
  refine MetFree.of_bodySF (plainFor_of_name pn_com_example_emu_emu_PrefixTableOfPinLaw) hisR ?_
  intro p e s m args below meth c s₁ Bd hml0 hP hK
  obtain ⟨rfl, hZ, hh⟩ := hP
  have hx := Bd.exec
  have hby := Bd.bytes
  have hml : c.maxLocals = 3 := hml0
  have hown : s.vm.findClass "com/example/emu/emu/PrefixTableOfPinLaw" = some m.cls := findClass_of_methodNamed Bd.named
  have hnm := (name_of_methodNamed Bd.named Bd.method).1
  have X0 : Stand p l e ({ frames := 0, cells := 0, slots := 0, locals := 0 } : Room) s m #[(.ref ca), (.int 4), (.int 1)] below meth c s₁ [] 0 0 := Stand.of_body Bd
  have e0 : s₁.heap = h0 := by rw [← hh, Bd.state]; rfl
  have N_ := Fr.nil n0
  show own_Goes p.tables e below s (Q5_4_1 Z ca kc c0 c1 c2 c3 c4 c5 h0 n0) ({ frames := 0, cells := 0, slots := 0, locals := 0 } : Room).cells ({ frames := 0, cells := 0, slots := 0, locals := 0 } : Room).slots s₁ (entryFrame m #[(.ref ca), (.int 4), (.int 1)] 3)
  refine own_by (T' := s₁) (g' := (mkF m 0 #[.val (.ref ca), .val (.int 4), .val (.int 1)] [])) (fun t k => castTop (ef_5_4_1 m ca) k) ?_
  refine own_by (T' := s₁) (g' := (mkF m 1 #[.val (.ref ca), .val (.int 4), .val (.int 1)] [(.int 1)])) (fun t k => XS.iloadN X0.here hx rfl (hb hby d5_0) rfl k) ?_
  refine own_by (T' := s₁) (g' := (mkF m 2 #[.val (.ref ca), .val (.int 4), .val (.int 1)] [(.int 1), (.int 1)])) (fun t k => XS.iconst X0.here hx rfl (hb hby d5_1) k) ?_
  refine own_by (T' := s₁) (g' := (mkF m 5 #[.val (.ref ca), .val (.int 4), .val (.int 1)] [])) (fun t k => XS.icmpNo X0.here hx rfl (hb hby d5_2) rfl (flt (by decide)).1 k) ?_
  refine own_by (T' := s₁) (g' := (mkF m 6 #[.val (.ref ca), .val (.int 4), .val (.int 1)] [(.ref ca)])) (fun t k => XS.aloadN X0.here hx rfl (hb hby d5_5) rfl rfl k) ?_
  refine own_by (T' := s₁) (g' := (mkF m 7 #[.val (.ref ca), .val (.int 4), .val (.int 1)] [(.int 0), (.ref ca)])) (fun t k => XS.iconst X0.here hx rfl (hb hby d5_6) k) ?_
  obtain ⟨cl1, Ar1, q1, S1, N1, Hs1, G1⟩ := id V_ca
  have hin1 : ¬ ((0 : Int32) < 0 ∨ cl1.slots.size ≤ ((0 : Int32)).toNatClampNeg) := inb_of S1 ⟨by decide, by decide⟩
  have hat1 : cl1.slots[((0 : Int32)).toNatClampNeg]? = some (.int c0) := Hs1.at hin1 rfl
  refine own_by (T' := s₁) (g' := (mkF m 8 #[.val (.ref ca), .val (.int 4), .val (.int 1)] [(.int c0)])) (fun t k => X0.caload hx (j := (0 : Int32)) (v := (.int c0)) (by rw [e0]; exact Ar1.1) (State.isArrayOf_alike hZ.alike Ar1.2.1) Ar1.2.2 hin1 hat1 (g := (mkF m 7 #[.val (.ref ca), .val (.int 4), .val (.int 1)] [(.int 0), (.ref ca)])) rfl rfl (hb hby d5_7) _ k) ?_
  clear hat1 hin1 G1 Hs1 N1 S1 q1 Ar1 cl1
  refine own_by (T' := s₁) (g' := (mkF m 9 #[.val (.ref ca), .val (.int 4), .val (.int 1)] [(.ref ca), (.int c0)])) (fun t k => XS.aloadN X0.here hx rfl (hb hby d5_8) rfl rfl k) ?_
  refine own_by (T' := s₁) (g' := (mkF m 10 #[.val (.ref ca), .val (.int 4), .val (.int 1)] [(.int 4), (.ref ca), (.int c0)])) (fun t k => XS.iloadN X0.here hx rfl (hb hby d5_9) rfl k) ?_
  obtain ⟨cl2, Ar2, q2, S2, N2, Hs2, G2⟩ := id V_ca
  have hin2 : ¬ ((4 : Int32) < 0 ∨ cl2.slots.size ≤ ((4 : Int32)).toNatClampNeg) := inb_of S2 ⟨by decide, by decide⟩
  have hat2 : cl2.slots[((4 : Int32)).toNatClampNeg]? = some (.int c4) := Hs2.at hin2 rfl
  refine own_by (T' := s₁) (g' := (mkF m 11 #[.val (.ref ca), .val (.int 4), .val (.int 1)] [(.int c4), (.int c0)])) (fun t k => X0.caload hx (j := (4 : Int32)) (v := (.int c4)) (by rw [e0]; exact Ar2.1) (State.isArrayOf_alike hZ.alike Ar2.2.1) Ar2.2.2 hin2 hat2 (g := (mkF m 10 #[.val (.ref ca), .val (.int 4), .val (.int 1)] [(.int 4), (.ref ca), (.int c0)])) rfl rfl (hb hby d5_10) _ k) ?_
  clear hat2 hin2 G2 Hs2 N2 S2 q2 Ar2 cl2
  by_cases hc11_3 : c0 = c4
  · refine own_by (T' := s₁) (g' := (mkF m 14 #[.val (.ref ca), .val (.int 4), .val (.int 1)] [])) (fun t k => XS.icmpNo X0.here hx rfl (hb hby d5_11) rfl (teq hc11_3).2 k) ?_
    refine own_by (T' := s₁) (g' := (mkF m 15 #[.val (.ref ca), .val (.int 4), .val (.int 1)] [(.int 1)])) (fun t k => XS.iloadN X0.here hx rfl (hb hby d5_14) rfl k) ?_
    refine own_by (T' := s₁) (g' := (mkF m 16 #[.val (.ref ca), .val (.int 4), .val (.int 1)] [(.int 2), (.int 1)])) (fun t k => XS.iconst X0.here hx rfl (hb hby d5_15) k) ?_
    refine own_by (T' := s₁) (g' := (mkF m 30 #[.val (.ref ca), .val (.int 4), .val (.int 1)] [])) (fun t k => XS.icmpYes X0.here hx rfl (pc0 := 16) (pc' := 30) rfl (hb hby d5_16) rfl (tlt (by decide)).1 (by decide) (by decide) k) ?_
    refine own_by (T' := s₁) (g' := (mkF m 31 #[.val (.ref ca), .val (.int 4), .val (.int 1)] [(.int 1)])) (fun t k => XS.iloadN X0.here hx rfl (hb hby d5_30) rfl k) ?_
    refine own_by (T' := s₁) (g' := (mkF m 32 #[.val (.ref ca), .val (.int 4), .val (.int 1)] [(.int 3), (.int 1)])) (fun t k => XS.iconst X0.here hx rfl (hb hby d5_31) k) ?_
    refine own_by (T' := s₁) (g' := (mkF m 46 #[.val (.ref ca), .val (.int 4), .val (.int 1)] [])) (fun t k => XS.icmpYes X0.here hx rfl (pc0 := 32) (pc' := 46) rfl (hb hby d5_32) rfl (tlt (by decide)).1 (by decide) (by decide) k) ?_
    refine own_by (T' := s₁) (g' := (mkF m 47 #[.val (.ref ca), .val (.int 4), .val (.int 1)] [(.int 1)])) (fun t k => XS.iloadN X0.here hx rfl (hb hby d5_46) rfl k) ?_
    refine own_by (T' := s₁) (g' := (mkF m 48 #[.val (.ref ca), .val (.int 4), .val (.int 1)] [(.int 4), (.int 1)])) (fun t k => XS.iconst X0.here hx rfl (hb hby d5_47) k) ?_
    refine own_by (T' := s₁) (g' := (mkF m 62 #[.val (.ref ca), .val (.int 4), .val (.int 1)] [])) (fun t k => XS.icmpYes X0.here hx rfl (pc0 := 48) (pc' := 62) rfl (hb hby d5_48) rfl (tlt (by decide)).1 (by decide) (by decide) k) ?_
    refine own_by (T' := s₁) (g' := (mkF m 63 #[.val (.ref ca), .val (.int 4), .val (.int 1)] [(.int 1)])) (fun t k => XS.iloadN X0.here hx rfl (hb hby d5_62) rfl k) ?_
    refine own_by (T' := s₁) (g' := (mkF m 64 #[.val (.ref ca), .val (.int 4), .val (.int 1)] [(.int 5), (.int 1)])) (fun t k => XS.iconst X0.here hx rfl (hb hby d5_63) k) ?_
    refine own_by (T' := s₁) (g' := (mkF m 78 #[.val (.ref ca), .val (.int 4), .val (.int 1)] [])) (fun t k => XS.icmpYes X0.here hx rfl (pc0 := 64) (pc' := 78) rfl (hb hby d5_64) rfl (tlt (by decide)).1 (by decide) (by decide) k) ?_
    refine own_by (T' := s₁) (g' := (mkF m 79 #[.val (.ref ca), .val (.int 4), .val (.int 1)] [(.int 1)])) (fun t k => XS.iconst X0.here hx rfl (hb hby d5_78) k) ?_
    refine own_by (T' := s₁) (g' := (mkF m 83 #[.val (.ref ca), .val (.int 4), .val (.int 1)] [(.int 1)])) (fun t k => XS.goto X0.here hx rfl (pc0 := 79) (pc' := 83) rfl (hb hby d5_79) (by decide) (by decide) k) ?_
    exact own_retN X0 hx (t := .boolean) Bd.notSynchronized Bd.returns (by simp) (hb hby d5_83) (by decide) (by decide) (by rw [e0]; exact ⟨by unfold own_eq4_1; rw [if_pos hc11_3] <;> rfl, N_, rfl⟩)
  · refine own_by (T' := s₁) (g' := (mkF m 82 #[.val (.ref ca), .val (.int 4), .val (.int 1)] [])) (fun t k => XS.icmpYes X0.here hx rfl (pc0 := 11) (pc' := 82) rfl (hb hby d5_11) rfl (feq hc11_3).2 (by decide) (by decide) k) ?_
    refine own_by (T' := s₁) (g' := (mkF m 83 #[.val (.ref ca), .val (.int 4), .val (.int 1)] [(.int 0)])) (fun t k => XS.iconst X0.here hx rfl (hb hby d5_82) k) ?_
    exact own_retN X0 hx (t := .boolean) Bd.notSynchronized Bd.returns (by simp) (hb hby d5_83) (by decide) (by decide) (by rw [e0]; exact ⟨by unfold own_eq4_1; rw [if_neg hc11_3] <;> rfl, N_, rfl⟩)

def Q5_4_2 (Z : State) (ca : Addr) (kc : ClassId) (c0 : Int32) (c1 : Int32) (c2 : Int32) (c3 : Int32) (c4 : Int32) (c5 : Int32) (h0 : Heap) (n0 : Nat) (v : Option Value) (h : Heap) (L : List Loc) : Prop := v = some (.int (own_eq4_2 c0 c1 c2 c3 c4 c5)) ∧ Fr n0 L ∧ h = h0
theorem ef_5_4_2 (m : MethodId) (ca : Addr) : entryFrame m #[(.ref ca), (.int 4), (.int 2)] 3 = mkF m 0 #[.val (.ref ca), .val (.int 4), .val (.int 2)] [] := by first | (simp [entryFrame, mkF, argsToLocals, Value.category]; done) | rfl
set_option maxRecDepth 65536 in
set_option maxHeartbeats 40000000 in
theorem rm5_4_2 (l : Launch) (Z : State) (a0 : Array Value) (hw : ∀ d ∈ tables_1, d.before a0 Z = true) (ws : List Jvm.Cond) (ca : Addr) (kc : ClassId) (c0 : Int32) (c1 : Int32) (c2 : Int32) (c3 : Int32) (c4 : Int32) (c5 : Int32) (h0 : Heap) (n0 : Nat) (Zle : n0 ≤ h0.size) (V_ca : Arv Z h0 ca kc .char (6 : Int32) [(.int c0), (.int c1), (.int c2), (.int c3), (.int c4), (.int c5)] (.int 0)) :
    MetFree l (⟨"com/example/emu/emu/PrefixTableOfPinLaw", "eq", "([CII)Z"⟩ : MethodName) (head1 (Jvm.Cond.code (⟨"com/example/emu/emu/PrefixTableOfPinLaw", "eq", "([CII)Z"⟩ : MethodName) method_5_code 3 (some .boolean) :: ws) ({ frames := 0, cells := 0, slots := 0, locals := 0 } : Room)) (fun a U => a = #[(.ref ca), (.int 4), (.int 2)] ∧ Z.Warmed39 U.vm ∧ U.heap = h0) (fun _ _ _ _ _ => True) (fun _ U o U' => ∃ v L, o = .returned v ∧ Q5_4_2 Z ca kc c0 c1 c2 c3 c4 c5 h0 n0 v U'.heap L ∧ FrameEnd U o U' L ({ frames := 0, cells := 0, slots := 0, locals := 0 } : Room).cells ({ frames := 0, cells := 0, slots := 0, locals := 0 } : Room).slots) := by
  refine MetFree.of_bodySF (plainFor_of_name pn_com_example_emu_emu_PrefixTableOfPinLaw) hisR ?_
  intro p e s m args below meth c s₁ Bd hml0 hP hK
  obtain ⟨rfl, hZ, hh⟩ := hP
  have hx := Bd.exec
  have hby := Bd.bytes
  have hml : c.maxLocals = 3 := hml0
  have hown : s.vm.findClass "com/example/emu/emu/PrefixTableOfPinLaw" = some m.cls := findClass_of_methodNamed Bd.named
  have hnm := (name_of_methodNamed Bd.named Bd.method).1
  have X0 : Stand p l e ({ frames := 0, cells := 0, slots := 0, locals := 0 } : Room) s m #[(.ref ca), (.int 4), (.int 2)] below meth c s₁ [] 0 0 := Stand.of_body Bd
  have e0 : s₁.heap = h0 := by rw [← hh, Bd.state]; rfl
  have N_ := Fr.nil n0
  show own_Goes p.tables e below s (Q5_4_2 Z ca kc c0 c1 c2 c3 c4 c5 h0 n0) ({ frames := 0, cells := 0, slots := 0, locals := 0 } : Room).cells ({ frames := 0, cells := 0, slots := 0, locals := 0 } : Room).slots s₁ (entryFrame m #[(.ref ca), (.int 4), (.int 2)] 3)
  refine own_by (T' := s₁) (g' := (mkF m 0 #[.val (.ref ca), .val (.int 4), .val (.int 2)] [])) (fun t k => castTop (ef_5_4_2 m ca) k) ?_
  refine own_by (T' := s₁) (g' := (mkF m 1 #[.val (.ref ca), .val (.int 4), .val (.int 2)] [(.int 2)])) (fun t k => XS.iloadN X0.here hx rfl (hb hby d5_0) rfl k) ?_
  refine own_by (T' := s₁) (g' := (mkF m 2 #[.val (.ref ca), .val (.int 4), .val (.int 2)] [(.int 1), (.int 2)])) (fun t k => XS.iconst X0.here hx rfl (hb hby d5_1) k) ?_
  refine own_by (T' := s₁) (g' := (mkF m 5 #[.val (.ref ca), .val (.int 4), .val (.int 2)] [])) (fun t k => XS.icmpNo X0.here hx rfl (hb hby d5_2) rfl (flt (by decide)).1 k) ?_
  refine own_by (T' := s₁) (g' := (mkF m 6 #[.val (.ref ca), .val (.int 4), .val (.int 2)] [(.ref ca)])) (fun t k => XS.aloadN X0.here hx rfl (hb hby d5_5) rfl rfl k) ?_
  refine own_by (T' := s₁) (g' := (mkF m 7 #[.val (.ref ca), .val (.int 4), .val (.int 2)] [(.int 0), (.ref ca)])) (fun t k => XS.iconst X0.here hx rfl (hb hby d5_6) k) ?_
  obtain ⟨cl1, Ar1, q1, S1, N1, Hs1, G1⟩ := id V_ca
  have hin1 : ¬ ((0 : Int32) < 0 ∨ cl1.slots.size ≤ ((0 : Int32)).toNatClampNeg) := inb_of S1 ⟨by decide, by decide⟩
  have hat1 : cl1.slots[((0 : Int32)).toNatClampNeg]? = some (.int c0) := Hs1.at hin1 rfl
  refine own_by (T' := s₁) (g' := (mkF m 8 #[.val (.ref ca), .val (.int 4), .val (.int 2)] [(.int c0)])) (fun t k => X0.caload hx (j := (0 : Int32)) (v := (.int c0)) (by rw [e0]; exact Ar1.1) (State.isArrayOf_alike hZ.alike Ar1.2.1) Ar1.2.2 hin1 hat1 (g := (mkF m 7 #[.val (.ref ca), .val (.int 4), .val (.int 2)] [(.int 0), (.ref ca)])) rfl rfl (hb hby d5_7) _ k) ?_
  clear hat1 hin1 G1 Hs1 N1 S1 q1 Ar1 cl1
  refine own_by (T' := s₁) (g' := (mkF m 9 #[.val (.ref ca), .val (.int 4), .val (.int 2)] [(.ref ca), (.int c0)])) (fun t k => XS.aloadN X0.here hx rfl (hb hby d5_8) rfl rfl k) ?_
  refine own_by (T' := s₁) (g' := (mkF m 10 #[.val (.ref ca), .val (.int 4), .val (.int 2)] [(.int 4), (.ref ca), (.int c0)])) (fun t k => XS.iloadN X0.here hx rfl (hb hby d5_9) rfl k) ?_
  obtain ⟨cl2, Ar2, q2, S2, N2, Hs2, G2⟩ := id V_ca
  have hin2 : ¬ ((4 : Int32) < 0 ∨ cl2.slots.size ≤ ((4 : Int32)).toNatClampNeg) := inb_of S2 ⟨by decide, by decide⟩
  have hat2 : cl2.slots[((4 : Int32)).toNatClampNeg]? = some (.int c4) := Hs2.at hin2 rfl
  refine own_by (T' := s₁) (g' := (mkF m 11 #[.val (.ref ca), .val (.int 4), .val (.int 2)] [(.int c4), (.int c0)])) (fun t k => X0.caload hx (j := (4 : Int32)) (v := (.int c4)) (by rw [e0]; exact Ar2.1) (State.isArrayOf_alike hZ.alike Ar2.2.1) Ar2.2.2 hin2 hat2 (g := (mkF m 10 #[.val (.ref ca), .val (.int 4), .val (.int 2)] [(.int 4), (.ref ca), (.int c0)])) rfl rfl (hb hby d5_10) _ k) ?_
  clear hat2 hin2 G2 Hs2 N2 S2 q2 Ar2 cl2
  by_cases hc11_3 : c0 = c4
  · refine own_by (T' := s₁) (g' := (mkF m 14 #[.val (.ref ca), .val (.int 4), .val (.int 2)] [])) (fun t k => XS.icmpNo X0.here hx rfl (hb hby d5_11) rfl (teq hc11_3).2 k) ?_
    refine own_by (T' := s₁) (g' := (mkF m 15 #[.val (.ref ca), .val (.int 4), .val (.int 2)] [(.int 2)])) (fun t k => XS.iloadN X0.here hx rfl (hb hby d5_14) rfl k) ?_
    refine own_by (T' := s₁) (g' := (mkF m 16 #[.val (.ref ca), .val (.int 4), .val (.int 2)] [(.int 2), (.int 2)])) (fun t k => XS.iconst X0.here hx rfl (hb hby d5_15) k) ?_
    refine own_by (T' := s₁) (g' := (mkF m 19 #[.val (.ref ca), .val (.int 4), .val (.int 2)] [])) (fun t k => XS.icmpNo X0.here hx rfl (hb hby d5_16) rfl (flt (by decide)).1 k) ?_
    refine own_by (T' := s₁) (g' := (mkF m 20 #[.val (.ref ca), .val (.int 4), .val (.int 2)] [(.ref ca)])) (fun t k => XS.aloadN X0.here hx rfl (hb hby d5_19) rfl rfl k) ?_
    refine own_by (T' := s₁) (g' := (mkF m 21 #[.val (.ref ca), .val (.int 4), .val (.int 2)] [(.int 1), (.ref ca)])) (fun t k => XS.iconst X0.here hx rfl (hb hby d5_20) k) ?_
    obtain ⟨cl4, Ar4, q4, S4, N4, Hs4, G4⟩ := id V_ca
    have hin4 : ¬ ((1 : Int32) < 0 ∨ cl4.slots.size ≤ ((1 : Int32)).toNatClampNeg) := inb_of S4 ⟨by decide, by decide⟩
    have hat4 : cl4.slots[((1 : Int32)).toNatClampNeg]? = some (.int c1) := Hs4.at hin4 rfl
    refine own_by (T' := s₁) (g' := (mkF m 22 #[.val (.ref ca), .val (.int 4), .val (.int 2)] [(.int c1)])) (fun t k => X0.caload hx (j := (1 : Int32)) (v := (.int c1)) (by rw [e0]; exact Ar4.1) (State.isArrayOf_alike hZ.alike Ar4.2.1) Ar4.2.2 hin4 hat4 (g := (mkF m 21 #[.val (.ref ca), .val (.int 4), .val (.int 2)] [(.int 1), (.ref ca)])) rfl rfl (hb hby d5_21) _ k) ?_
    clear hat4 hin4 G4 Hs4 N4 S4 q4 Ar4 cl4
    refine own_by (T' := s₁) (g' := (mkF m 23 #[.val (.ref ca), .val (.int 4), .val (.int 2)] [(.ref ca), (.int c1)])) (fun t k => XS.aloadN X0.here hx rfl (hb hby d5_22) rfl rfl k) ?_
    refine own_by (T' := s₁) (g' := (mkF m 24 #[.val (.ref ca), .val (.int 4), .val (.int 2)] [(.int 4), (.ref ca), (.int c1)])) (fun t k => XS.iloadN X0.here hx rfl (hb hby d5_23) rfl k) ?_
    refine own_by (T' := s₁) (g' := (mkF m 25 #[.val (.ref ca), .val (.int 4), .val (.int 2)] [(.int 1), (.int 4), (.ref ca), (.int c1)])) (fun t k => XS.iconst X0.here hx rfl (hb hby d5_24) k) ?_
    refine own_by (T' := s₁) (g' := (mkF m 26 #[.val (.ref ca), .val (.int 4), .val (.int 2)] [(.int 5), (.ref ca), (.int c1)])) (fun t k => XS.iadd X0.here hx rfl (hb hby d5_25) rfl k) ?_
    obtain ⟨cl5, Ar5, q5, S5, N5, Hs5, G5⟩ := id V_ca
    have hin5 : ¬ ((5 : Int32) < 0 ∨ cl5.slots.size ≤ ((5 : Int32)).toNatClampNeg) := inb_of S5 ⟨by decide, by decide⟩
    have hat5 : cl5.slots[((5 : Int32)).toNatClampNeg]? = some (.int c5) := Hs5.at hin5 rfl
    refine own_by (T' := s₁) (g' := (mkF m 27 #[.val (.ref ca), .val (.int 4), .val (.int 2)] [(.int c5), (.int c1)])) (fun t k => X0.caload hx (j := (5 : Int32)) (v := (.int c5)) (by rw [e0]; exact Ar5.1) (State.isArrayOf_alike hZ.alike Ar5.2.1) Ar5.2.2 hin5 hat5 (g := (mkF m 26 #[.val (.ref ca), .val (.int 4), .val (.int 2)] [(.int 5), (.ref ca), (.int c1)])) rfl rfl (hb hby d5_26) _ k) ?_
    clear hat5 hin5 G5 Hs5 N5 S5 q5 Ar5 cl5
    by_cases hc27_6 : c1 = c5
    · refine own_by (T' := s₁) (g' := (mkF m 30 #[.val (.ref ca), .val (.int 4), .val (.int 2)] [])) (fun t k => XS.icmpNo X0.here hx rfl (hb hby d5_27) rfl (teq hc27_6).2 k) ?_
      refine own_by (T' := s₁) (g' := (mkF m 31 #[.val (.ref ca), .val (.int 4), .val (.int 2)] [(.int 2)])) (fun t k => XS.iloadN X0.here hx rfl (hb hby d5_30) rfl k) ?_
      refine own_by (T' := s₁) (g' := (mkF m 32 #[.val (.ref ca), .val (.int 4), .val (.int 2)] [(.int 3), (.int 2)])) (fun t k => XS.iconst X0.here hx rfl (hb hby d5_31) k) ?_
      refine own_by (T' := s₁) (g' := (mkF m 46 #[.val (.ref ca), .val (.int 4), .val (.int 2)] [])) (fun t k => XS.icmpYes X0.here hx rfl (pc0 := 32) (pc' := 46) rfl (hb hby d5_32) rfl (tlt (by decide)).1 (by decide) (by decide) k) ?_
      refine own_by (T' := s₁) (g' := (mkF m 47 #[.val (.ref ca), .val (.int 4), .val (.int 2)] [(.int 2)])) (fun t k => XS.iloadN X0.here hx rfl (hb hby d5_46) rfl k) ?_
      refine own_by (T' := s₁) (g' := (mkF m 48 #[.val (.ref ca), .val (.int 4), .val (.int 2)] [(.int 4), (.int 2)])) (fun t k => XS.iconst X0.here hx rfl (hb hby d5_47) k) ?_
      refine own_by (T' := s₁) (g' := (mkF m 62 #[.val (.ref ca), .val (.int 4), .val (.int 2)] [])) (fun t k => XS.icmpYes X0.here hx rfl (pc0 := 48) (pc' := 62) rfl (hb hby d5_48) rfl (tlt (by decide)).1 (by decide) (by decide) k) ?_
      refine own_by (T' := s₁) (g' := (mkF m 63 #[.val (.ref ca), .val (.int 4), .val (.int 2)] [(.int 2)])) (fun t k => XS.iloadN X0.here hx rfl (hb hby d5_62) rfl k) ?_
      refine own_by (T' := s₁) (g' := (mkF m 64 #[.val (.ref ca), .val (.int 4), .val (.int 2)] [(.int 5), (.int 2)])) (fun t k => XS.iconst X0.here hx rfl (hb hby d5_63) k) ?_
      refine own_by (T' := s₁) (g' := (mkF m 78 #[.val (.ref ca), .val (.int 4), .val (.int 2)] [])) (fun t k => XS.icmpYes X0.here hx rfl (pc0 := 64) (pc' := 78) rfl (hb hby d5_64) rfl (tlt (by decide)).1 (by decide) (by decide) k) ?_
      refine own_by (T' := s₁) (g' := (mkF m 79 #[.val (.ref ca), .val (.int 4), .val (.int 2)] [(.int 1)])) (fun t k => XS.iconst X0.here hx rfl (hb hby d5_78) k) ?_
      refine own_by (T' := s₁) (g' := (mkF m 83 #[.val (.ref ca), .val (.int 4), .val (.int 2)] [(.int 1)])) (fun t k => XS.goto X0.here hx rfl (pc0 := 79) (pc' := 83) rfl (hb hby d5_79) (by decide) (by decide) k) ?_
      exact own_retN X0 hx (t := .boolean) Bd.notSynchronized Bd.returns (by simp) (hb hby d5_83) (by decide) (by decide) (by rw [e0]; exact ⟨by unfold own_eq4_2; rw [if_pos hc11_3, if_pos hc27_6] <;> rfl, N_, rfl⟩)
    · refine own_by (T' := s₁) (g' := (mkF m 82 #[.val (.ref ca), .val (.int 4), .val (.int 2)] [])) (fun t k => XS.icmpYes X0.here hx rfl (pc0 := 27) (pc' := 82) rfl (hb hby d5_27) rfl (feq hc27_6).2 (by decide) (by decide) k) ?_
      refine own_by (T' := s₁) (g' := (mkF m 83 #[.val (.ref ca), .val (.int 4), .val (.int 2)] [(.int 0)])) (fun t k => XS.iconst X0.here hx rfl (hb hby d5_82) k) ?_
      exact own_retN X0 hx (t := .boolean) Bd.notSynchronized Bd.returns (by simp) (hb hby d5_83) (by decide) (by decide) (by rw [e0]; exact ⟨by unfold own_eq4_2; rw [if_pos hc11_3, if_neg hc27_6] <;> rfl, N_, rfl⟩)
  · refine own_by (T' := s₁) (g' := (mkF m 82 #[.val (.ref ca), .val (.int 4), .val (.int 2)] [])) (fun t k => XS.icmpYes X0.here hx rfl (pc0 := 11) (pc' := 82) rfl (hb hby d5_11) rfl (feq hc11_3).2 (by decide) (by decide) k) ?_
    refine own_by (T' := s₁) (g' := (mkF m 83 #[.val (.ref ca), .val (.int 4), .val (.int 2)] [(.int 0)])) (fun t k => XS.iconst X0.here hx rfl (hb hby d5_82) k) ?_
    exact own_retN X0 hx (t := .boolean) Bd.notSynchronized Bd.returns (by simp) (hb hby d5_83) (by decide) (by decide) (by rw [e0]; exact ⟨by unfold own_eq4_2; rw [if_neg hc11_3] <;> rfl, N_, rfl⟩)

def Q5_5_1 (Z : State) (ca : Addr) (kc : ClassId) (c0 : Int32) (c1 : Int32) (c2 : Int32) (c3 : Int32) (c4 : Int32) (c5 : Int32) (h0 : Heap) (n0 : Nat) (v : Option Value) (h : Heap) (L : List Loc) : Prop := v = some (.int (own_eq5_1 c0 c1 c2 c3 c4 c5)) ∧ Fr n0 L ∧ h = h0
theorem ef_5_5_1 (m : MethodId) (ca : Addr) : entryFrame m #[(.ref ca), (.int 5), (.int 1)] 3 = mkF m 0 #[.val (.ref ca), .val (.int 5), .val (.int 1)] [] := by first | (simp [entryFrame, mkF, argsToLocals, Value.category]; done) | rfl
set_option maxRecDepth 65536 in
set_option maxHeartbeats 40000000 in
theorem rm5_5_1 (l : Launch) (Z : State) (a0 : Array Value) (hw : ∀ d ∈ tables_1, d.before a0 Z = true) (ws : List Jvm.Cond) (ca : Addr) (kc : ClassId) (c0 : Int32) (c1 : Int32) (c2 : Int32) (c3 : Int32) (c4 : Int32) (c5 : Int32) (h0 : Heap) (n0 : Nat) (Zle : n0 ≤ h0.size) (V_ca : Arv Z h0 ca kc .char (6 : Int32) [(.int c0), (.int c1), (.int c2), (.int c3), (.int c4), (.int c5)] (.int 0)) :
    MetFree l (⟨"com/example/emu/emu/PrefixTableOfPinLaw", "eq", "([CII)Z"⟩ : MethodName) (head1 (Jvm.Cond.code (⟨"com/example/emu/emu/PrefixTableOfPinLaw", "eq", "([CII)Z"⟩ : MethodName) method_5_code 3 (some .boolean) :: ws) ({ frames := 0, cells := 0, slots := 0, locals := 0 } : Room)) (fun a U => a = #[(.ref ca), (.int 5), (.int 1)] ∧ Z.Warmed39 U.vm ∧ U.heap = h0) (fun _ _ _ _ _ => True) (fun _ U o U' => ∃ v L, o = .returned v ∧ Q5_5_1 Z ca kc c0 c1 c2 c3 c4 c5 h0 n0 v U'.heap L ∧ FrameEnd U o U' L ({ frames := 0, cells := 0, slots := 0, locals := 0 } : Room).cells ({ frames := 0, cells := 0, slots := 0, locals := 0 } : Room).slots) := by
  refine MetFree.of_bodySF (plainFor_of_name pn_com_example_emu_emu_PrefixTableOfPinLaw) hisR ?_
  intro p e s m args below meth c s₁ Bd hml0 hP hK
  obtain ⟨rfl, hZ, hh⟩ := hP
  have hx := Bd.exec
  have hby := Bd.bytes
  have hml : c.maxLocals = 3 := hml0
  have hown : s.vm.findClass "com/example/emu/emu/PrefixTableOfPinLaw" = some m.cls := findClass_of_methodNamed Bd.named
  have hnm := (name_of_methodNamed Bd.named Bd.method).1
  have X0 : Stand p l e ({ frames := 0, cells := 0, slots := 0, locals := 0 } : Room) s m #[(.ref ca), (.int 5), (.int 1)] below meth c s₁ [] 0 0 := Stand.of_body Bd
  have e0 : s₁.heap = h0 := by rw [← hh, Bd.state]; rfl
  have N_ := Fr.nil n0
  show own_Goes p.tables e below s (Q5_5_1 Z ca kc c0 c1 c2 c3 c4 c5 h0 n0) ({ frames := 0, cells := 0, slots := 0, locals := 0 } : Room).cells ({ frames := 0, cells := 0, slots := 0, locals := 0 } : Room).slots s₁ (entryFrame m #[(.ref ca), (.int 5), (.int 1)] 3)
  refine own_by (T' := s₁) (g' := (mkF m 0 #[.val (.ref ca), .val (.int 5), .val (.int 1)] [])) (fun t k => castTop (ef_5_5_1 m ca) k) ?_
  refine own_by (T' := s₁) (g' := (mkF m 1 #[.val (.ref ca), .val (.int 5), .val (.int 1)] [(.int 1)])) (fun t k => XS.iloadN X0.here hx rfl (hb hby d5_0) rfl k) ?_
  refine own_by (T' := s₁) (g' := (mkF m 2 #[.val (.ref ca), .val (.int 5), .val (.int 1)] [(.int 1), (.int 1)])) (fun t k => XS.iconst X0.here hx rfl (hb hby d5_1) k) ?_
  refine own_by (T' := s₁) (g' := (mkF m 5 #[.val (.ref ca), .val (.int 5), .val (.int 1)] [])) (fun t k => XS.icmpNo X0.here hx rfl (hb hby d5_2) rfl (flt (by decide)).1 k) ?_
  refine own_by (T' := s₁) (g' := (mkF m 6 #[.val (.ref ca), .val (.int 5), .val (.int 1)] [(.ref ca)])) (fun t k => XS.aloadN X0.here hx rfl (hb hby d5_5) rfl rfl k) ?_
  refine own_by (T' := s₁) (g' := (mkF m 7 #[.val (.ref ca), .val (.int 5), .val (.int 1)] [(.int 0), (.ref ca)])) (fun t k => XS.iconst X0.here hx rfl (hb hby d5_6) k) ?_
  obtain ⟨cl1, Ar1, q1, S1, N1, Hs1, G1⟩ := id V_ca
  have hin1 : ¬ ((0 : Int32) < 0 ∨ cl1.slots.size ≤ ((0 : Int32)).toNatClampNeg) := inb_of S1 ⟨by decide, by decide⟩
  have hat1 : cl1.slots[((0 : Int32)).toNatClampNeg]? = some (.int c0) := Hs1.at hin1 rfl
  refine own_by (T' := s₁) (g' := (mkF m 8 #[.val (.ref ca), .val (.int 5), .val (.int 1)] [(.int c0)])) (fun t k => X0.caload hx (j := (0 : Int32)) (v := (.int c0)) (by rw [e0]; exact Ar1.1) (State.isArrayOf_alike hZ.alike Ar1.2.1) Ar1.2.2 hin1 hat1 (g := (mkF m 7 #[.val (.ref ca), .val (.int 5), .val (.int 1)] [(.int 0), (.ref ca)])) rfl rfl (hb hby d5_7) _ k) ?_
  clear hat1 hin1 G1 Hs1 N1 S1 q1 Ar1 cl1
  refine own_by (T' := s₁) (g' := (mkF m 9 #[.val (.ref ca), .val (.int 5), .val (.int 1)] [(.ref ca), (.int c0)])) (fun t k => XS.aloadN X0.here hx rfl (hb hby d5_8) rfl rfl k) ?_
  refine own_by (T' := s₁) (g' := (mkF m 10 #[.val (.ref ca), .val (.int 5), .val (.int 1)] [(.int 5), (.ref ca), (.int c0)])) (fun t k => XS.iloadN X0.here hx rfl (hb hby d5_9) rfl k) ?_
  obtain ⟨cl2, Ar2, q2, S2, N2, Hs2, G2⟩ := id V_ca
  have hin2 : ¬ ((5 : Int32) < 0 ∨ cl2.slots.size ≤ ((5 : Int32)).toNatClampNeg) := inb_of S2 ⟨by decide, by decide⟩
  have hat2 : cl2.slots[((5 : Int32)).toNatClampNeg]? = some (.int c5) := Hs2.at hin2 rfl
  refine own_by (T' := s₁) (g' := (mkF m 11 #[.val (.ref ca), .val (.int 5), .val (.int 1)] [(.int c5), (.int c0)])) (fun t k => X0.caload hx (j := (5 : Int32)) (v := (.int c5)) (by rw [e0]; exact Ar2.1) (State.isArrayOf_alike hZ.alike Ar2.2.1) Ar2.2.2 hin2 hat2 (g := (mkF m 10 #[.val (.ref ca), .val (.int 5), .val (.int 1)] [(.int 5), (.ref ca), (.int c0)])) rfl rfl (hb hby d5_10) _ k) ?_
  clear hat2 hin2 G2 Hs2 N2 S2 q2 Ar2 cl2
  by_cases hc11_3 : c0 = c5
  · refine own_by (T' := s₁) (g' := (mkF m 14 #[.val (.ref ca), .val (.int 5), .val (.int 1)] [])) (fun t k => XS.icmpNo X0.here hx rfl (hb hby d5_11) rfl (teq hc11_3).2 k) ?_
    refine own_by (T' := s₁) (g' := (mkF m 15 #[.val (.ref ca), .val (.int 5), .val (.int 1)] [(.int 1)])) (fun t k => XS.iloadN X0.here hx rfl (hb hby d5_14) rfl k) ?_
    refine own_by (T' := s₁) (g' := (mkF m 16 #[.val (.ref ca), .val (.int 5), .val (.int 1)] [(.int 2), (.int 1)])) (fun t k => XS.iconst X0.here hx rfl (hb hby d5_15) k) ?_
    refine own_by (T' := s₁) (g' := (mkF m 30 #[.val (.ref ca), .val (.int 5), .val (.int 1)] [])) (fun t k => XS.icmpYes X0.here hx rfl (pc0 := 16) (pc' := 30) rfl (hb hby d5_16) rfl (tlt (by decide)).1 (by decide) (by decide) k) ?_
    refine own_by (T' := s₁) (g' := (mkF m 31 #[.val (.ref ca), .val (.int 5), .val (.int 1)] [(.int 1)])) (fun t k => XS.iloadN X0.here hx rfl (hb hby d5_30) rfl k) ?_
    refine own_by (T' := s₁) (g' := (mkF m 32 #[.val (.ref ca), .val (.int 5), .val (.int 1)] [(.int 3), (.int 1)])) (fun t k => XS.iconst X0.here hx rfl (hb hby d5_31) k) ?_
    refine own_by (T' := s₁) (g' := (mkF m 46 #[.val (.ref ca), .val (.int 5), .val (.int 1)] [])) (fun t k => XS.icmpYes X0.here hx rfl (pc0 := 32) (pc' := 46) rfl (hb hby d5_32) rfl (tlt (by decide)).1 (by decide) (by decide) k) ?_
    refine own_by (T' := s₁) (g' := (mkF m 47 #[.val (.ref ca), .val (.int 5), .val (.int 1)] [(.int 1)])) (fun t k => XS.iloadN X0.here hx rfl (hb hby d5_46) rfl k) ?_
    refine own_by (T' := s₁) (g' := (mkF m 48 #[.val (.ref ca), .val (.int 5), .val (.int 1)] [(.int 4), (.int 1)])) (fun t k => XS.iconst X0.here hx rfl (hb hby d5_47) k) ?_
    refine own_by (T' := s₁) (g' := (mkF m 62 #[.val (.ref ca), .val (.int 5), .val (.int 1)] [])) (fun t k => XS.icmpYes X0.here hx rfl (pc0 := 48) (pc' := 62) rfl (hb hby d5_48) rfl (tlt (by decide)).1 (by decide) (by decide) k) ?_
    refine own_by (T' := s₁) (g' := (mkF m 63 #[.val (.ref ca), .val (.int 5), .val (.int 1)] [(.int 1)])) (fun t k => XS.iloadN X0.here hx rfl (hb hby d5_62) rfl k) ?_
    refine own_by (T' := s₁) (g' := (mkF m 64 #[.val (.ref ca), .val (.int 5), .val (.int 1)] [(.int 5), (.int 1)])) (fun t k => XS.iconst X0.here hx rfl (hb hby d5_63) k) ?_
    refine own_by (T' := s₁) (g' := (mkF m 78 #[.val (.ref ca), .val (.int 5), .val (.int 1)] [])) (fun t k => XS.icmpYes X0.here hx rfl (pc0 := 64) (pc' := 78) rfl (hb hby d5_64) rfl (tlt (by decide)).1 (by decide) (by decide) k) ?_
    refine own_by (T' := s₁) (g' := (mkF m 79 #[.val (.ref ca), .val (.int 5), .val (.int 1)] [(.int 1)])) (fun t k => XS.iconst X0.here hx rfl (hb hby d5_78) k) ?_
    refine own_by (T' := s₁) (g' := (mkF m 83 #[.val (.ref ca), .val (.int 5), .val (.int 1)] [(.int 1)])) (fun t k => XS.goto X0.here hx rfl (pc0 := 79) (pc' := 83) rfl (hb hby d5_79) (by decide) (by decide) k) ?_
    exact own_retN X0 hx (t := .boolean) Bd.notSynchronized Bd.returns (by simp) (hb hby d5_83) (by decide) (by decide) (by rw [e0]; exact ⟨by unfold own_eq5_1; rw [if_pos hc11_3] <;> rfl, N_, rfl⟩)
  · refine own_by (T' := s₁) (g' := (mkF m 82 #[.val (.ref ca), .val (.int 5), .val (.int 1)] [])) (fun t k => XS.icmpYes X0.here hx rfl (pc0 := 11) (pc' := 82) rfl (hb hby d5_11) rfl (feq hc11_3).2 (by decide) (by decide) k) ?_
    refine own_by (T' := s₁) (g' := (mkF m 83 #[.val (.ref ca), .val (.int 5), .val (.int 1)] [(.int 0)])) (fun t k => XS.iconst X0.here hx rfl (hb hby d5_82) k) ?_
    exact own_retN X0 hx (t := .boolean) Bd.notSynchronized Bd.returns (by simp) (hb hby d5_83) (by decide) (by decide) (by rw [e0]; exact ⟨by unfold own_eq5_1; rw [if_neg hc11_3] <;> rfl, N_, rfl⟩)

def Q4_0 (Z : State) (ca : Addr) (kc : ClassId) (c0 : Int32) (c1 : Int32) (c2 : Int32) (c3 : Int32) (c4 : Int32) (c5 : Int32) (h0 : Heap) (n0 : Nat) (v : Option Value) (h : Heap) (L : List Loc) : Prop := v = some (.int (own_ref0 c0 c1 c2 c3 c4 c5)) ∧ Fr n0 L ∧ h = h0
theorem ef_4_0 (m : MethodId) (ca : Addr) : entryFrame m #[(.ref ca), (.int 0)] 2 = mkF m 0 #[.val (.ref ca), .val (.int 0)] [] := by first | (simp [entryFrame, mkF, argsToLocals, Value.category]; done) | rfl
theorem d4_0 : decode method_4_code 0 = .ok (.iload_n 1, 1) := by decide +kernel
theorem d4_1 : decode method_4_code 1 = .ok (.iconst 5, 1) := by decide +kernel
theorem d4_2 : decode method_4_code 2 = .ok (.if_icmp .lt 16, 3) := by decide +kernel
theorem d4_18 : decode method_4_code 18 = .ok (.iload_n 1, 1) := by decide +kernel
theorem d4_19 : decode method_4_code 19 = .ok (.iconst 4, 1) := by decide +kernel
theorem d4_20 : decode method_4_code 20 = .ok (.if_icmp .lt 16, 3) := by decide +kernel
theorem d4_36 : decode method_4_code 36 = .ok (.iload_n 1, 1) := by decide +kernel
theorem d4_37 : decode method_4_code 37 = .ok (.iconst 3, 1) := by decide +kernel
theorem d4_38 : decode method_4_code 38 = .ok (.if_icmp .lt 16, 3) := by decide +kernel
theorem d4_54 : decode method_4_code 54 = .ok (.iload_n 1, 1) := by decide +kernel
theorem d4_55 : decode method_4_code 55 = .ok (.iconst 2, 1) := by decide +kernel
theorem d4_56 : decode method_4_code 56 = .ok (.if_icmp .lt 16, 3) := by decide +kernel
theorem d4_72 : decode method_4_code 72 = .ok (.iload_n 1, 1) := by decide +kernel
theorem d4_73 : decode method_4_code 73 = .ok (.iconst 1, 1) := by decide +kernel
theorem d4_74 : decode method_4_code 74 = .ok (.if_icmp .lt 14, 3) := by decide +kernel
theorem d4_88 : decode method_4_code 88 = .ok (.iconst 0, 1) := by decide +kernel
theorem d4_89 : decode method_4_code 89 = .ok (.ireturn, 1) := by decide +kernel
set_option maxRecDepth 65536 in
set_option maxHeartbeats 40000000 in
theorem rm4_0 (l : Launch) (Z : State) (a0 : Array Value) (hw : ∀ d ∈ tables_1, d.before a0 Z = true) (ws : List Jvm.Cond) (ca : Addr) (kc : ClassId) (c0 : Int32) (c1 : Int32) (c2 : Int32) (c3 : Int32) (c4 : Int32) (c5 : Int32) (h0 : Heap) (n0 : Nat) (Zle : n0 ≤ h0.size) (V_ca : Arv Z h0 ca kc .char (6 : Int32) [(.int c0), (.int c1), (.int c2), (.int c3), (.int c4), (.int c5)] (.int 0)) :
    MetFree l (⟨"com/example/emu/emu/PrefixTableOfPinLaw", "ref", "([CI)I"⟩ : MethodName) (head1 (Jvm.Cond.code (⟨"com/example/emu/emu/PrefixTableOfPinLaw", "ref", "([CI)I"⟩ : MethodName) method_4_code 2 (some .int) :: ws) ({ frames := 1, cells := 0, slots := 0, locals := 14 } : Room)) (fun a U => a = #[(.ref ca), (.int 0)] ∧ Z.Warmed39 U.vm ∧ U.heap = h0) (fun _ _ _ _ _ => True) (fun _ U o U' => ∃ v L, o = .returned v ∧ Q4_0 Z ca kc c0 c1 c2 c3 c4 c5 h0 n0 v U'.heap L ∧ FrameEnd U o U' L ({ frames := 1, cells := 0, slots := 0, locals := 14 } : Room).cells ({ frames := 1, cells := 0, slots := 0, locals := 14 } : Room).slots) := by
  refine MetFree.of_bodySF (plainFor_of_name pn_com_example_emu_emu_PrefixTableOfPinLaw) hisR ?_
  intro p e s m args below meth c s₁ Bd hml0 hP hK
  obtain ⟨rfl, hZ, hh⟩ := hP
  have hx := Bd.exec
  have hby := Bd.bytes
  have hml : c.maxLocals = 2 := hml0
  have hown : s.vm.findClass "com/example/emu/emu/PrefixTableOfPinLaw" = some m.cls := findClass_of_methodNamed Bd.named
  have hnm := (name_of_methodNamed Bd.named Bd.method).1
  have X0 : Stand p l e ({ frames := 1, cells := 0, slots := 0, locals := 14 } : Room) s m #[(.ref ca), (.int 0)] below meth c s₁ [] 0 0 := Stand.of_body Bd
  have e0 : s₁.heap = h0 := by rw [← hh, Bd.state]; rfl
  have N_ := Fr.nil n0
  show own_Goes p.tables e below s (Q4_0 Z ca kc c0 c1 c2 c3 c4 c5 h0 n0) ({ frames := 1, cells := 0, slots := 0, locals := 14 } : Room).cells ({ frames := 1, cells := 0, slots := 0, locals := 14 } : Room).slots s₁ (entryFrame m #[(.ref ca), (.int 0)] 2)
  refine own_by (T' := s₁) (g' := (mkF m 0 #[.val (.ref ca), .val (.int 0)] [])) (fun t k => castTop (ef_4_0 m ca) k) ?_
  refine own_by (T' := s₁) (g' := (mkF m 1 #[.val (.ref ca), .val (.int 0)] [(.int 0)])) (fun t k => XS.iloadN X0.here hx rfl (hb hby d4_0) rfl k) ?_
  refine own_by (T' := s₁) (g' := (mkF m 2 #[.val (.ref ca), .val (.int 0)] [(.int 5), (.int 0)])) (fun t k => XS.iconst X0.here hx rfl (hb hby d4_1) k) ?_
  refine own_by (T' := s₁) (g' := (mkF m 18 #[.val (.ref ca), .val (.int 0)] [])) (fun t k => XS.icmpYes X0.here hx rfl (pc0 := 2) (pc' := 18) rfl (hb hby d4_2) rfl (tlt (by decide)).1 (by decide) (by decide) k) ?_
  refine own_by (T' := s₁) (g' := (mkF m 19 #[.val (.ref ca), .val (.int 0)] [(.int 0)])) (fun t k => XS.iloadN X0.here hx rfl (hb hby d4_18) rfl k) ?_
  refine own_by (T' := s₁) (g' := (mkF m 20 #[.val (.ref ca), .val (.int 0)] [(.int 4), (.int 0)])) (fun t k => XS.iconst X0.here hx rfl (hb hby d4_19) k) ?_
  refine own_by (T' := s₁) (g' := (mkF m 36 #[.val (.ref ca), .val (.int 0)] [])) (fun t k => XS.icmpYes X0.here hx rfl (pc0 := 20) (pc' := 36) rfl (hb hby d4_20) rfl (tlt (by decide)).1 (by decide) (by decide) k) ?_
  refine own_by (T' := s₁) (g' := (mkF m 37 #[.val (.ref ca), .val (.int 0)] [(.int 0)])) (fun t k => XS.iloadN X0.here hx rfl (hb hby d4_36) rfl k) ?_
  refine own_by (T' := s₁) (g' := (mkF m 38 #[.val (.ref ca), .val (.int 0)] [(.int 3), (.int 0)])) (fun t k => XS.iconst X0.here hx rfl (hb hby d4_37) k) ?_
  refine own_by (T' := s₁) (g' := (mkF m 54 #[.val (.ref ca), .val (.int 0)] [])) (fun t k => XS.icmpYes X0.here hx rfl (pc0 := 38) (pc' := 54) rfl (hb hby d4_38) rfl (tlt (by decide)).1 (by decide) (by decide) k) ?_
  refine own_by (T' := s₁) (g' := (mkF m 55 #[.val (.ref ca), .val (.int 0)] [(.int 0)])) (fun t k => XS.iloadN X0.here hx rfl (hb hby d4_54) rfl k) ?_
  refine own_by (T' := s₁) (g' := (mkF m 56 #[.val (.ref ca), .val (.int 0)] [(.int 2), (.int 0)])) (fun t k => XS.iconst X0.here hx rfl (hb hby d4_55) k) ?_
  refine own_by (T' := s₁) (g' := (mkF m 72 #[.val (.ref ca), .val (.int 0)] [])) (fun t k => XS.icmpYes X0.here hx rfl (pc0 := 56) (pc' := 72) rfl (hb hby d4_56) rfl (tlt (by decide)).1 (by decide) (by decide) k) ?_
  refine own_by (T' := s₁) (g' := (mkF m 73 #[.val (.ref ca), .val (.int 0)] [(.int 0)])) (fun t k => XS.iloadN X0.here hx rfl (hb hby d4_72) rfl k) ?_
  refine own_by (T' := s₁) (g' := (mkF m 74 #[.val (.ref ca), .val (.int 0)] [(.int 1), (.int 0)])) (fun t k => XS.iconst X0.here hx rfl (hb hby d4_73) k) ?_
  refine own_by (T' := s₁) (g' := (mkF m 88 #[.val (.ref ca), .val (.int 0)] [])) (fun t k => XS.icmpYes X0.here hx rfl (pc0 := 74) (pc' := 88) rfl (hb hby d4_74) rfl (tlt (by decide)).1 (by decide) (by decide) k) ?_
  refine own_by (T' := s₁) (g' := (mkF m 89 #[.val (.ref ca), .val (.int 0)] [(.int 0)])) (fun t k => XS.iconst X0.here hx rfl (hb hby d4_88) k) ?_
  exact own_retI X0 hx Bd.notSynchronized Bd.returns (hb hby d4_89) (by decide) (by decide) (by rw [e0]; exact ⟨rfl, N_, rfl⟩)

def Q4_1 (Z : State) (ca : Addr) (kc : ClassId) (c0 : Int32) (c1 : Int32) (c2 : Int32) (c3 : Int32) (c4 : Int32) (c5 : Int32) (h0 : Heap) (n0 : Nat) (v : Option Value) (h : Heap) (L : List Loc) : Prop := v = some (.int (own_ref1 c0 c1 c2 c3 c4 c5)) ∧ Fr n0 L ∧ h = h0
theorem ef_4_1 (m : MethodId) (ca : Addr) : entryFrame m #[(.ref ca), (.int 1)] 2 = mkF m 0 #[.val (.ref ca), .val (.int 1)] [] := by first | (simp [entryFrame, mkF, argsToLocals, Value.category]; done) | rfl
theorem d4_77 : decode method_4_code 77 = .ok (.aload_n 0, 1) := by decide +kernel
theorem d4_78 : decode method_4_code 78 = .ok (.iload_n 1, 1) := by decide +kernel
theorem d4_79 : decode method_4_code 79 = .ok (.iconst 1, 1) := by decide +kernel
theorem d4_80 : decode method_4_code 80 = .ok (.invokestatic 24, 3) := by decide +kernel
theorem pd_4 : parseMethodDescriptor "([CII)Z" = some ⟨[(.array .char), .int, .int], some .boolean⟩ := by decide +kernel
theorem d4_83 : decode method_4_code 83 = .ok (.ifCond .eq 5, 3) := by decide +kernel
theorem d4_86 : decode method_4_code 86 = .ok (.iconst 1, 1) := by decide +kernel
theorem d4_87 : decode method_4_code 87 = .ok (.ireturn, 1) := by decide +kernel
set_option maxRecDepth 65536 in
set_option maxHeartbeats 40000000 in
theorem rm4_1 (l : Launch) (Z : State) (a0 : Array Value) (hw : ∀ d ∈ tables_1, d.before a0 Z = true) (ws : List Jvm.Cond) (ca : Addr) (kc : ClassId) (c0 : Int32) (c1 : Int32) (c2 : Int32) (c3 : Int32) (c4 : Int32) (c5 : Int32) (h0 : Heap) (n0 : Nat) (Zle : n0 ≤ h0.size) (V_ca : Arv Z h0 ca kc .char (6 : Int32) [(.int c0), (.int c1), (.int c2), (.int c3), (.int c4), (.int c5)] (.int 0)) :
    MetFree l (⟨"com/example/emu/emu/PrefixTableOfPinLaw", "ref", "([CI)I"⟩ : MethodName) (head1 (Jvm.Cond.code (⟨"com/example/emu/emu/PrefixTableOfPinLaw", "ref", "([CI)I"⟩ : MethodName) method_4_code 2 (some .int) :: ws) ({ frames := 1, cells := 0, slots := 0, locals := 14 } : Room)) (fun a U => a = #[(.ref ca), (.int 1)] ∧ Z.Warmed39 U.vm ∧ U.heap = h0) (fun _ _ _ _ _ => True) (fun _ U o U' => ∃ v L, o = .returned v ∧ Q4_1 Z ca kc c0 c1 c2 c3 c4 c5 h0 n0 v U'.heap L ∧ FrameEnd U o U' L ({ frames := 1, cells := 0, slots := 0, locals := 14 } : Room).cells ({ frames := 1, cells := 0, slots := 0, locals := 14 } : Room).slots) := by
  refine MetFree.of_bodySF (plainFor_of_name pn_com_example_emu_emu_PrefixTableOfPinLaw) hisR ?_
  intro p e s m args below meth c s₁ Bd hml0 hP hK
  obtain ⟨rfl, hZ, hh⟩ := hP
  have hx := Bd.exec
  have hby := Bd.bytes
  have hml : c.maxLocals = 2 := hml0
  have hown : s.vm.findClass "com/example/emu/emu/PrefixTableOfPinLaw" = some m.cls := findClass_of_methodNamed Bd.named
  have hnm := (name_of_methodNamed Bd.named Bd.method).1
  have X0 : Stand p l e ({ frames := 1, cells := 0, slots := 0, locals := 14 } : Room) s m #[(.ref ca), (.int 1)] below meth c s₁ [] 0 0 := Stand.of_body Bd
  have e0 : s₁.heap = h0 := by rw [← hh, Bd.state]; rfl
  have N_ := Fr.nil n0
  show own_Goes p.tables e below s (Q4_1 Z ca kc c0 c1 c2 c3 c4 c5 h0 n0) ({ frames := 1, cells := 0, slots := 0, locals := 14 } : Room).cells ({ frames := 1, cells := 0, slots := 0, locals := 14 } : Room).slots s₁ (entryFrame m #[(.ref ca), (.int 1)] 2)
  refine own_by (T' := s₁) (g' := (mkF m 0 #[.val (.ref ca), .val (.int 1)] [])) (fun t k => castTop (ef_4_1 m ca) k) ?_
  refine own_by (T' := s₁) (g' := (mkF m 1 #[.val (.ref ca), .val (.int 1)] [(.int 1)])) (fun t k => XS.iloadN X0.here hx rfl (hb hby d4_0) rfl k) ?_
  refine own_by (T' := s₁) (g' := (mkF m 2 #[.val (.ref ca), .val (.int 1)] [(.int 5), (.int 1)])) (fun t k => XS.iconst X0.here hx rfl (hb hby d4_1) k) ?_
  refine own_by (T' := s₁) (g' := (mkF m 18 #[.val (.ref ca), .val (.int 1)] [])) (fun t k => XS.icmpYes X0.here hx rfl (pc0 := 2) (pc' := 18) rfl (hb hby d4_2) rfl (tlt (by decide)).1 (by decide) (by decide) k) ?_
  refine own_by (T' := s₁) (g' := (mkF m 19 #[.val (.ref ca), .val (.int 1)] [(.int 1)])) (fun t k => XS.iloadN X0.here hx rfl (hb hby d4_18) rfl k) ?_
  refine own_by (T' := s₁) (g' := (mkF m 20 #[.val (.ref ca), .val (.int 1)] [(.int 4), (.int 1)])) (fun t k => XS.iconst X0.here hx rfl (hb hby d4_19) k) ?_
  refine own_by (T' := s₁) (g' := (mkF m 36 #[.val (.ref ca), .val (.int 1)] [])) (fun t k => XS.icmpYes X0.here hx rfl (pc0 := 20) (pc' := 36) rfl (hb hby d4_20) rfl (tlt (by decide)).1 (by decide) (by decide) k) ?_
  refine own_by (T' := s₁) (g' := (mkF m 37 #[.val (.ref ca), .val (.int 1)] [(.int 1)])) (fun t k => XS.iloadN X0.here hx rfl (hb hby d4_36) rfl k) ?_
  refine own_by (T' := s₁) (g' := (mkF m 38 #[.val (.ref ca), .val (.int 1)] [(.int 3), (.int 1)])) (fun t k => XS.iconst X0.here hx rfl (hb hby d4_37) k) ?_
  refine own_by (T' := s₁) (g' := (mkF m 54 #[.val (.ref ca), .val (.int 1)] [])) (fun t k => XS.icmpYes X0.here hx rfl (pc0 := 38) (pc' := 54) rfl (hb hby d4_38) rfl (tlt (by decide)).1 (by decide) (by decide) k) ?_
  refine own_by (T' := s₁) (g' := (mkF m 55 #[.val (.ref ca), .val (.int 1)] [(.int 1)])) (fun t k => XS.iloadN X0.here hx rfl (hb hby d4_54) rfl k) ?_
  refine own_by (T' := s₁) (g' := (mkF m 56 #[.val (.ref ca), .val (.int 1)] [(.int 2), (.int 1)])) (fun t k => XS.iconst X0.here hx rfl (hb hby d4_55) k) ?_
  refine own_by (T' := s₁) (g' := (mkF m 72 #[.val (.ref ca), .val (.int 1)] [])) (fun t k => XS.icmpYes X0.here hx rfl (pc0 := 56) (pc' := 72) rfl (hb hby d4_56) rfl (tlt (by decide)).1 (by decide) (by decide) k) ?_
  refine own_by (T' := s₁) (g' := (mkF m 73 #[.val (.ref ca), .val (.int 1)] [(.int 1)])) (fun t k => XS.iloadN X0.here hx rfl (hb hby d4_72) rfl k) ?_
  refine own_by (T' := s₁) (g' := (mkF m 74 #[.val (.ref ca), .val (.int 1)] [(.int 1), (.int 1)])) (fun t k => XS.iconst X0.here hx rfl (hb hby d4_73) k) ?_
  refine own_by (T' := s₁) (g' := (mkF m 77 #[.val (.ref ca), .val (.int 1)] [])) (fun t k => XS.icmpNo X0.here hx rfl (hb hby d4_74) rfl (flt (by decide)).1 k) ?_
  refine own_by (T' := s₁) (g' := (mkF m 78 #[.val (.ref ca), .val (.int 1)] [(.ref ca)])) (fun t k => XS.aloadN X0.here hx rfl (hb hby d4_77) rfl rfl k) ?_
  refine own_by (T' := s₁) (g' := (mkF m 79 #[.val (.ref ca), .val (.int 1)] [(.int 1), (.ref ca)])) (fun t k => XS.iloadN X0.here hx rfl (hb hby d4_78) rfl k) ?_
  refine own_by (T' := s₁) (g' := (mkF m 80 #[.val (.ref ca), .val (.int 1)] [(.int 1), (.int 1), (.ref ca)])) (fun t k => XS.iconst X0.here hx rfl (hb hby d4_79) k) ?_
  obtain ⟨_, _, ⟨T1, L1, k1, n1⟩, -, X1, ⟨Lc1, hQ1, l1, y1, z1⟩, st1⟩ := Jvm.LawKit.callS X0 hx (y := (⟨"com/example/emu/emu/PrefixTableOfPinLaw", "eq", "([CII)Z"⟩ : MethodName)) hown (mvT hZ (hw _ (own_m 26 rfl))) (mvT hZ (hw _ (own_m 27 rfl))) (mvT hZ (hw _ (own_m 21 rfl))) (mvT hZ (hw _ (own_m 28 rfl))) (by decide) (backOf (W := 0) (rm5_1_1 l Z a0 hw [] ca kc c0 c1 c2 c3 c4 c5 h0 n0 Zle V_ca) hZ (hw _ (own_m 28 rfl)) (hw _ (own_m 21 rfl)) (by decide) (by decide)) (g := (mkF m 80 #[.val (.ref ca), .val (.int 1)] [(.int 1), (.int 1), (.ref ca)])) rfl (by rw [hml]; rfl) (argsL := [(.ref ca), (.int 1), (.int 1)]) (rest := []) (lenOf pd_4 rfl) rfl (own_le rfl) (hb hby d4_80) (fun _ _ => ⟨rfl, e0, (by decide : 0 + 0 ≤ _), (by decide : 0 + 0 ≤ _)⟩)
  dsimp only [Pt.U, Pt.locs, Pt.cells, Pt.slots] at X1 l1 y1 z1 st1 hQ1
  subst l1 y1 z1
  obtain ⟨rfl, Nq1, e1⟩ := hQ1
  replace N_ := Fr.app N_ Nq1
  clear Nq1
  refine own_by (T' := T1) (g' := (mkF m 83 #[.val (.ref ca), .val (.int 1)] [(.int (own_eq1_1 c0 c1 c2 c3 c4 c5))])) (fun t k => st1 _ k) ?_
  clear st1 X0 e0
  by_cases hc83_2 : (own_eq1_1 c0 c1 c2 c3 c4 c5) = (0 : Int32)
  · refine own_by (T' := T1) (g' := (mkF m 88 #[.val (.ref ca), .val (.int 1)] [])) (fun t k => XS.ifYes X1.here hx rfl (pc0 := 83) (pc' := 88) rfl (hb hby d4_83) rfl ((if0 _ _).trans (teq hc83_2).1) (by decide) (by decide) k) ?_
    refine own_by (T' := T1) (g' := (mkF m 89 #[.val (.ref ca), .val (.int 1)] [(.int 0)])) (fun t k => XS.iconst X1.here hx rfl (hb hby d4_88) k) ?_
    exact own_retI X1 hx Bd.notSynchronized Bd.returns (hb hby d4_89) (by decide) (by decide) (by rw [e1]; exact ⟨by unfold own_ref1; rw [if_pos hc83_2] <;> rfl, N_, rfl⟩)
  · refine own_by (T' := T1) (g' := (mkF m 86 #[.val (.ref ca), .val (.int 1)] [])) (fun t k => XS.ifNo X1.here hx rfl (hb hby d4_83) rfl ((if0 _ _).trans (feq hc83_2).1) k) ?_
    refine own_by (T' := T1) (g' := (mkF m 87 #[.val (.ref ca), .val (.int 1)] [(.int 1)])) (fun t k => XS.iconst X1.here hx rfl (hb hby d4_86) k) ?_
    exact own_retI X1 hx Bd.notSynchronized Bd.returns (hb hby d4_87) (by decide) (by decide) (by rw [e1]; exact ⟨by unfold own_ref1; rw [if_neg hc83_2] <;> rfl, N_, rfl⟩)

def Q4_2 (Z : State) (ca : Addr) (kc : ClassId) (c0 : Int32) (c1 : Int32) (c2 : Int32) (c3 : Int32) (c4 : Int32) (c5 : Int32) (h0 : Heap) (n0 : Nat) (v : Option Value) (h : Heap) (L : List Loc) : Prop := v = some (.int (own_ref2 c0 c1 c2 c3 c4 c5)) ∧ Fr n0 L ∧ h = h0
theorem ef_4_2 (m : MethodId) (ca : Addr) : entryFrame m #[(.ref ca), (.int 2)] 2 = mkF m 0 #[.val (.ref ca), .val (.int 2)] [] := by first | (simp [entryFrame, mkF, argsToLocals, Value.category]; done) | rfl
theorem d4_59 : decode method_4_code 59 = .ok (.aload_n 0, 1) := by decide +kernel
theorem d4_60 : decode method_4_code 60 = .ok (.iload_n 1, 1) := by decide +kernel
theorem d4_61 : decode method_4_code 61 = .ok (.iconst 1, 1) := by decide +kernel
theorem d4_62 : decode method_4_code 62 = .ok (.isub, 1) := by decide +kernel
theorem d4_63 : decode method_4_code 63 = .ok (.iconst 2, 1) := by decide +kernel
theorem d4_64 : decode method_4_code 64 = .ok (.invokestatic 24, 3) := by decide +kernel
theorem d4_67 : decode method_4_code 67 = .ok (.ifCond .eq 5, 3) := by decide +kernel
theorem d4_70 : decode method_4_code 70 = .ok (.iconst 2, 1) := by decide +kernel
theorem d4_71 : decode method_4_code 71 = .ok (.ireturn, 1) := by decide +kernel
set_option maxRecDepth 65536 in
set_option maxHeartbeats 40000000 in
theorem rm4_2 (l : Launch) (Z : State) (a0 : Array Value) (hw : ∀ d ∈ tables_1, d.before a0 Z = true) (ws : List Jvm.Cond) (ca : Addr) (kc : ClassId) (c0 : Int32) (c1 : Int32) (c2 : Int32) (c3 : Int32) (c4 : Int32) (c5 : Int32) (h0 : Heap) (n0 : Nat) (Zle : n0 ≤ h0.size) (V_ca : Arv Z h0 ca kc .char (6 : Int32) [(.int c0), (.int c1), (.int c2), (.int c3), (.int c4), (.int c5)] (.int 0)) :
    MetFree l (⟨"com/example/emu/emu/PrefixTableOfPinLaw", "ref", "([CI)I"⟩ : MethodName) (head1 (Jvm.Cond.code (⟨"com/example/emu/emu/PrefixTableOfPinLaw", "ref", "([CI)I"⟩ : MethodName) method_4_code 2 (some .int) :: ws) ({ frames := 1, cells := 0, slots := 0, locals := 14 } : Room)) (fun a U => a = #[(.ref ca), (.int 2)] ∧ Z.Warmed39 U.vm ∧ U.heap = h0) (fun _ _ _ _ _ => True) (fun _ U o U' => ∃ v L, o = .returned v ∧ Q4_2 Z ca kc c0 c1 c2 c3 c4 c5 h0 n0 v U'.heap L ∧ FrameEnd U o U' L ({ frames := 1, cells := 0, slots := 0, locals := 14 } : Room).cells ({ frames := 1, cells := 0, slots := 0, locals := 14 } : Room).slots) := by
  refine MetFree.of_bodySF (plainFor_of_name pn_com_example_emu_emu_PrefixTableOfPinLaw) hisR ?_
  intro p e s m args below meth c s₁ Bd hml0 hP hK
  obtain ⟨rfl, hZ, hh⟩ := hP
  have hx := Bd.exec
  have hby := Bd.bytes
  have hml : c.maxLocals = 2 := hml0
  have hown : s.vm.findClass "com/example/emu/emu/PrefixTableOfPinLaw" = some m.cls := findClass_of_methodNamed Bd.named
  have hnm := (name_of_methodNamed Bd.named Bd.method).1
  have X0 : Stand p l e ({ frames := 1, cells := 0, slots := 0, locals := 14 } : Room) s m #[(.ref ca), (.int 2)] below meth c s₁ [] 0 0 := Stand.of_body Bd
  have e0 : s₁.heap = h0 := by rw [← hh, Bd.state]; rfl
  have N_ := Fr.nil n0
  show own_Goes p.tables e below s (Q4_2 Z ca kc c0 c1 c2 c3 c4 c5 h0 n0) ({ frames := 1, cells := 0, slots := 0, locals := 14 } : Room).cells ({ frames := 1, cells := 0, slots := 0, locals := 14 } : Room).slots s₁ (entryFrame m #[(.ref ca), (.int 2)] 2)
  refine own_by (T' := s₁) (g' := (mkF m 0 #[.val (.ref ca), .val (.int 2)] [])) (fun t k => castTop (ef_4_2 m ca) k) ?_
  refine own_by (T' := s₁) (g' := (mkF m 1 #[.val (.ref ca), .val (.int 2)] [(.int 2)])) (fun t k => XS.iloadN X0.here hx rfl (hb hby d4_0) rfl k) ?_
  refine own_by (T' := s₁) (g' := (mkF m 2 #[.val (.ref ca), .val (.int 2)] [(.int 5), (.int 2)])) (fun t k => XS.iconst X0.here hx rfl (hb hby d4_1) k) ?_
  refine own_by (T' := s₁) (g' := (mkF m 18 #[.val (.ref ca), .val (.int 2)] [])) (fun t k => XS.icmpYes X0.here hx rfl (pc0 := 2) (pc' := 18) rfl (hb hby d4_2) rfl (tlt (by decide)).1 (by decide) (by decide) k) ?_
  refine own_by (T' := s₁) (g' := (mkF m 19 #[.val (.ref ca), .val (.int 2)] [(.int 2)])) (fun t k => XS.iloadN X0.here hx rfl (hb hby d4_18) rfl k) ?_
  refine own_by (T' := s₁) (g' := (mkF m 20 #[.val (.ref ca), .val (.int 2)] [(.int 4), (.int 2)])) (fun t k => XS.iconst X0.here hx rfl (hb hby d4_19) k) ?_
  refine own_by (T' := s₁) (g' := (mkF m 36 #[.val (.ref ca), .val (.int 2)] [])) (fun t k => XS.icmpYes X0.here hx rfl (pc0 := 20) (pc' := 36) rfl (hb hby d4_20) rfl (tlt (by decide)).1 (by decide) (by decide) k) ?_
  refine own_by (T' := s₁) (g' := (mkF m 37 #[.val (.ref ca), .val (.int 2)] [(.int 2)])) (fun t k => XS.iloadN X0.here hx rfl (hb hby d4_36) rfl k) ?_
  refine own_by (T' := s₁) (g' := (mkF m 38 #[.val (.ref ca), .val (.int 2)] [(.int 3), (.int 2)])) (fun t k => XS.iconst X0.here hx rfl (hb hby d4_37) k) ?_
  refine own_by (T' := s₁) (g' := (mkF m 54 #[.val (.ref ca), .val (.int 2)] [])) (fun t k => XS.icmpYes X0.here hx rfl (pc0 := 38) (pc' := 54) rfl (hb hby d4_38) rfl (tlt (by decide)).1 (by decide) (by decide) k) ?_
  refine own_by (T' := s₁) (g' := (mkF m 55 #[.val (.ref ca), .val (.int 2)] [(.int 2)])) (fun t k => XS.iloadN X0.here hx rfl (hb hby d4_54) rfl k) ?_
  refine own_by (T' := s₁) (g' := (mkF m 56 #[.val (.ref ca), .val (.int 2)] [(.int 2), (.int 2)])) (fun t k => XS.iconst X0.here hx rfl (hb hby d4_55) k) ?_
  refine own_by (T' := s₁) (g' := (mkF m 59 #[.val (.ref ca), .val (.int 2)] [])) (fun t k => XS.icmpNo X0.here hx rfl (hb hby d4_56) rfl (flt (by decide)).1 k) ?_
  refine own_by (T' := s₁) (g' := (mkF m 60 #[.val (.ref ca), .val (.int 2)] [(.ref ca)])) (fun t k => XS.aloadN X0.here hx rfl (hb hby d4_59) rfl rfl k) ?_
  refine own_by (T' := s₁) (g' := (mkF m 61 #[.val (.ref ca), .val (.int 2)] [(.int 2), (.ref ca)])) (fun t k => XS.iloadN X0.here hx rfl (hb hby d4_60) rfl k) ?_
  refine own_by (T' := s₁) (g' := (mkF m 62 #[.val (.ref ca), .val (.int 2)] [(.int 1), (.int 2), (.ref ca)])) (fun t k => XS.iconst X0.here hx rfl (hb hby d4_61) k) ?_
  refine own_by (T' := s₁) (g' := (mkF m 63 #[.val (.ref ca), .val (.int 2)] [(.int 1), (.ref ca)])) (fun t k => XS.isub X0.here hx rfl (hb hby d4_62) rfl k) ?_
  refine own_by (T' := s₁) (g' := (mkF m 64 #[.val (.ref ca), .val (.int 2)] [(.int 2), (.int 1), (.ref ca)])) (fun t k => XS.iconst X0.here hx rfl (hb hby d4_63) k) ?_
  obtain ⟨_, _, ⟨T1, L1, k1, n1⟩, -, X1, ⟨Lc1, hQ1, l1, y1, z1⟩, st1⟩ := Jvm.LawKit.callS X0 hx (y := (⟨"com/example/emu/emu/PrefixTableOfPinLaw", "eq", "([CII)Z"⟩ : MethodName)) hown (mvT hZ (hw _ (own_m 26 rfl))) (mvT hZ (hw _ (own_m 27 rfl))) (mvT hZ (hw _ (own_m 21 rfl))) (mvT hZ (hw _ (own_m 28 rfl))) (by decide) (backOf (W := 0) (rm5_1_2 l Z a0 hw [] ca kc c0 c1 c2 c3 c4 c5 h0 n0 Zle V_ca) hZ (hw _ (own_m 28 rfl)) (hw _ (own_m 21 rfl)) (by decide) (by decide)) (g := (mkF m 64 #[.val (.ref ca), .val (.int 2)] [(.int 2), (.int 1), (.ref ca)])) rfl (by rw [hml]; rfl) (argsL := [(.ref ca), (.int 1), (.int 2)]) (rest := []) (lenOf pd_4 rfl) rfl (own_le rfl) (hb hby d4_64) (fun _ _ => ⟨rfl, e0, (by decide : 0 + 0 ≤ _), (by decide : 0 + 0 ≤ _)⟩)
  dsimp only [Pt.U, Pt.locs, Pt.cells, Pt.slots] at X1 l1 y1 z1 st1 hQ1
  subst l1 y1 z1
  obtain ⟨rfl, Nq1, e1⟩ := hQ1
  replace N_ := Fr.app N_ Nq1
  clear Nq1
  refine own_by (T' := T1) (g' := (mkF m 67 #[.val (.ref ca), .val (.int 2)] [(.int (own_eq1_2 c0 c1 c2 c3 c4 c5))])) (fun t k => st1 _ k) ?_
  clear st1 X0 e0
  by_cases hc67_2 : (own_eq1_2 c0 c1 c2 c3 c4 c5) = (0 : Int32)
  · refine own_by (T' := T1) (g' := (mkF m 72 #[.val (.ref ca), .val (.int 2)] [])) (fun t k => XS.ifYes X1.here hx rfl (pc0 := 67) (pc' := 72) rfl (hb hby d4_67) rfl ((if0 _ _).trans (teq hc67_2).1) (by decide) (by decide) k) ?_
    refine own_by (T' := T1) (g' := (mkF m 73 #[.val (.ref ca), .val (.int 2)] [(.int 2)])) (fun t k => XS.iloadN X1.here hx rfl (hb hby d4_72) rfl k) ?_
    refine own_by (T' := T1) (g' := (mkF m 74 #[.val (.ref ca), .val (.int 2)] [(.int 1), (.int 2)])) (fun t k => XS.iconst X1.here hx rfl (hb hby d4_73) k) ?_
    refine own_by (T' := T1) (g' := (mkF m 77 #[.val (.ref ca), .val (.int 2)] [])) (fun t k => XS.icmpNo X1.here hx rfl (hb hby d4_74) rfl (flt (by decide)).1 k) ?_
    refine own_by (T' := T1) (g' := (mkF m 78 #[.val (.ref ca), .val (.int 2)] [(.ref ca)])) (fun t k => XS.aloadN X1.here hx rfl (hb hby d4_77) rfl rfl k) ?_
    refine own_by (T' := T1) (g' := (mkF m 79 #[.val (.ref ca), .val (.int 2)] [(.int 2), (.ref ca)])) (fun t k => XS.iloadN X1.here hx rfl (hb hby d4_78) rfl k) ?_
    refine own_by (T' := T1) (g' := (mkF m 80 #[.val (.ref ca), .val (.int 2)] [(.int 1), (.int 2), (.ref ca)])) (fun t k => XS.iconst X1.here hx rfl (hb hby d4_79) k) ?_
    obtain ⟨_, _, ⟨T3, L3, k3, n3⟩, -, X3, ⟨Lc3, hQ3, l3, y3, z3⟩, st3⟩ := Jvm.LawKit.callS X1 hx (y := (⟨"com/example/emu/emu/PrefixTableOfPinLaw", "eq", "([CII)Z"⟩ : MethodName)) hown (mvT hZ (hw _ (own_m 26 rfl))) (mvT hZ (hw _ (own_m 27 rfl))) (mvT hZ (hw _ (own_m 21 rfl))) (mvT hZ (hw _ (own_m 28 rfl))) (by decide) (backOf (W := 0) (rm5_2_1 l Z a0 hw [] ca kc c0 c1 c2 c3 c4 c5 h0 n0 Zle V_ca) hZ (hw _ (own_m 28 rfl)) (hw _ (own_m 21 rfl)) (by decide) (by decide)) (g := (mkF m 80 #[.val (.ref ca), .val (.int 2)] [(.int 1), (.int 2), (.ref ca)])) rfl (by rw [hml]; rfl) (argsL := [(.ref ca), (.int 2), (.int 1)]) (rest := []) (lenOf pd_4 rfl) rfl (own_le rfl) (hb hby d4_80) (fun _ _ => ⟨rfl, e1, (by decide : 0 + 0 ≤ _), (by decide : 0 + 0 ≤ _)⟩)
    dsimp only [Pt.U, Pt.locs, Pt.cells, Pt.slots] at X3 l3 y3 z3 st3 hQ3
    subst l3 y3 z3
    obtain ⟨rfl, Nq3, e3⟩ := hQ3
    replace N_ := Fr.app N_ Nq3
    clear Nq3
    refine own_by (T' := T3) (g' := (mkF m 83 #[.val (.ref ca), .val (.int 2)] [(.int (own_eq2_1 c0 c1 c2 c3 c4 c5))])) (fun t k => st3 _ k) ?_
    clear st3 X1 e1
    by_cases hc83_4 : (own_eq2_1 c0 c1 c2 c3 c4 c5) = (0 : Int32)
    · refine own_by (T' := T3) (g' := (mkF m 88 #[.val (.ref ca), .val (.int 2)] [])) (fun t k => XS.ifYes X3.here hx rfl (pc0 := 83) (pc' := 88) rfl (hb hby d4_83) rfl ((if0 _ _).trans (teq hc83_4).1) (by decide) (by decide) k) ?_
      refine own_by (T' := T3) (g' := (mkF m 89 #[.val (.ref ca), .val (.int 2)] [(.int 0)])) (fun t k => XS.iconst X3.here hx rfl (hb hby d4_88) k) ?_
      exact own_retI X3 hx Bd.notSynchronized Bd.returns (hb hby d4_89) (by decide) (by decide) (by rw [e3]; exact ⟨by unfold own_ref2; rw [if_pos hc67_2, if_pos hc83_4] <;> rfl, N_, rfl⟩)
    · refine own_by (T' := T3) (g' := (mkF m 86 #[.val (.ref ca), .val (.int 2)] [])) (fun t k => XS.ifNo X3.here hx rfl (hb hby d4_83) rfl ((if0 _ _).trans (feq hc83_4).1) k) ?_
      refine own_by (T' := T3) (g' := (mkF m 87 #[.val (.ref ca), .val (.int 2)] [(.int 1)])) (fun t k => XS.iconst X3.here hx rfl (hb hby d4_86) k) ?_
      exact own_retI X3 hx Bd.notSynchronized Bd.returns (hb hby d4_87) (by decide) (by decide) (by rw [e3]; exact ⟨by unfold own_ref2; rw [if_pos hc67_2, if_neg hc83_4] <;> rfl, N_, rfl⟩)
  · refine own_by (T' := T1) (g' := (mkF m 70 #[.val (.ref ca), .val (.int 2)] [])) (fun t k => XS.ifNo X1.here hx rfl (hb hby d4_67) rfl ((if0 _ _).trans (feq hc67_2).1) k) ?_
    refine own_by (T' := T1) (g' := (mkF m 71 #[.val (.ref ca), .val (.int 2)] [(.int 2)])) (fun t k => XS.iconst X1.here hx rfl (hb hby d4_70) k) ?_
    exact own_retI X1 hx Bd.notSynchronized Bd.returns (hb hby d4_71) (by decide) (by decide) (by rw [e1]; exact ⟨by unfold own_ref2; rw [if_neg hc67_2] <;> rfl, N_, rfl⟩)

def Q4_3 (Z : State) (ca : Addr) (kc : ClassId) (c0 : Int32) (c1 : Int32) (c2 : Int32) (c3 : Int32) (c4 : Int32) (c5 : Int32) (h0 : Heap) (n0 : Nat) (v : Option Value) (h : Heap) (L : List Loc) : Prop := v = some (.int (own_ref3 c0 c1 c2 c3 c4 c5)) ∧ Fr n0 L ∧ h = h0
theorem ef_4_3 (m : MethodId) (ca : Addr) : entryFrame m #[(.ref ca), (.int 3)] 2 = mkF m 0 #[.val (.ref ca), .val (.int 3)] [] := by first | (simp [entryFrame, mkF, argsToLocals, Value.category]; done) | rfl
theorem d4_41 : decode method_4_code 41 = .ok (.aload_n 0, 1) := by decide +kernel
theorem d4_42 : decode method_4_code 42 = .ok (.iload_n 1, 1) := by decide +kernel
theorem d4_43 : decode method_4_code 43 = .ok (.iconst 2, 1) := by decide +kernel
theorem d4_44 : decode method_4_code 44 = .ok (.isub, 1) := by decide +kernel
theorem d4_45 : decode method_4_code 45 = .ok (.iconst 3, 1) := by decide +kernel
theorem d4_46 : decode method_4_code 46 = .ok (.invokestatic 24, 3) := by decide +kernel
theorem d4_49 : decode method_4_code 49 = .ok (.ifCond .eq 5, 3) := by decide +kernel
theorem d4_52 : decode method_4_code 52 = .ok (.iconst 3, 1) := by decide +kernel
theorem d4_53 : decode method_4_code 53 = .ok (.ireturn, 1) := by decide +kernel
set_option maxRecDepth 65536 in
set_option maxHeartbeats 40000000 in
theorem rm4_3 (l : Launch) (Z : State) (a0 : Array Value) (hw : ∀ d ∈ tables_1, d.before a0 Z = true) (ws : List Jvm.Cond) (ca : Addr) (kc : ClassId) (c0 : Int32) (c1 : Int32) (c2 : Int32) (c3 : Int32) (c4 : Int32) (c5 : Int32) (h0 : Heap) (n0 : Nat) (Zle : n0 ≤ h0.size) (V_ca : Arv Z h0 ca kc .char (6 : Int32) [(.int c0), (.int c1), (.int c2), (.int c3), (.int c4), (.int c5)] (.int 0)) :
    MetFree l (⟨"com/example/emu/emu/PrefixTableOfPinLaw", "ref", "([CI)I"⟩ : MethodName) (head1 (Jvm.Cond.code (⟨"com/example/emu/emu/PrefixTableOfPinLaw", "ref", "([CI)I"⟩ : MethodName) method_4_code 2 (some .int) :: ws) ({ frames := 1, cells := 0, slots := 0, locals := 14 } : Room)) (fun a U => a = #[(.ref ca), (.int 3)] ∧ Z.Warmed39 U.vm ∧ U.heap = h0) (fun _ _ _ _ _ => True) (fun _ U o U' => ∃ v L, o = .returned v ∧ Q4_3 Z ca kc c0 c1 c2 c3 c4 c5 h0 n0 v U'.heap L ∧ FrameEnd U o U' L ({ frames := 1, cells := 0, slots := 0, locals := 14 } : Room).cells ({ frames := 1, cells := 0, slots := 0, locals := 14 } : Room).slots) := by
  refine MetFree.of_bodySF (plainFor_of_name pn_com_example_emu_emu_PrefixTableOfPinLaw) hisR ?_
  intro p e s m args below meth c s₁ Bd hml0 hP hK
  obtain ⟨rfl, hZ, hh⟩ := hP
  have hx := Bd.exec
  have hby := Bd.bytes
  have hml : c.maxLocals = 2 := hml0
  have hown : s.vm.findClass "com/example/emu/emu/PrefixTableOfPinLaw" = some m.cls := findClass_of_methodNamed Bd.named
  have hnm := (name_of_methodNamed Bd.named Bd.method).1
  have X0 : Stand p l e ({ frames := 1, cells := 0, slots := 0, locals := 14 } : Room) s m #[(.ref ca), (.int 3)] below meth c s₁ [] 0 0 := Stand.of_body Bd
  have e0 : s₁.heap = h0 := by rw [← hh, Bd.state]; rfl
  have N_ := Fr.nil n0
  show own_Goes p.tables e below s (Q4_3 Z ca kc c0 c1 c2 c3 c4 c5 h0 n0) ({ frames := 1, cells := 0, slots := 0, locals := 14 } : Room).cells ({ frames := 1, cells := 0, slots := 0, locals := 14 } : Room).slots s₁ (entryFrame m #[(.ref ca), (.int 3)] 2)
  refine own_by (T' := s₁) (g' := (mkF m 0 #[.val (.ref ca), .val (.int 3)] [])) (fun t k => castTop (ef_4_3 m ca) k) ?_
  refine own_by (T' := s₁) (g' := (mkF m 1 #[.val (.ref ca), .val (.int 3)] [(.int 3)])) (fun t k => XS.iloadN X0.here hx rfl (hb hby d4_0) rfl k) ?_
  refine own_by (T' := s₁) (g' := (mkF m 2 #[.val (.ref ca), .val (.int 3)] [(.int 5), (.int 3)])) (fun t k => XS.iconst X0.here hx rfl (hb hby d4_1) k) ?_
  refine own_by (T' := s₁) (g' := (mkF m 18 #[.val (.ref ca), .val (.int 3)] [])) (fun t k => XS.icmpYes X0.here hx rfl (pc0 := 2) (pc' := 18) rfl (hb hby d4_2) rfl (tlt (by decide)).1 (by decide) (by decide) k) ?_
  refine own_by (T' := s₁) (g' := (mkF m 19 #[.val (.ref ca), .val (.int 3)] [(.int 3)])) (fun t k => XS.iloadN X0.here hx rfl (hb hby d4_18) rfl k) ?_
  refine own_by (T' := s₁) (g' := (mkF m 20 #[.val (.ref ca), .val (.int 3)] [(.int 4), (.int 3)])) (fun t k => XS.iconst X0.here hx rfl (hb hby d4_19) k) ?_
  refine own_by (T' := s₁) (g' := (mkF m 36 #[.val (.ref ca), .val (.int 3)] [])) (fun t k => XS.icmpYes X0.here hx rfl (pc0 := 20) (pc' := 36) rfl (hb hby d4_20) rfl (tlt (by decide)).1 (by decide) (by decide) k) ?_
  refine own_by (T' := s₁) (g' := (mkF m 37 #[.val (.ref ca), .val (.int 3)] [(.int 3)])) (fun t k => XS.iloadN X0.here hx rfl (hb hby d4_36) rfl k) ?_
  refine own_by (T' := s₁) (g' := (mkF m 38 #[.val (.ref ca), .val (.int 3)] [(.int 3), (.int 3)])) (fun t k => XS.iconst X0.here hx rfl (hb hby d4_37) k) ?_
  refine own_by (T' := s₁) (g' := (mkF m 41 #[.val (.ref ca), .val (.int 3)] [])) (fun t k => XS.icmpNo X0.here hx rfl (hb hby d4_38) rfl (flt (by decide)).1 k) ?_
  refine own_by (T' := s₁) (g' := (mkF m 42 #[.val (.ref ca), .val (.int 3)] [(.ref ca)])) (fun t k => XS.aloadN X0.here hx rfl (hb hby d4_41) rfl rfl k) ?_
  refine own_by (T' := s₁) (g' := (mkF m 43 #[.val (.ref ca), .val (.int 3)] [(.int 3), (.ref ca)])) (fun t k => XS.iloadN X0.here hx rfl (hb hby d4_42) rfl k) ?_
  refine own_by (T' := s₁) (g' := (mkF m 44 #[.val (.ref ca), .val (.int 3)] [(.int 2), (.int 3), (.ref ca)])) (fun t k => XS.iconst X0.here hx rfl (hb hby d4_43) k) ?_
  refine own_by (T' := s₁) (g' := (mkF m 45 #[.val (.ref ca), .val (.int 3)] [(.int 1), (.ref ca)])) (fun t k => XS.isub X0.here hx rfl (hb hby d4_44) rfl k) ?_
  refine own_by (T' := s₁) (g' := (mkF m 46 #[.val (.ref ca), .val (.int 3)] [(.int 3), (.int 1), (.ref ca)])) (fun t k => XS.iconst X0.here hx rfl (hb hby d4_45) k) ?_
  obtain ⟨_, _, ⟨T1, L1, k1, n1⟩, -, X1, ⟨Lc1, hQ1, l1, y1, z1⟩, st1⟩ := Jvm.LawKit.callS X0 hx (y := (⟨"com/example/emu/emu/PrefixTableOfPinLaw", "eq", "([CII)Z"⟩ : MethodName)) hown (mvT hZ (hw _ (own_m 26 rfl))) (mvT hZ (hw _ (own_m 27 rfl))) (mvT hZ (hw _ (own_m 21 rfl))) (mvT hZ (hw _ (own_m 28 rfl))) (by decide) (backOf (W := 0) (rm5_1_3 l Z a0 hw [] ca kc c0 c1 c2 c3 c4 c5 h0 n0 Zle V_ca) hZ (hw _ (own_m 28 rfl)) (hw _ (own_m 21 rfl)) (by decide) (by decide)) (g := (mkF m 46 #[.val (.ref ca), .val (.int 3)] [(.int 3), (.int 1), (.ref ca)])) rfl (by rw [hml]; rfl) (argsL := [(.ref ca), (.int 1), (.int 3)]) (rest := []) (lenOf pd_4 rfl) rfl (own_le rfl) (hb hby d4_46) (fun _ _ => ⟨rfl, e0, (by decide : 0 + 0 ≤ _), (by decide : 0 + 0 ≤ _)⟩)
  dsimp only [Pt.U, Pt.locs, Pt.cells, Pt.slots] at X1 l1 y1 z1 st1 hQ1
  subst l1 y1 z1
  obtain ⟨rfl, Nq1, e1⟩ := hQ1
  replace N_ := Fr.app N_ Nq1
  clear Nq1
  refine own_by (T' := T1) (g' := (mkF m 49 #[.val (.ref ca), .val (.int 3)] [(.int (own_eq1_3 c0 c1 c2 c3 c4 c5))])) (fun t k => st1 _ k) ?_
  clear st1 X0 e0
  by_cases hc49_2 : (own_eq1_3 c0 c1 c2 c3 c4 c5) = (0 : Int32)
  · refine own_by (T' := T1) (g' := (mkF m 54 #[.val (.ref ca), .val (.int 3)] [])) (fun t k => XS.ifYes X1.here hx rfl (pc0 := 49) (pc' := 54) rfl (hb hby d4_49) rfl ((if0 _ _).trans (teq hc49_2).1) (by decide) (by decide) k) ?_
    refine own_by (T' := T1) (g' := (mkF m 55 #[.val (.ref ca), .val (.int 3)] [(.int 3)])) (fun t k => XS.iloadN X1.here hx rfl (hb hby d4_54) rfl k) ?_
    refine own_by (T' := T1) (g' := (mkF m 56 #[.val (.ref ca), .val (.int 3)] [(.int 2), (.int 3)])) (fun t k => XS.iconst X1.here hx rfl (hb hby d4_55) k) ?_
    refine own_by (T' := T1) (g' := (mkF m 59 #[.val (.ref ca), .val (.int 3)] [])) (fun t k => XS.icmpNo X1.here hx rfl (hb hby d4_56) rfl (flt (by decide)).1 k) ?_
    refine own_by (T' := T1) (g' := (mkF m 60 #[.val (.ref ca), .val (.int 3)] [(.ref ca)])) (fun t k => XS.aloadN X1.here hx rfl (hb hby d4_59) rfl rfl k) ?_
    refine own_by (T' := T1) (g' := (mkF m 61 #[.val (.ref ca), .val (.int 3)] [(.int 3), (.ref ca)])) (fun t k => XS.iloadN X1.here hx rfl (hb hby d4_60) rfl k) ?_
    refine own_by (T' := T1) (g' := (mkF m 62 #[.val (.ref ca), .val (.int 3)] [(.int 1), (.int 3), (.ref ca)])) (fun t k => XS.iconst X1.here hx rfl (hb hby d4_61) k) ?_
    refine own_by (T' := T1) (g' := (mkF m 63 #[.val (.ref ca), .val (.int 3)] [(.int 2), (.ref ca)])) (fun t k => XS.isub X1.here hx rfl (hb hby d4_62) rfl k) ?_
    refine own_by (T' := T1) (g' := (mkF m 64 #[.val (.ref ca), .val (.int 3)] [(.int 2), (.int 2), (.ref ca)])) (fun t k => XS.iconst X1.here hx rfl (hb hby d4_63) k) ?_
    obtain ⟨_, _, ⟨T3, L3, k3, n3⟩, -, X3, ⟨Lc3, hQ3, l3, y3, z3⟩, st3⟩ := Jvm.LawKit.callS X1 hx (y := (⟨"com/example/emu/emu/PrefixTableOfPinLaw", "eq", "([CII)Z"⟩ : MethodName)) hown (mvT hZ (hw _ (own_m 26 rfl))) (mvT hZ (hw _ (own_m 27 rfl))) (mvT hZ (hw _ (own_m 21 rfl))) (mvT hZ (hw _ (own_m 28 rfl))) (by decide) (backOf (W := 0) (rm5_2_2 l Z a0 hw [] ca kc c0 c1 c2 c3 c4 c5 h0 n0 Zle V_ca) hZ (hw _ (own_m 28 rfl)) (hw _ (own_m 21 rfl)) (by decide) (by decide)) (g := (mkF m 64 #[.val (.ref ca), .val (.int 3)] [(.int 2), (.int 2), (.ref ca)])) rfl (by rw [hml]; rfl) (argsL := [(.ref ca), (.int 2), (.int 2)]) (rest := []) (lenOf pd_4 rfl) rfl (own_le rfl) (hb hby d4_64) (fun _ _ => ⟨rfl, e1, (by decide : 0 + 0 ≤ _), (by decide : 0 + 0 ≤ _)⟩)
    dsimp only [Pt.U, Pt.locs, Pt.cells, Pt.slots] at X3 l3 y3 z3 st3 hQ3
    subst l3 y3 z3
    obtain ⟨rfl, Nq3, e3⟩ := hQ3
    replace N_ := Fr.app N_ Nq3
    clear Nq3
    refine own_by (T' := T3) (g' := (mkF m 67 #[.val (.ref ca), .val (.int 3)] [(.int (own_eq2_2 c0 c1 c2 c3 c4 c5))])) (fun t k => st3 _ k) ?_
    clear st3 X1 e1
    by_cases hc67_4 : (own_eq2_2 c0 c1 c2 c3 c4 c5) = (0 : Int32)
    · refine own_by (T' := T3) (g' := (mkF m 72 #[.val (.ref ca), .val (.int 3)] [])) (fun t k => XS.ifYes X3.here hx rfl (pc0 := 67) (pc' := 72) rfl (hb hby d4_67) rfl ((if0 _ _).trans (teq hc67_4).1) (by decide) (by decide) k) ?_
      refine own_by (T' := T3) (g' := (mkF m 73 #[.val (.ref ca), .val (.int 3)] [(.int 3)])) (fun t k => XS.iloadN X3.here hx rfl (hb hby d4_72) rfl k) ?_
      refine own_by (T' := T3) (g' := (mkF m 74 #[.val (.ref ca), .val (.int 3)] [(.int 1), (.int 3)])) (fun t k => XS.iconst X3.here hx rfl (hb hby d4_73) k) ?_
      refine own_by (T' := T3) (g' := (mkF m 77 #[.val (.ref ca), .val (.int 3)] [])) (fun t k => XS.icmpNo X3.here hx rfl (hb hby d4_74) rfl (flt (by decide)).1 k) ?_
      refine own_by (T' := T3) (g' := (mkF m 78 #[.val (.ref ca), .val (.int 3)] [(.ref ca)])) (fun t k => XS.aloadN X3.here hx rfl (hb hby d4_77) rfl rfl k) ?_
      refine own_by (T' := T3) (g' := (mkF m 79 #[.val (.ref ca), .val (.int 3)] [(.int 3), (.ref ca)])) (fun t k => XS.iloadN X3.here hx rfl (hb hby d4_78) rfl k) ?_
      refine own_by (T' := T3) (g' := (mkF m 80 #[.val (.ref ca), .val (.int 3)] [(.int 1), (.int 3), (.ref ca)])) (fun t k => XS.iconst X3.here hx rfl (hb hby d4_79) k) ?_
      obtain ⟨_, _, ⟨T5, L5, k5, n5⟩, -, X5, ⟨Lc5, hQ5, l5, y5, z5⟩, st5⟩ := Jvm.LawKit.callS X3 hx (y := (⟨"com/example/emu/emu/PrefixTableOfPinLaw", "eq", "([CII)Z"⟩ : MethodName)) hown (mvT hZ (hw _ (own_m 26 rfl))) (mvT hZ (hw _ (own_m 27 rfl))) (mvT hZ (hw _ (own_m 21 rfl))) (mvT hZ (hw _ (own_m 28 rfl))) (by decide) (backOf (W := 0) (rm5_3_1 l Z a0 hw [] ca kc c0 c1 c2 c3 c4 c5 h0 n0 Zle V_ca) hZ (hw _ (own_m 28 rfl)) (hw _ (own_m 21 rfl)) (by decide) (by decide)) (g := (mkF m 80 #[.val (.ref ca), .val (.int 3)] [(.int 1), (.int 3), (.ref ca)])) rfl (by rw [hml]; rfl) (argsL := [(.ref ca), (.int 3), (.int 1)]) (rest := []) (lenOf pd_4 rfl) rfl (own_le rfl) (hb hby d4_80) (fun _ _ => ⟨rfl, e3, (by decide : 0 + 0 ≤ _), (by decide : 0 + 0 ≤ _)⟩)
      dsimp only [Pt.U, Pt.locs, Pt.cells, Pt.slots] at X5 l5 y5 z5 st5 hQ5
      subst l5 y5 z5
      obtain ⟨rfl, Nq5, e5⟩ := hQ5
      replace N_ := Fr.app N_ Nq5
      clear Nq5
      refine own_by (T' := T5) (g' := (mkF m 83 #[.val (.ref ca), .val (.int 3)] [(.int (own_eq3_1 c0 c1 c2 c3 c4 c5))])) (fun t k => st5 _ k) ?_
      clear st5 X3 e3
      by_cases hc83_6 : (own_eq3_1 c0 c1 c2 c3 c4 c5) = (0 : Int32)
      · refine own_by (T' := T5) (g' := (mkF m 88 #[.val (.ref ca), .val (.int 3)] [])) (fun t k => XS.ifYes X5.here hx rfl (pc0 := 83) (pc' := 88) rfl (hb hby d4_83) rfl ((if0 _ _).trans (teq hc83_6).1) (by decide) (by decide) k) ?_
        refine own_by (T' := T5) (g' := (mkF m 89 #[.val (.ref ca), .val (.int 3)] [(.int 0)])) (fun t k => XS.iconst X5.here hx rfl (hb hby d4_88) k) ?_
        exact own_retI X5 hx Bd.notSynchronized Bd.returns (hb hby d4_89) (by decide) (by decide) (by rw [e5]; exact ⟨by unfold own_ref3; rw [if_pos hc49_2, if_pos hc67_4, if_pos hc83_6] <;> rfl, N_, rfl⟩)
      · refine own_by (T' := T5) (g' := (mkF m 86 #[.val (.ref ca), .val (.int 3)] [])) (fun t k => XS.ifNo X5.here hx rfl (hb hby d4_83) rfl ((if0 _ _).trans (feq hc83_6).1) k) ?_
        refine own_by (T' := T5) (g' := (mkF m 87 #[.val (.ref ca), .val (.int 3)] [(.int 1)])) (fun t k => XS.iconst X5.here hx rfl (hb hby d4_86) k) ?_
        exact own_retI X5 hx Bd.notSynchronized Bd.returns (hb hby d4_87) (by decide) (by decide) (by rw [e5]; exact ⟨by unfold own_ref3; rw [if_pos hc49_2, if_pos hc67_4, if_neg hc83_6] <;> rfl, N_, rfl⟩)
    · refine own_by (T' := T3) (g' := (mkF m 70 #[.val (.ref ca), .val (.int 3)] [])) (fun t k => XS.ifNo X3.here hx rfl (hb hby d4_67) rfl ((if0 _ _).trans (feq hc67_4).1) k) ?_
      refine own_by (T' := T3) (g' := (mkF m 71 #[.val (.ref ca), .val (.int 3)] [(.int 2)])) (fun t k => XS.iconst X3.here hx rfl (hb hby d4_70) k) ?_
      exact own_retI X3 hx Bd.notSynchronized Bd.returns (hb hby d4_71) (by decide) (by decide) (by rw [e3]; exact ⟨by unfold own_ref3; rw [if_pos hc49_2, if_neg hc67_4] <;> rfl, N_, rfl⟩)
  · refine own_by (T' := T1) (g' := (mkF m 52 #[.val (.ref ca), .val (.int 3)] [])) (fun t k => XS.ifNo X1.here hx rfl (hb hby d4_49) rfl ((if0 _ _).trans (feq hc49_2).1) k) ?_
    refine own_by (T' := T1) (g' := (mkF m 53 #[.val (.ref ca), .val (.int 3)] [(.int 3)])) (fun t k => XS.iconst X1.here hx rfl (hb hby d4_52) k) ?_
    exact own_retI X1 hx Bd.notSynchronized Bd.returns (hb hby d4_53) (by decide) (by decide) (by rw [e1]; exact ⟨by unfold own_ref3; rw [if_neg hc49_2] <;> rfl, N_, rfl⟩)

def Q4_4 (Z : State) (ca : Addr) (kc : ClassId) (c0 : Int32) (c1 : Int32) (c2 : Int32) (c3 : Int32) (c4 : Int32) (c5 : Int32) (h0 : Heap) (n0 : Nat) (v : Option Value) (h : Heap) (L : List Loc) : Prop := v = some (.int (own_ref4 c0 c1 c2 c3 c4 c5)) ∧ Fr n0 L ∧ h = h0
theorem ef_4_4 (m : MethodId) (ca : Addr) : entryFrame m #[(.ref ca), (.int 4)] 2 = mkF m 0 #[.val (.ref ca), .val (.int 4)] [] := by first | (simp [entryFrame, mkF, argsToLocals, Value.category]; done) | rfl
theorem d4_23 : decode method_4_code 23 = .ok (.aload_n 0, 1) := by decide +kernel
theorem d4_24 : decode method_4_code 24 = .ok (.iload_n 1, 1) := by decide +kernel
theorem d4_25 : decode method_4_code 25 = .ok (.iconst 3, 1) := by decide +kernel
theorem d4_26 : decode method_4_code 26 = .ok (.isub, 1) := by decide +kernel
theorem d4_27 : decode method_4_code 27 = .ok (.iconst 4, 1) := by decide +kernel
theorem d4_28 : decode method_4_code 28 = .ok (.invokestatic 24, 3) := by decide +kernel
theorem d4_31 : decode method_4_code 31 = .ok (.ifCond .eq 5, 3) := by decide +kernel
theorem d4_34 : decode method_4_code 34 = .ok (.iconst 4, 1) := by decide +kernel
theorem d4_35 : decode method_4_code 35 = .ok (.ireturn, 1) := by decide +kernel
set_option maxRecDepth 65536 in
set_option maxHeartbeats 40000000 in
theorem rm4_4 (l : Launch) (Z : State) (a0 : Array Value) (hw : ∀ d ∈ tables_1, d.before a0 Z = true) (ws : List Jvm.Cond) (ca : Addr) (kc : ClassId) (c0 : Int32) (c1 : Int32) (c2 : Int32) (c3 : Int32) (c4 : Int32) (c5 : Int32) (h0 : Heap) (n0 : Nat) (Zle : n0 ≤ h0.size) (V_ca : Arv Z h0 ca kc .char (6 : Int32) [(.int c0), (.int c1), (.int c2), (.int c3), (.int c4), (.int c5)] (.int 0)) :
    MetFree l (⟨"com/example/emu/emu/PrefixTableOfPinLaw", "ref", "([CI)I"⟩ : MethodName) (head1 (Jvm.Cond.code (⟨"com/example/emu/emu/PrefixTableOfPinLaw", "ref", "([CI)I"⟩ : MethodName) method_4_code 2 (some .int) :: ws) ({ frames := 1, cells := 0, slots := 0, locals := 14 } : Room)) (fun a U => a = #[(.ref ca), (.int 4)] ∧ Z.Warmed39 U.vm ∧ U.heap = h0) (fun _ _ _ _ _ => True) (fun _ U o U' => ∃ v L, o = .returned v ∧ Q4_4 Z ca kc c0 c1 c2 c3 c4 c5 h0 n0 v U'.heap L ∧ FrameEnd U o U' L ({ frames := 1, cells := 0, slots := 0, locals := 14 } : Room).cells ({ frames := 1, cells := 0, slots := 0, locals := 14 } : Room).slots) := by
  refine MetFree.of_bodySF (plainFor_of_name pn_com_example_emu_emu_PrefixTableOfPinLaw) hisR ?_
  intro p e s m args below meth c s₁ Bd hml0 hP hK
  obtain ⟨rfl, hZ, hh⟩ := hP
  have hx := Bd.exec
  have hby := Bd.bytes
  have hml : c.maxLocals = 2 := hml0
  have hown : s.vm.findClass "com/example/emu/emu/PrefixTableOfPinLaw" = some m.cls := findClass_of_methodNamed Bd.named
  have hnm := (name_of_methodNamed Bd.named Bd.method).1
  have X0 : Stand p l e ({ frames := 1, cells := 0, slots := 0, locals := 14 } : Room) s m #[(.ref ca), (.int 4)] below meth c s₁ [] 0 0 := Stand.of_body Bd
  have e0 : s₁.heap = h0 := by rw [← hh, Bd.state]; rfl
  have N_ := Fr.nil n0
  show own_Goes p.tables e below s (Q4_4 Z ca kc c0 c1 c2 c3 c4 c5 h0 n0) ({ frames := 1, cells := 0, slots := 0, locals := 14 } : Room).cells ({ frames := 1, cells := 0, slots := 0, locals := 14 } : Room).slots s₁ (entryFrame m #[(.ref ca), (.int 4)] 2)
  refine own_by (T' := s₁) (g' := (mkF m 0 #[.val (.ref ca), .val (.int 4)] [])) (fun t k => castTop (ef_4_4 m ca) k) ?_
  refine own_by (T' := s₁) (g' := (mkF m 1 #[.val (.ref ca), .val (.int 4)] [(.int 4)])) (fun t k => XS.iloadN X0.here hx rfl (hb hby d4_0) rfl k) ?_
  refine own_by (T' := s₁) (g' := (mkF m 2 #[.val (.ref ca), .val (.int 4)] [(.int 5), (.int 4)])) (fun t k => XS.iconst X0.here hx rfl (hb hby d4_1) k) ?_
  refine own_by (T' := s₁) (g' := (mkF m 18 #[.val (.ref ca), .val (.int 4)] [])) (fun t k => XS.icmpYes X0.here hx rfl (pc0 := 2) (pc' := 18) rfl (hb hby d4_2) rfl (tlt (by decide)).1 (by decide) (by decide) k) ?_
  refine own_by (T' := s₁) (g' := (mkF m 19 #[.val (.ref ca), .val (.int 4)] [(.int 4)])) (fun t k => XS.iloadN X0.here hx rfl (hb hby d4_18) rfl k) ?_
  refine own_by (T' := s₁) (g' := (mkF m 20 #[.val (.ref ca), .val (.int 4)] [(.int 4), (.int 4)])) (fun t k => XS.iconst X0.here hx rfl (hb hby d4_19) k) ?_
  refine own_by (T' := s₁) (g' := (mkF m 23 #[.val (.ref ca), .val (.int 4)] [])) (fun t k => XS.icmpNo X0.here hx rfl (hb hby d4_20) rfl (flt (by decide)).1 k) ?_
  refine own_by (T' := s₁) (g' := (mkF m 24 #[.val (.ref ca), .val (.int 4)] [(.ref ca)])) (fun t k => XS.aloadN X0.here hx rfl (hb hby d4_23) rfl rfl k) ?_
  refine own_by (T' := s₁) (g' := (mkF m 25 #[.val (.ref ca), .val (.int 4)] [(.int 4), (.ref ca)])) (fun t k => XS.iloadN X0.here hx rfl (hb hby d4_24) rfl k) ?_
  refine own_by (T' := s₁) (g' := (mkF m 26 #[.val (.ref ca), .val (.int 4)] [(.int 3), (.int 4), (.ref ca)])) (fun t k => XS.iconst X0.here hx rfl (hb hby d4_25) k) ?_
  refine own_by (T' := s₁) (g' := (mkF m 27 #[.val (.ref ca), .val (.int 4)] [(.int 1), (.ref ca)])) (fun t k => XS.isub X0.here hx rfl (hb hby d4_26) rfl k) ?_
  refine own_by (T' := s₁) (g' := (mkF m 28 #[.val (.ref ca), .val (.int 4)] [(.int 4), (.int 1), (.ref ca)])) (fun t k => XS.iconst X0.here hx rfl (hb hby d4_27) k) ?_
  obtain ⟨_, _, ⟨T1, L1, k1, n1⟩, -, X1, ⟨Lc1, hQ1, l1, y1, z1⟩, st1⟩ := Jvm.LawKit.callS X0 hx (y := (⟨"com/example/emu/emu/PrefixTableOfPinLaw", "eq", "([CII)Z"⟩ : MethodName)) hown (mvT hZ (hw _ (own_m 26 rfl))) (mvT hZ (hw _ (own_m 27 rfl))) (mvT hZ (hw _ (own_m 21 rfl))) (mvT hZ (hw _ (own_m 28 rfl))) (by decide) (backOf (W := 0) (rm5_1_4 l Z a0 hw [] ca kc c0 c1 c2 c3 c4 c5 h0 n0 Zle V_ca) hZ (hw _ (own_m 28 rfl)) (hw _ (own_m 21 rfl)) (by decide) (by decide)) (g := (mkF m 28 #[.val (.ref ca), .val (.int 4)] [(.int 4), (.int 1), (.ref ca)])) rfl (by rw [hml]; rfl) (argsL := [(.ref ca), (.int 1), (.int 4)]) (rest := []) (lenOf pd_4 rfl) rfl (own_le rfl) (hb hby d4_28) (fun _ _ => ⟨rfl, e0, (by decide : 0 + 0 ≤ _), (by decide : 0 + 0 ≤ _)⟩)
  dsimp only [Pt.U, Pt.locs, Pt.cells, Pt.slots] at X1 l1 y1 z1 st1 hQ1
  subst l1 y1 z1
  obtain ⟨rfl, Nq1, e1⟩ := hQ1
  replace N_ := Fr.app N_ Nq1
  clear Nq1
  refine own_by (T' := T1) (g' := (mkF m 31 #[.val (.ref ca), .val (.int 4)] [(.int (own_eq1_4 c0 c1 c2 c3 c4 c5))])) (fun t k => st1 _ k) ?_
  clear st1 X0 e0
  by_cases hc31_2 : (own_eq1_4 c0 c1 c2 c3 c4 c5) = (0 : Int32)
  · refine own_by (T' := T1) (g' := (mkF m 36 #[.val (.ref ca), .val (.int 4)] [])) (fun t k => XS.ifYes X1.here hx rfl (pc0 := 31) (pc' := 36) rfl (hb hby d4_31) rfl ((if0 _ _).trans (teq hc31_2).1) (by decide) (by decide) k) ?_
    refine own_by (T' := T1) (g' := (mkF m 37 #[.val (.ref ca), .val (.int 4)] [(.int 4)])) (fun t k => XS.iloadN X1.here hx rfl (hb hby d4_36) rfl k) ?_
    refine own_by (T' := T1) (g' := (mkF m 38 #[.val (.ref ca), .val (.int 4)] [(.int 3), (.int 4)])) (fun t k => XS.iconst X1.here hx rfl (hb hby d4_37) k) ?_
    refine own_by (T' := T1) (g' := (mkF m 41 #[.val (.ref ca), .val (.int 4)] [])) (fun t k => XS.icmpNo X1.here hx rfl (hb hby d4_38) rfl (flt (by decide)).1 k) ?_
    refine own_by (T' := T1) (g' := (mkF m 42 #[.val (.ref ca), .val (.int 4)] [(.ref ca)])) (fun t k => XS.aloadN X1.here hx rfl (hb hby d4_41) rfl rfl k) ?_
    refine own_by (T' := T1) (g' := (mkF m 43 #[.val (.ref ca), .val (.int 4)] [(.int 4), (.ref ca)])) (fun t k => XS.iloadN X1.here hx rfl (hb hby d4_42) rfl k) ?_
    refine own_by (T' := T1) (g' := (mkF m 44 #[.val (.ref ca), .val (.int 4)] [(.int 2), (.int 4), (.ref ca)])) (fun t k => XS.iconst X1.here hx rfl (hb hby d4_43) k) ?_
    refine own_by (T' := T1) (g' := (mkF m 45 #[.val (.ref ca), .val (.int 4)] [(.int 2), (.ref ca)])) (fun t k => XS.isub X1.here hx rfl (hb hby d4_44) rfl k) ?_
    refine own_by (T' := T1) (g' := (mkF m 46 #[.val (.ref ca), .val (.int 4)] [(.int 3), (.int 2), (.ref ca)])) (fun t k => XS.iconst X1.here hx rfl (hb hby d4_45) k) ?_
    obtain ⟨_, _, ⟨T3, L3, k3, n3⟩, -, X3, ⟨Lc3, hQ3, l3, y3, z3⟩, st3⟩ := Jvm.LawKit.callS X1 hx (y := (⟨"com/example/emu/emu/PrefixTableOfPinLaw", "eq", "([CII)Z"⟩ : MethodName)) hown (mvT hZ (hw _ (own_m 26 rfl))) (mvT hZ (hw _ (own_m 27 rfl))) (mvT hZ (hw _ (own_m 21 rfl))) (mvT hZ (hw _ (own_m 28 rfl))) (by decide) (backOf (W := 0) (rm5_2_3 l Z a0 hw [] ca kc c0 c1 c2 c3 c4 c5 h0 n0 Zle V_ca) hZ (hw _ (own_m 28 rfl)) (hw _ (own_m 21 rfl)) (by decide) (by decide)) (g := (mkF m 46 #[.val (.ref ca), .val (.int 4)] [(.int 3), (.int 2), (.ref ca)])) rfl (by rw [hml]; rfl) (argsL := [(.ref ca), (.int 2), (.int 3)]) (rest := []) (lenOf pd_4 rfl) rfl (own_le rfl) (hb hby d4_46) (fun _ _ => ⟨rfl, e1, (by decide : 0 + 0 ≤ _), (by decide : 0 + 0 ≤ _)⟩)
    dsimp only [Pt.U, Pt.locs, Pt.cells, Pt.slots] at X3 l3 y3 z3 st3 hQ3
    subst l3 y3 z3
    obtain ⟨rfl, Nq3, e3⟩ := hQ3
    replace N_ := Fr.app N_ Nq3
    clear Nq3
    refine own_by (T' := T3) (g' := (mkF m 49 #[.val (.ref ca), .val (.int 4)] [(.int (own_eq2_3 c0 c1 c2 c3 c4 c5))])) (fun t k => st3 _ k) ?_
    clear st3 X1 e1
    by_cases hc49_4 : (own_eq2_3 c0 c1 c2 c3 c4 c5) = (0 : Int32)
    · refine own_by (T' := T3) (g' := (mkF m 54 #[.val (.ref ca), .val (.int 4)] [])) (fun t k => XS.ifYes X3.here hx rfl (pc0 := 49) (pc' := 54) rfl (hb hby d4_49) rfl ((if0 _ _).trans (teq hc49_4).1) (by decide) (by decide) k) ?_
      refine own_by (T' := T3) (g' := (mkF m 55 #[.val (.ref ca), .val (.int 4)] [(.int 4)])) (fun t k => XS.iloadN X3.here hx rfl (hb hby d4_54) rfl k) ?_
      refine own_by (T' := T3) (g' := (mkF m 56 #[.val (.ref ca), .val (.int 4)] [(.int 2), (.int 4)])) (fun t k => XS.iconst X3.here hx rfl (hb hby d4_55) k) ?_
      refine own_by (T' := T3) (g' := (mkF m 59 #[.val (.ref ca), .val (.int 4)] [])) (fun t k => XS.icmpNo X3.here hx rfl (hb hby d4_56) rfl (flt (by decide)).1 k) ?_
      refine own_by (T' := T3) (g' := (mkF m 60 #[.val (.ref ca), .val (.int 4)] [(.ref ca)])) (fun t k => XS.aloadN X3.here hx rfl (hb hby d4_59) rfl rfl k) ?_
      refine own_by (T' := T3) (g' := (mkF m 61 #[.val (.ref ca), .val (.int 4)] [(.int 4), (.ref ca)])) (fun t k => XS.iloadN X3.here hx rfl (hb hby d4_60) rfl k) ?_
      refine own_by (T' := T3) (g' := (mkF m 62 #[.val (.ref ca), .val (.int 4)] [(.int 1), (.int 4), (.ref ca)])) (fun t k => XS.iconst X3.here hx rfl (hb hby d4_61) k) ?_
      refine own_by (T' := T3) (g' := (mkF m 63 #[.val (.ref ca), .val (.int 4)] [(.int 3), (.ref ca)])) (fun t k => XS.isub X3.here hx rfl (hb hby d4_62) rfl k) ?_
      refine own_by (T' := T3) (g' := (mkF m 64 #[.val (.ref ca), .val (.int 4)] [(.int 2), (.int 3), (.ref ca)])) (fun t k => XS.iconst X3.here hx rfl (hb hby d4_63) k) ?_
      obtain ⟨_, _, ⟨T5, L5, k5, n5⟩, -, X5, ⟨Lc5, hQ5, l5, y5, z5⟩, st5⟩ := Jvm.LawKit.callS X3 hx (y := (⟨"com/example/emu/emu/PrefixTableOfPinLaw", "eq", "([CII)Z"⟩ : MethodName)) hown (mvT hZ (hw _ (own_m 26 rfl))) (mvT hZ (hw _ (own_m 27 rfl))) (mvT hZ (hw _ (own_m 21 rfl))) (mvT hZ (hw _ (own_m 28 rfl))) (by decide) (backOf (W := 0) (rm5_3_2 l Z a0 hw [] ca kc c0 c1 c2 c3 c4 c5 h0 n0 Zle V_ca) hZ (hw _ (own_m 28 rfl)) (hw _ (own_m 21 rfl)) (by decide) (by decide)) (g := (mkF m 64 #[.val (.ref ca), .val (.int 4)] [(.int 2), (.int 3), (.ref ca)])) rfl (by rw [hml]; rfl) (argsL := [(.ref ca), (.int 3), (.int 2)]) (rest := []) (lenOf pd_4 rfl) rfl (own_le rfl) (hb hby d4_64) (fun _ _ => ⟨rfl, e3, (by decide : 0 + 0 ≤ _), (by decide : 0 + 0 ≤ _)⟩)
      dsimp only [Pt.U, Pt.locs, Pt.cells, Pt.slots] at X5 l5 y5 z5 st5 hQ5
      subst l5 y5 z5
      obtain ⟨rfl, Nq5, e5⟩ := hQ5
      replace N_ := Fr.app N_ Nq5
      clear Nq5
      refine own_by (T' := T5) (g' := (mkF m 67 #[.val (.ref ca), .val (.int 4)] [(.int (own_eq3_2 c0 c1 c2 c3 c4 c5))])) (fun t k => st5 _ k) ?_
      clear st5 X3 e3
      by_cases hc67_6 : (own_eq3_2 c0 c1 c2 c3 c4 c5) = (0 : Int32)
      · refine own_by (T' := T5) (g' := (mkF m 72 #[.val (.ref ca), .val (.int 4)] [])) (fun t k => XS.ifYes X5.here hx rfl (pc0 := 67) (pc' := 72) rfl (hb hby d4_67) rfl ((if0 _ _).trans (teq hc67_6).1) (by decide) (by decide) k) ?_
        refine own_by (T' := T5) (g' := (mkF m 73 #[.val (.ref ca), .val (.int 4)] [(.int 4)])) (fun t k => XS.iloadN X5.here hx rfl (hb hby d4_72) rfl k) ?_
        refine own_by (T' := T5) (g' := (mkF m 74 #[.val (.ref ca), .val (.int 4)] [(.int 1), (.int 4)])) (fun t k => XS.iconst X5.here hx rfl (hb hby d4_73) k) ?_
        refine own_by (T' := T5) (g' := (mkF m 77 #[.val (.ref ca), .val (.int 4)] [])) (fun t k => XS.icmpNo X5.here hx rfl (hb hby d4_74) rfl (flt (by decide)).1 k) ?_
        refine own_by (T' := T5) (g' := (mkF m 78 #[.val (.ref ca), .val (.int 4)] [(.ref ca)])) (fun t k => XS.aloadN X5.here hx rfl (hb hby d4_77) rfl rfl k) ?_
        refine own_by (T' := T5) (g' := (mkF m 79 #[.val (.ref ca), .val (.int 4)] [(.int 4), (.ref ca)])) (fun t k => XS.iloadN X5.here hx rfl (hb hby d4_78) rfl k) ?_
        refine own_by (T' := T5) (g' := (mkF m 80 #[.val (.ref ca), .val (.int 4)] [(.int 1), (.int 4), (.ref ca)])) (fun t k => XS.iconst X5.here hx rfl (hb hby d4_79) k) ?_
        obtain ⟨_, _, ⟨T7, L7, k7, n7⟩, -, X7, ⟨Lc7, hQ7, l7, y7, z7⟩, st7⟩ := Jvm.LawKit.callS X5 hx (y := (⟨"com/example/emu/emu/PrefixTableOfPinLaw", "eq", "([CII)Z"⟩ : MethodName)) hown (mvT hZ (hw _ (own_m 26 rfl))) (mvT hZ (hw _ (own_m 27 rfl))) (mvT hZ (hw _ (own_m 21 rfl))) (mvT hZ (hw _ (own_m 28 rfl))) (by decide) (backOf (W := 0) (rm5_4_1 l Z a0 hw [] ca kc c0 c1 c2 c3 c4 c5 h0 n0 Zle V_ca) hZ (hw _ (own_m 28 rfl)) (hw _ (own_m 21 rfl)) (by decide) (by decide)) (g := (mkF m 80 #[.val (.ref ca), .val (.int 4)] [(.int 1), (.int 4), (.ref ca)])) rfl (by rw [hml]; rfl) (argsL := [(.ref ca), (.int 4), (.int 1)]) (rest := []) (lenOf pd_4 rfl) rfl (own_le rfl) (hb hby d4_80) (fun _ _ => ⟨rfl, e5, (by decide : 0 + 0 ≤ _), (by decide : 0 + 0 ≤ _)⟩)
        dsimp only [Pt.U, Pt.locs, Pt.cells, Pt.slots] at X7 l7 y7 z7 st7 hQ7
        subst l7 y7 z7
        obtain ⟨rfl, Nq7, e7⟩ := hQ7
        replace N_ := Fr.app N_ Nq7
        clear Nq7
        refine own_by (T' := T7) (g' := (mkF m 83 #[.val (.ref ca), .val (.int 4)] [(.int (own_eq4_1 c0 c1 c2 c3 c4 c5))])) (fun t k => st7 _ k) ?_
        clear st7 X5 e5
        by_cases hc83_8 : (own_eq4_1 c0 c1 c2 c3 c4 c5) = (0 : Int32)
        · refine own_by (T' := T7) (g' := (mkF m 88 #[.val (.ref ca), .val (.int 4)] [])) (fun t k => XS.ifYes X7.here hx rfl (pc0 := 83) (pc' := 88) rfl (hb hby d4_83) rfl ((if0 _ _).trans (teq hc83_8).1) (by decide) (by decide) k) ?_
          refine own_by (T' := T7) (g' := (mkF m 89 #[.val (.ref ca), .val (.int 4)] [(.int 0)])) (fun t k => XS.iconst X7.here hx rfl (hb hby d4_88) k) ?_
          exact own_retI X7 hx Bd.notSynchronized Bd.returns (hb hby d4_89) (by decide) (by decide) (by rw [e7]; exact ⟨by unfold own_ref4; rw [if_pos hc31_2, if_pos hc49_4, if_pos hc67_6, if_pos hc83_8] <;> rfl, N_, rfl⟩)
        · refine own_by (T' := T7) (g' := (mkF m 86 #[.val (.ref ca), .val (.int 4)] [])) (fun t k => XS.ifNo X7.here hx rfl (hb hby d4_83) rfl ((if0 _ _).trans (feq hc83_8).1) k) ?_
          refine own_by (T' := T7) (g' := (mkF m 87 #[.val (.ref ca), .val (.int 4)] [(.int 1)])) (fun t k => XS.iconst X7.here hx rfl (hb hby d4_86) k) ?_
          exact own_retI X7 hx Bd.notSynchronized Bd.returns (hb hby d4_87) (by decide) (by decide) (by rw [e7]; exact ⟨by unfold own_ref4; rw [if_pos hc31_2, if_pos hc49_4, if_pos hc67_6, if_neg hc83_8] <;> rfl, N_, rfl⟩)
      · refine own_by (T' := T5) (g' := (mkF m 70 #[.val (.ref ca), .val (.int 4)] [])) (fun t k => XS.ifNo X5.here hx rfl (hb hby d4_67) rfl ((if0 _ _).trans (feq hc67_6).1) k) ?_
        refine own_by (T' := T5) (g' := (mkF m 71 #[.val (.ref ca), .val (.int 4)] [(.int 2)])) (fun t k => XS.iconst X5.here hx rfl (hb hby d4_70) k) ?_
        exact own_retI X5 hx Bd.notSynchronized Bd.returns (hb hby d4_71) (by decide) (by decide) (by rw [e5]; exact ⟨by unfold own_ref4; rw [if_pos hc31_2, if_pos hc49_4, if_neg hc67_6] <;> rfl, N_, rfl⟩)
    · refine own_by (T' := T3) (g' := (mkF m 52 #[.val (.ref ca), .val (.int 4)] [])) (fun t k => XS.ifNo X3.here hx rfl (hb hby d4_49) rfl ((if0 _ _).trans (feq hc49_4).1) k) ?_
      refine own_by (T' := T3) (g' := (mkF m 53 #[.val (.ref ca), .val (.int 4)] [(.int 3)])) (fun t k => XS.iconst X3.here hx rfl (hb hby d4_52) k) ?_
      exact own_retI X3 hx Bd.notSynchronized Bd.returns (hb hby d4_53) (by decide) (by decide) (by rw [e3]; exact ⟨by unfold own_ref4; rw [if_pos hc31_2, if_neg hc49_4] <;> rfl, N_, rfl⟩)
  · refine own_by (T' := T1) (g' := (mkF m 34 #[.val (.ref ca), .val (.int 4)] [])) (fun t k => XS.ifNo X1.here hx rfl (hb hby d4_31) rfl ((if0 _ _).trans (feq hc31_2).1) k) ?_
    refine own_by (T' := T1) (g' := (mkF m 35 #[.val (.ref ca), .val (.int 4)] [(.int 4)])) (fun t k => XS.iconst X1.here hx rfl (hb hby d4_34) k) ?_
    exact own_retI X1 hx Bd.notSynchronized Bd.returns (hb hby d4_35) (by decide) (by decide) (by rw [e1]; exact ⟨by unfold own_ref4; rw [if_neg hc31_2] <;> rfl, N_, rfl⟩)

def Q4_5 (Z : State) (ca : Addr) (kc : ClassId) (c0 : Int32) (c1 : Int32) (c2 : Int32) (c3 : Int32) (c4 : Int32) (c5 : Int32) (h0 : Heap) (n0 : Nat) (v : Option Value) (h : Heap) (L : List Loc) : Prop := v = some (.int (own_ref5 c0 c1 c2 c3 c4 c5)) ∧ Fr n0 L ∧ h = h0
theorem ef_4_5 (m : MethodId) (ca : Addr) : entryFrame m #[(.ref ca), (.int 5)] 2 = mkF m 0 #[.val (.ref ca), .val (.int 5)] [] := by first | (simp [entryFrame, mkF, argsToLocals, Value.category]; done) | rfl
theorem d4_5 : decode method_4_code 5 = .ok (.aload_n 0, 1) := by decide +kernel
theorem d4_6 : decode method_4_code 6 = .ok (.iload_n 1, 1) := by decide +kernel
theorem d4_7 : decode method_4_code 7 = .ok (.iconst 4, 1) := by decide +kernel
theorem d4_8 : decode method_4_code 8 = .ok (.isub, 1) := by decide +kernel
theorem d4_9 : decode method_4_code 9 = .ok (.iconst 5, 1) := by decide +kernel
theorem d4_10 : decode method_4_code 10 = .ok (.invokestatic 24, 3) := by decide +kernel
theorem d4_13 : decode method_4_code 13 = .ok (.ifCond .eq 5, 3) := by decide +kernel
theorem d4_16 : decode method_4_code 16 = .ok (.iconst 5, 1) := by decide +kernel
theorem d4_17 : decode method_4_code 17 = .ok (.ireturn, 1) := by decide +kernel
set_option maxRecDepth 65536 in
set_option maxHeartbeats 40000000 in
theorem rm4_5 (l : Launch) (Z : State) (a0 : Array Value) (hw : ∀ d ∈ tables_1, d.before a0 Z = true) (ws : List Jvm.Cond) (ca : Addr) (kc : ClassId) (c0 : Int32) (c1 : Int32) (c2 : Int32) (c3 : Int32) (c4 : Int32) (c5 : Int32) (h0 : Heap) (n0 : Nat) (Zle : n0 ≤ h0.size) (V_ca : Arv Z h0 ca kc .char (6 : Int32) [(.int c0), (.int c1), (.int c2), (.int c3), (.int c4), (.int c5)] (.int 0)) :
    MetFree l (⟨"com/example/emu/emu/PrefixTableOfPinLaw", "ref", "([CI)I"⟩ : MethodName) (head1 (Jvm.Cond.code (⟨"com/example/emu/emu/PrefixTableOfPinLaw", "ref", "([CI)I"⟩ : MethodName) method_4_code 2 (some .int) :: ws) ({ frames := 1, cells := 0, slots := 0, locals := 14 } : Room)) (fun a U => a = #[(.ref ca), (.int 5)] ∧ Z.Warmed39 U.vm ∧ U.heap = h0) (fun _ _ _ _ _ => True) (fun _ U o U' => ∃ v L, o = .returned v ∧ Q4_5 Z ca kc c0 c1 c2 c3 c4 c5 h0 n0 v U'.heap L ∧ FrameEnd U o U' L ({ frames := 1, cells := 0, slots := 0, locals := 14 } : Room).cells ({ frames := 1, cells := 0, slots := 0, locals := 14 } : Room).slots) := by
  refine MetFree.of_bodySF (plainFor_of_name pn_com_example_emu_emu_PrefixTableOfPinLaw) hisR ?_
  intro p e s m args below meth c s₁ Bd hml0 hP hK
  obtain ⟨rfl, hZ, hh⟩ := hP
  have hx := Bd.exec
  have hby := Bd.bytes
  have hml : c.maxLocals = 2 := hml0
  have hown : s.vm.findClass "com/example/emu/emu/PrefixTableOfPinLaw" = some m.cls := findClass_of_methodNamed Bd.named
  have hnm := (name_of_methodNamed Bd.named Bd.method).1
  have X0 : Stand p l e ({ frames := 1, cells := 0, slots := 0, locals := 14 } : Room) s m #[(.ref ca), (.int 5)] below meth c s₁ [] 0 0 := Stand.of_body Bd
  have e0 : s₁.heap = h0 := by rw [← hh, Bd.state]; rfl
  have N_ := Fr.nil n0
  show own_Goes p.tables e below s (Q4_5 Z ca kc c0 c1 c2 c3 c4 c5 h0 n0) ({ frames := 1, cells := 0, slots := 0, locals := 14 } : Room).cells ({ frames := 1, cells := 0, slots := 0, locals := 14 } : Room).slots s₁ (entryFrame m #[(.ref ca), (.int 5)] 2)
  refine own_by (T' := s₁) (g' := (mkF m 0 #[.val (.ref ca), .val (.int 5)] [])) (fun t k => castTop (ef_4_5 m ca) k) ?_
  refine own_by (T' := s₁) (g' := (mkF m 1 #[.val (.ref ca), .val (.int 5)] [(.int 5)])) (fun t k => XS.iloadN X0.here hx rfl (hb hby d4_0) rfl k) ?_
  refine own_by (T' := s₁) (g' := (mkF m 2 #[.val (.ref ca), .val (.int 5)] [(.int 5), (.int 5)])) (fun t k => XS.iconst X0.here hx rfl (hb hby d4_1) k) ?_
  refine own_by (T' := s₁) (g' := (mkF m 5 #[.val (.ref ca), .val (.int 5)] [])) (fun t k => XS.icmpNo X0.here hx rfl (hb hby d4_2) rfl (flt (by decide)).1 k) ?_
  refine own_by (T' := s₁) (g' := (mkF m 6 #[.val (.ref ca), .val (.int 5)] [(.ref ca)])) (fun t k => XS.aloadN X0.here hx rfl (hb hby d4_5) rfl rfl k) ?_
  refine own_by (T' := s₁) (g' := (mkF m 7 #[.val (.ref ca), .val (.int 5)] [(.int 5), (.ref ca)])) (fun t k => XS.iloadN X0.here hx rfl (hb hby d4_6) rfl k) ?_
  refine own_by (T' := s₁) (g' := (mkF m 8 #[.val (.ref ca), .val (.int 5)] [(.int 4), (.int 5), (.ref ca)])) (fun t k => XS.iconst X0.here hx rfl (hb hby d4_7) k) ?_
  refine own_by (T' := s₁) (g' := (mkF m 9 #[.val (.ref ca), .val (.int 5)] [(.int 1), (.ref ca)])) (fun t k => XS.isub X0.here hx rfl (hb hby d4_8) rfl k) ?_
  refine own_by (T' := s₁) (g' := (mkF m 10 #[.val (.ref ca), .val (.int 5)] [(.int 5), (.int 1), (.ref ca)])) (fun t k => XS.iconst X0.here hx rfl (hb hby d4_9) k) ?_
  obtain ⟨_, _, ⟨T1, L1, k1, n1⟩, -, X1, ⟨Lc1, hQ1, l1, y1, z1⟩, st1⟩ := Jvm.LawKit.callS X0 hx (y := (⟨"com/example/emu/emu/PrefixTableOfPinLaw", "eq", "([CII)Z"⟩ : MethodName)) hown (mvT hZ (hw _ (own_m 26 rfl))) (mvT hZ (hw _ (own_m 27 rfl))) (mvT hZ (hw _ (own_m 21 rfl))) (mvT hZ (hw _ (own_m 28 rfl))) (by decide) (backOf (W := 0) (rm5_1_5 l Z a0 hw [] ca kc c0 c1 c2 c3 c4 c5 h0 n0 Zle V_ca) hZ (hw _ (own_m 28 rfl)) (hw _ (own_m 21 rfl)) (by decide) (by decide)) (g := (mkF m 10 #[.val (.ref ca), .val (.int 5)] [(.int 5), (.int 1), (.ref ca)])) rfl (by rw [hml]; rfl) (argsL := [(.ref ca), (.int 1), (.int 5)]) (rest := []) (lenOf pd_4 rfl) rfl (own_le rfl) (hb hby d4_10) (fun _ _ => ⟨rfl, e0, (by decide : 0 + 0 ≤ _), (by decide : 0 + 0 ≤ _)⟩)
  dsimp only [Pt.U, Pt.locs, Pt.cells, Pt.slots] at X1 l1 y1 z1 st1 hQ1
  subst l1 y1 z1
  obtain ⟨rfl, Nq1, e1⟩ := hQ1
  replace N_ := Fr.app N_ Nq1
  clear Nq1
  refine own_by (T' := T1) (g' := (mkF m 13 #[.val (.ref ca), .val (.int 5)] [(.int (own_eq1_5 c0 c1 c2 c3 c4 c5))])) (fun t k => st1 _ k) ?_
  clear st1 X0 e0
  by_cases hc13_2 : (own_eq1_5 c0 c1 c2 c3 c4 c5) = (0 : Int32)
  · refine own_by (T' := T1) (g' := (mkF m 18 #[.val (.ref ca), .val (.int 5)] [])) (fun t k => XS.ifYes X1.here hx rfl (pc0 := 13) (pc' := 18) rfl (hb hby d4_13) rfl ((if0 _ _).trans (teq hc13_2).1) (by decide) (by decide) k) ?_
    refine own_by (T' := T1) (g' := (mkF m 19 #[.val (.ref ca), .val (.int 5)] [(.int 5)])) (fun t k => XS.iloadN X1.here hx rfl (hb hby d4_18) rfl k) ?_
    refine own_by (T' := T1) (g' := (mkF m 20 #[.val (.ref ca), .val (.int 5)] [(.int 4), (.int 5)])) (fun t k => XS.iconst X1.here hx rfl (hb hby d4_19) k) ?_
    refine own_by (T' := T1) (g' := (mkF m 23 #[.val (.ref ca), .val (.int 5)] [])) (fun t k => XS.icmpNo X1.here hx rfl (hb hby d4_20) rfl (flt (by decide)).1 k) ?_
    refine own_by (T' := T1) (g' := (mkF m 24 #[.val (.ref ca), .val (.int 5)] [(.ref ca)])) (fun t k => XS.aloadN X1.here hx rfl (hb hby d4_23) rfl rfl k) ?_
    refine own_by (T' := T1) (g' := (mkF m 25 #[.val (.ref ca), .val (.int 5)] [(.int 5), (.ref ca)])) (fun t k => XS.iloadN X1.here hx rfl (hb hby d4_24) rfl k) ?_
    refine own_by (T' := T1) (g' := (mkF m 26 #[.val (.ref ca), .val (.int 5)] [(.int 3), (.int 5), (.ref ca)])) (fun t k => XS.iconst X1.here hx rfl (hb hby d4_25) k) ?_
    refine own_by (T' := T1) (g' := (mkF m 27 #[.val (.ref ca), .val (.int 5)] [(.int 2), (.ref ca)])) (fun t k => XS.isub X1.here hx rfl (hb hby d4_26) rfl k) ?_
    refine own_by (T' := T1) (g' := (mkF m 28 #[.val (.ref ca), .val (.int 5)] [(.int 4), (.int 2), (.ref ca)])) (fun t k => XS.iconst X1.here hx rfl (hb hby d4_27) k) ?_
    obtain ⟨_, _, ⟨T3, L3, k3, n3⟩, -, X3, ⟨Lc3, hQ3, l3, y3, z3⟩, st3⟩ := Jvm.LawKit.callS X1 hx (y := (⟨"com/example/emu/emu/PrefixTableOfPinLaw", "eq", "([CII)Z"⟩ : MethodName)) hown (mvT hZ (hw _ (own_m 26 rfl))) (mvT hZ (hw _ (own_m 27 rfl))) (mvT hZ (hw _ (own_m 21 rfl))) (mvT hZ (hw _ (own_m 28 rfl))) (by decide) (backOf (W := 0) (rm5_2_4 l Z a0 hw [] ca kc c0 c1 c2 c3 c4 c5 h0 n0 Zle V_ca) hZ (hw _ (own_m 28 rfl)) (hw _ (own_m 21 rfl)) (by decide) (by decide)) (g := (mkF m 28 #[.val (.ref ca), .val (.int 5)] [(.int 4), (.int 2), (.ref ca)])) rfl (by rw [hml]; rfl) (argsL := [(.ref ca), (.int 2), (.int 4)]) (rest := []) (lenOf pd_4 rfl) rfl (own_le rfl) (hb hby d4_28) (fun _ _ => ⟨rfl, e1, (by decide : 0 + 0 ≤ _), (by decide : 0 + 0 ≤ _)⟩)
    dsimp only [Pt.U, Pt.locs, Pt.cells, Pt.slots] at X3 l3 y3 z3 st3 hQ3
    subst l3 y3 z3
    obtain ⟨rfl, Nq3, e3⟩ := hQ3
    replace N_ := Fr.app N_ Nq3
    clear Nq3
    refine own_by (T' := T3) (g' := (mkF m 31 #[.val (.ref ca), .val (.int 5)] [(.int (own_eq2_4 c0 c1 c2 c3 c4 c5))])) (fun t k => st3 _ k) ?_
    clear st3 X1 e1
    by_cases hc31_4 : (own_eq2_4 c0 c1 c2 c3 c4 c5) = (0 : Int32)
    · refine own_by (T' := T3) (g' := (mkF m 36 #[.val (.ref ca), .val (.int 5)] [])) (fun t k => XS.ifYes X3.here hx rfl (pc0 := 31) (pc' := 36) rfl (hb hby d4_31) rfl ((if0 _ _).trans (teq hc31_4).1) (by decide) (by decide) k) ?_
      refine own_by (T' := T3) (g' := (mkF m 37 #[.val (.ref ca), .val (.int 5)] [(.int 5)])) (fun t k => XS.iloadN X3.here hx rfl (hb hby d4_36) rfl k) ?_
      refine own_by (T' := T3) (g' := (mkF m 38 #[.val (.ref ca), .val (.int 5)] [(.int 3), (.int 5)])) (fun t k => XS.iconst X3.here hx rfl (hb hby d4_37) k) ?_
      refine own_by (T' := T3) (g' := (mkF m 41 #[.val (.ref ca), .val (.int 5)] [])) (fun t k => XS.icmpNo X3.here hx rfl (hb hby d4_38) rfl (flt (by decide)).1 k) ?_
      refine own_by (T' := T3) (g' := (mkF m 42 #[.val (.ref ca), .val (.int 5)] [(.ref ca)])) (fun t k => XS.aloadN X3.here hx rfl (hb hby d4_41) rfl rfl k) ?_
      refine own_by (T' := T3) (g' := (mkF m 43 #[.val (.ref ca), .val (.int 5)] [(.int 5), (.ref ca)])) (fun t k => XS.iloadN X3.here hx rfl (hb hby d4_42) rfl k) ?_
      refine own_by (T' := T3) (g' := (mkF m 44 #[.val (.ref ca), .val (.int 5)] [(.int 2), (.int 5), (.ref ca)])) (fun t k => XS.iconst X3.here hx rfl (hb hby d4_43) k) ?_
      refine own_by (T' := T3) (g' := (mkF m 45 #[.val (.ref ca), .val (.int 5)] [(.int 3), (.ref ca)])) (fun t k => XS.isub X3.here hx rfl (hb hby d4_44) rfl k) ?_
      refine own_by (T' := T3) (g' := (mkF m 46 #[.val (.ref ca), .val (.int 5)] [(.int 3), (.int 3), (.ref ca)])) (fun t k => XS.iconst X3.here hx rfl (hb hby d4_45) k) ?_
      obtain ⟨_, _, ⟨T5, L5, k5, n5⟩, -, X5, ⟨Lc5, hQ5, l5, y5, z5⟩, st5⟩ := Jvm.LawKit.callS X3 hx (y := (⟨"com/example/emu/emu/PrefixTableOfPinLaw", "eq", "([CII)Z"⟩ : MethodName)) hown (mvT hZ (hw _ (own_m 26 rfl))) (mvT hZ (hw _ (own_m 27 rfl))) (mvT hZ (hw _ (own_m 21 rfl))) (mvT hZ (hw _ (own_m 28 rfl))) (by decide) (backOf (W := 0) (rm5_3_3 l Z a0 hw [] ca kc c0 c1 c2 c3 c4 c5 h0 n0 Zle V_ca) hZ (hw _ (own_m 28 rfl)) (hw _ (own_m 21 rfl)) (by decide) (by decide)) (g := (mkF m 46 #[.val (.ref ca), .val (.int 5)] [(.int 3), (.int 3), (.ref ca)])) rfl (by rw [hml]; rfl) (argsL := [(.ref ca), (.int 3), (.int 3)]) (rest := []) (lenOf pd_4 rfl) rfl (own_le rfl) (hb hby d4_46) (fun _ _ => ⟨rfl, e3, (by decide : 0 + 0 ≤ _), (by decide : 0 + 0 ≤ _)⟩)
      dsimp only [Pt.U, Pt.locs, Pt.cells, Pt.slots] at X5 l5 y5 z5 st5 hQ5
      subst l5 y5 z5
      obtain ⟨rfl, Nq5, e5⟩ := hQ5
      replace N_ := Fr.app N_ Nq5
      clear Nq5
      refine own_by (T' := T5) (g' := (mkF m 49 #[.val (.ref ca), .val (.int 5)] [(.int (own_eq3_3 c0 c1 c2 c3 c4 c5))])) (fun t k => st5 _ k) ?_
      clear st5 X3 e3
      by_cases hc49_6 : (own_eq3_3 c0 c1 c2 c3 c4 c5) = (0 : Int32)
      · refine own_by (T' := T5) (g' := (mkF m 54 #[.val (.ref ca), .val (.int 5)] [])) (fun t k => XS.ifYes X5.here hx rfl (pc0 := 49) (pc' := 54) rfl (hb hby d4_49) rfl ((if0 _ _).trans (teq hc49_6).1) (by decide) (by decide) k) ?_
        refine own_by (T' := T5) (g' := (mkF m 55 #[.val (.ref ca), .val (.int 5)] [(.int 5)])) (fun t k => XS.iloadN X5.here hx rfl (hb hby d4_54) rfl k) ?_
        refine own_by (T' := T5) (g' := (mkF m 56 #[.val (.ref ca), .val (.int 5)] [(.int 2), (.int 5)])) (fun t k => XS.iconst X5.here hx rfl (hb hby d4_55) k) ?_
        refine own_by (T' := T5) (g' := (mkF m 59 #[.val (.ref ca), .val (.int 5)] [])) (fun t k => XS.icmpNo X5.here hx rfl (hb hby d4_56) rfl (flt (by decide)).1 k) ?_
        refine own_by (T' := T5) (g' := (mkF m 60 #[.val (.ref ca), .val (.int 5)] [(.ref ca)])) (fun t k => XS.aloadN X5.here hx rfl (hb hby d4_59) rfl rfl k) ?_
        refine own_by (T' := T5) (g' := (mkF m 61 #[.val (.ref ca), .val (.int 5)] [(.int 5), (.ref ca)])) (fun t k => XS.iloadN X5.here hx rfl (hb hby d4_60) rfl k) ?_
        refine own_by (T' := T5) (g' := (mkF m 62 #[.val (.ref ca), .val (.int 5)] [(.int 1), (.int 5), (.ref ca)])) (fun t k => XS.iconst X5.here hx rfl (hb hby d4_61) k) ?_
        refine own_by (T' := T5) (g' := (mkF m 63 #[.val (.ref ca), .val (.int 5)] [(.int 4), (.ref ca)])) (fun t k => XS.isub X5.here hx rfl (hb hby d4_62) rfl k) ?_
        refine own_by (T' := T5) (g' := (mkF m 64 #[.val (.ref ca), .val (.int 5)] [(.int 2), (.int 4), (.ref ca)])) (fun t k => XS.iconst X5.here hx rfl (hb hby d4_63) k) ?_
        obtain ⟨_, _, ⟨T7, L7, k7, n7⟩, -, X7, ⟨Lc7, hQ7, l7, y7, z7⟩, st7⟩ := Jvm.LawKit.callS X5 hx (y := (⟨"com/example/emu/emu/PrefixTableOfPinLaw", "eq", "([CII)Z"⟩ : MethodName)) hown (mvT hZ (hw _ (own_m 26 rfl))) (mvT hZ (hw _ (own_m 27 rfl))) (mvT hZ (hw _ (own_m 21 rfl))) (mvT hZ (hw _ (own_m 28 rfl))) (by decide) (backOf (W := 0) (rm5_4_2 l Z a0 hw [] ca kc c0 c1 c2 c3 c4 c5 h0 n0 Zle V_ca) hZ (hw _ (own_m 28 rfl)) (hw _ (own_m 21 rfl)) (by decide) (by decide)) (g := (mkF m 64 #[.val (.ref ca), .val (.int 5)] [(.int 2), (.int 4), (.ref ca)])) rfl (by rw [hml]; rfl) (argsL := [(.ref ca), (.int 4), (.int 2)]) (rest := []) (lenOf pd_4 rfl) rfl (own_le rfl) (hb hby d4_64) (fun _ _ => ⟨rfl, e5, (by decide : 0 + 0 ≤ _), (by decide : 0 + 0 ≤ _)⟩)
        dsimp only [Pt.U, Pt.locs, Pt.cells, Pt.slots] at X7 l7 y7 z7 st7 hQ7
        subst l7 y7 z7
        obtain ⟨rfl, Nq7, e7⟩ := hQ7
        replace N_ := Fr.app N_ Nq7
        clear Nq7
        refine own_by (T' := T7) (g' := (mkF m 67 #[.val (.ref ca), .val (.int 5)] [(.int (own_eq4_2 c0 c1 c2 c3 c4 c5))])) (fun t k => st7 _ k) ?_
        clear st7 X5 e5
        by_cases hc67_8 : (own_eq4_2 c0 c1 c2 c3 c4 c5) = (0 : Int32)
        · refine own_by (T' := T7) (g' := (mkF m 72 #[.val (.ref ca), .val (.int 5)] [])) (fun t k => XS.ifYes X7.here hx rfl (pc0 := 67) (pc' := 72) rfl (hb hby d4_67) rfl ((if0 _ _).trans (teq hc67_8).1) (by decide) (by decide) k) ?_
          refine own_by (T' := T7) (g' := (mkF m 73 #[.val (.ref ca), .val (.int 5)] [(.int 5)])) (fun t k => XS.iloadN X7.here hx rfl (hb hby d4_72) rfl k) ?_
          refine own_by (T' := T7) (g' := (mkF m 74 #[.val (.ref ca), .val (.int 5)] [(.int 1), (.int 5)])) (fun t k => XS.iconst X7.here hx rfl (hb hby d4_73) k) ?_
          refine own_by (T' := T7) (g' := (mkF m 77 #[.val (.ref ca), .val (.int 5)] [])) (fun t k => XS.icmpNo X7.here hx rfl (hb hby d4_74) rfl (flt (by decide)).1 k) ?_
          refine own_by (T' := T7) (g' := (mkF m 78 #[.val (.ref ca), .val (.int 5)] [(.ref ca)])) (fun t k => XS.aloadN X7.here hx rfl (hb hby d4_77) rfl rfl k) ?_
          refine own_by (T' := T7) (g' := (mkF m 79 #[.val (.ref ca), .val (.int 5)] [(.int 5), (.ref ca)])) (fun t k => XS.iloadN X7.here hx rfl (hb hby d4_78) rfl k) ?_
          refine own_by (T' := T7) (g' := (mkF m 80 #[.val (.ref ca), .val (.int 5)] [(.int 1), (.int 5), (.ref ca)])) (fun t k => XS.iconst X7.here hx rfl (hb hby d4_79) k) ?_
          obtain ⟨_, _, ⟨T9, L9, k9, n9⟩, -, X9, ⟨Lc9, hQ9, l9, y9, z9⟩, st9⟩ := Jvm.LawKit.callS X7 hx (y := (⟨"com/example/emu/emu/PrefixTableOfPinLaw", "eq", "([CII)Z"⟩ : MethodName)) hown (mvT hZ (hw _ (own_m 26 rfl))) (mvT hZ (hw _ (own_m 27 rfl))) (mvT hZ (hw _ (own_m 21 rfl))) (mvT hZ (hw _ (own_m 28 rfl))) (by decide) (backOf (W := 0) (rm5_5_1 l Z a0 hw [] ca kc c0 c1 c2 c3 c4 c5 h0 n0 Zle V_ca) hZ (hw _ (own_m 28 rfl)) (hw _ (own_m 21 rfl)) (by decide) (by decide)) (g := (mkF m 80 #[.val (.ref ca), .val (.int 5)] [(.int 1), (.int 5), (.ref ca)])) rfl (by rw [hml]; rfl) (argsL := [(.ref ca), (.int 5), (.int 1)]) (rest := []) (lenOf pd_4 rfl) rfl (own_le rfl) (hb hby d4_80) (fun _ _ => ⟨rfl, e7, (by decide : 0 + 0 ≤ _), (by decide : 0 + 0 ≤ _)⟩)
          dsimp only [Pt.U, Pt.locs, Pt.cells, Pt.slots] at X9 l9 y9 z9 st9 hQ9
          subst l9 y9 z9
          obtain ⟨rfl, Nq9, e9⟩ := hQ9
          replace N_ := Fr.app N_ Nq9
          clear Nq9
          refine own_by (T' := T9) (g' := (mkF m 83 #[.val (.ref ca), .val (.int 5)] [(.int (own_eq5_1 c0 c1 c2 c3 c4 c5))])) (fun t k => st9 _ k) ?_
          clear st9 X7 e7
          by_cases hc83_10 : (own_eq5_1 c0 c1 c2 c3 c4 c5) = (0 : Int32)
          · refine own_by (T' := T9) (g' := (mkF m 88 #[.val (.ref ca), .val (.int 5)] [])) (fun t k => XS.ifYes X9.here hx rfl (pc0 := 83) (pc' := 88) rfl (hb hby d4_83) rfl ((if0 _ _).trans (teq hc83_10).1) (by decide) (by decide) k) ?_
            refine own_by (T' := T9) (g' := (mkF m 89 #[.val (.ref ca), .val (.int 5)] [(.int 0)])) (fun t k => XS.iconst X9.here hx rfl (hb hby d4_88) k) ?_
            exact own_retI X9 hx Bd.notSynchronized Bd.returns (hb hby d4_89) (by decide) (by decide) (by rw [e9]; exact ⟨by unfold own_ref5; rw [if_pos hc13_2, if_pos hc31_4, if_pos hc49_6, if_pos hc67_8, if_pos hc83_10] <;> rfl, N_, rfl⟩)
          · refine own_by (T' := T9) (g' := (mkF m 86 #[.val (.ref ca), .val (.int 5)] [])) (fun t k => XS.ifNo X9.here hx rfl (hb hby d4_83) rfl ((if0 _ _).trans (feq hc83_10).1) k) ?_
            refine own_by (T' := T9) (g' := (mkF m 87 #[.val (.ref ca), .val (.int 5)] [(.int 1)])) (fun t k => XS.iconst X9.here hx rfl (hb hby d4_86) k) ?_
            exact own_retI X9 hx Bd.notSynchronized Bd.returns (hb hby d4_87) (by decide) (by decide) (by rw [e9]; exact ⟨by unfold own_ref5; rw [if_pos hc13_2, if_pos hc31_4, if_pos hc49_6, if_pos hc67_8, if_neg hc83_10] <;> rfl, N_, rfl⟩)
        · refine own_by (T' := T7) (g' := (mkF m 70 #[.val (.ref ca), .val (.int 5)] [])) (fun t k => XS.ifNo X7.here hx rfl (hb hby d4_67) rfl ((if0 _ _).trans (feq hc67_8).1) k) ?_
          refine own_by (T' := T7) (g' := (mkF m 71 #[.val (.ref ca), .val (.int 5)] [(.int 2)])) (fun t k => XS.iconst X7.here hx rfl (hb hby d4_70) k) ?_
          exact own_retI X7 hx Bd.notSynchronized Bd.returns (hb hby d4_71) (by decide) (by decide) (by rw [e7]; exact ⟨by unfold own_ref5; rw [if_pos hc13_2, if_pos hc31_4, if_pos hc49_6, if_neg hc67_8] <;> rfl, N_, rfl⟩)
      · refine own_by (T' := T5) (g' := (mkF m 52 #[.val (.ref ca), .val (.int 5)] [])) (fun t k => XS.ifNo X5.here hx rfl (hb hby d4_49) rfl ((if0 _ _).trans (feq hc49_6).1) k) ?_
        refine own_by (T' := T5) (g' := (mkF m 53 #[.val (.ref ca), .val (.int 5)] [(.int 3)])) (fun t k => XS.iconst X5.here hx rfl (hb hby d4_52) k) ?_
        exact own_retI X5 hx Bd.notSynchronized Bd.returns (hb hby d4_53) (by decide) (by decide) (by rw [e5]; exact ⟨by unfold own_ref5; rw [if_pos hc13_2, if_pos hc31_4, if_neg hc49_6] <;> rfl, N_, rfl⟩)
    · refine own_by (T' := T3) (g' := (mkF m 34 #[.val (.ref ca), .val (.int 5)] [])) (fun t k => XS.ifNo X3.here hx rfl (hb hby d4_31) rfl ((if0 _ _).trans (feq hc31_4).1) k) ?_
      refine own_by (T' := T3) (g' := (mkF m 35 #[.val (.ref ca), .val (.int 5)] [(.int 4)])) (fun t k => XS.iconst X3.here hx rfl (hb hby d4_34) k) ?_
      exact own_retI X3 hx Bd.notSynchronized Bd.returns (hb hby d4_35) (by decide) (by decide) (by rw [e3]; exact ⟨by unfold own_ref5; rw [if_pos hc13_2, if_neg hc31_4] <;> rfl, N_, rfl⟩)
  · refine own_by (T' := T1) (g' := (mkF m 16 #[.val (.ref ca), .val (.int 5)] [])) (fun t k => XS.ifNo X1.here hx rfl (hb hby d4_13) rfl ((if0 _ _).trans (feq hc13_2).1) k) ?_
    refine own_by (T' := T1) (g' := (mkF m 17 #[.val (.ref ca), .val (.int 5)] [(.int 5)])) (fun t k => XS.iconst X1.here hx rfl (hb hby d4_16) k) ?_
    exact own_retI X1 hx Bd.notSynchronized Bd.returns (hb hby d4_17) (by decide) (by decide) (by rw [e1]; exact ⟨by unfold own_ref5; rw [if_neg hc13_2] <;> rfl, N_, rfl⟩)

def Q3_0 (Z : State) (tb : Addr) (ca : Addr) (nn : Int32) (kc : ClassId) (c0 : Int32) (c1 : Int32) (c2 : Int32) (c3 : Int32) (c4 : Int32) (c5 : Int32) (kb : ClassId) (t1 : Int32) (t2 : Int32) (t3 : Int32) (t4 : Int32) (t5 : Int32) (h0 : Heap) (n0 : Nat) (v : Option Value) (h : Heap) (L : List Loc) : Prop := v = some (.int 1) ∧ Fr n0 L ∧ h = h0
theorem ef_3_0 (m : MethodId) (tb : Addr) (ca : Addr) (nn : Int32) : entryFrame m #[(.ref tb), (.ref ca), (.int 0), (.int nn)] 4 = mkF m 0 #[.val (.ref tb), .val (.ref ca), .val (.int 0), .val (.int nn)] [] := by first | (simp [entryFrame, mkF, argsToLocals, Value.category]; done) | rfl
theorem d3_0 : decode method_3_code 0 = .ok (.iload_n 2, 1) := by decide +kernel
theorem d3_1 : decode method_3_code 1 = .ok (.iload_n 3, 1) := by decide +kernel
theorem d3_2 : decode method_3_code 2 = .ok (.if_icmp .ge 14, 3) := by decide +kernel
theorem d3_5 : decode method_3_code 5 = .ok (.aload_n 0, 1) := by decide +kernel
theorem d3_6 : decode method_3_code 6 = .ok (.iload_n 2, 1) := by decide +kernel
theorem d3_7 : decode method_3_code 7 = .ok (.iaload, 1) := by decide +kernel
theorem d3_8 : decode method_3_code 8 = .ok (.aload_n 1, 1) := by decide +kernel
theorem d3_9 : decode method_3_code 9 = .ok (.iload_n 2, 1) := by decide +kernel
theorem d3_10 : decode method_3_code 10 = .ok (.invokestatic 20, 3) := by decide +kernel
theorem pd_3 : parseMethodDescriptor "([CI)I" = some ⟨[(.array .char), .int], some .int⟩ := by decide +kernel
theorem d3_13 : decode method_3_code 13 = .ok (.if_icmp .ne 7, 3) := by decide +kernel
theorem d3_16 : decode method_3_code 16 = .ok (.iconst 1, 1) := by decide +kernel
theorem d3_17 : decode method_3_code 17 = .ok (.goto 4, 3) := by decide +kernel
theorem d3_21 : decode method_3_code 21 = .ok (.ireturn, 1) := by decide +kernel
set_option maxRecDepth 65536 in
set_option maxHeartbeats 40000000 in
theorem rm3_0 (l : Launch) (Z : State) (a0 : Array Value) (hw : ∀ d ∈ tables_1, d.before a0 Z = true) (ws : List Jvm.Cond) (tb : Addr) (ca : Addr) (nn : Int32) (kc : ClassId) (c0 : Int32) (c1 : Int32) (c2 : Int32) (c3 : Int32) (c4 : Int32) (c5 : Int32) (kb : ClassId) (t1 : Int32) (t2 : Int32) (t3 : Int32) (t4 : Int32) (t5 : Int32) (h0 : Heap) (n0 : Nat) (Zle : n0 ≤ h0.size) (V_tb : Arv Z h0 tb kb .int nn [(.int 0), (.int t1), (.int t2), (.int t3), (.int t4), (.int t5)] (.int 0)) (V_ca : Arv Z h0 ca kc .char (6 : Int32) [(.int c0), (.int c1), (.int c2), (.int c3), (.int c4), (.int c5)] (.int 0)) :
    MetFree l (⟨"com/example/emu/emu/PrefixTableOfPinLaw", "ok", "([I[CII)Z"⟩ : MethodName) (head1 (Jvm.Cond.code (⟨"com/example/emu/emu/PrefixTableOfPinLaw", "ok", "([I[CII)Z"⟩ : MethodName) method_3_code 4 (some .boolean) :: ws) ({ frames := 2, cells := 0, slots := 0, locals := 28 } : Room)) (fun a U => a = #[(.ref tb), (.ref ca), (.int 0), (.int nn)] ∧ Z.Warmed39 U.vm ∧ U.heap = h0) (fun _ _ _ _ _ => True) (fun _ U o U' => ∃ v L, o = .returned v ∧ Q3_0 Z tb ca nn kc c0 c1 c2 c3 c4 c5 kb t1 t2 t3 t4 t5 h0 n0 v U'.heap L ∧ FrameEnd U o U' L ({ frames := 2, cells := 0, slots := 0, locals := 28 } : Room).cells ({ frames := 2, cells := 0, slots := 0, locals := 28 } : Room).slots) := by
  refine MetFree.of_bodySF (plainFor_of_name pn_com_example_emu_emu_PrefixTableOfPinLaw) hisR ?_
  intro p e s m args below meth c s₁ Bd hml0 hP hK
  obtain ⟨rfl, hZ, hh⟩ := hP
  have hx := Bd.exec
  have hby := Bd.bytes
  have hml : c.maxLocals = 4 := hml0
  have hown : s.vm.findClass "com/example/emu/emu/PrefixTableOfPinLaw" = some m.cls := findClass_of_methodNamed Bd.named
  have hnm := (name_of_methodNamed Bd.named Bd.method).1
  have X0 : Stand p l e ({ frames := 2, cells := 0, slots := 0, locals := 28 } : Room) s m #[(.ref tb), (.ref ca), (.int 0), (.int nn)] below meth c s₁ [] 0 0 := Stand.of_body Bd
  have e0 : s₁.heap = h0 := by rw [← hh, Bd.state]; rfl
  have N_ := Fr.nil n0
  show own_Goes p.tables e below s (Q3_0 Z tb ca nn kc c0 c1 c2 c3 c4 c5 kb t1 t2 t3 t4 t5 h0 n0) ({ frames := 2, cells := 0, slots := 0, locals := 28 } : Room).cells ({ frames := 2, cells := 0, slots := 0, locals := 28 } : Room).slots s₁ (entryFrame m #[(.ref tb), (.ref ca), (.int 0), (.int nn)] 4)
  refine own_by (T' := s₁) (g' := (mkF m 0 #[.val (.ref tb), .val (.ref ca), .val (.int 0), .val (.int nn)] [])) (fun t k => castTop (ef_3_0 m tb ca nn) k) ?_
  refine own_by (T' := s₁) (g' := (mkF m 1 #[.val (.ref tb), .val (.ref ca), .val (.int 0), .val (.int nn)] [(.int 0)])) (fun t k => XS.iloadN X0.here hx rfl (hb hby d3_0) rfl k) ?_
  refine own_by (T' := s₁) (g' := (mkF m 2 #[.val (.ref tb), .val (.ref ca), .val (.int 0), .val (.int nn)] [(.int nn), (.int 0)])) (fun t k => XS.iloadN X0.here hx rfl (hb hby d3_1) rfl k) ?_
  by_cases hc2_1 : (0 : Int32) < nn
  · refine own_by (T' := s₁) (g' := (mkF m 5 #[.val (.ref tb), .val (.ref ca), .val (.int 0), .val (.int nn)] [])) (fun t k => XS.icmpNo X0.here hx rfl (hb hby d3_2) rfl (tlt hc2_1).2.1 k) ?_
    refine own_by (T' := s₁) (g' := (mkF m 6 #[.val (.ref tb), .val (.ref ca), .val (.int 0), .val (.int nn)] [(.ref tb)])) (fun t k => XS.aloadN X0.here hx rfl (hb hby d3_5) rfl rfl k) ?_
    refine own_by (T' := s₁) (g' := (mkF m 7 #[.val (.ref tb), .val (.ref ca), .val (.int 0), .val (.int nn)] [(.int 0), (.ref tb)])) (fun t k => XS.iloadN X0.here hx rfl (hb hby d3_6) rfl k) ?_
    obtain ⟨cl2, Ar2, q2, S2, N2, Hs2, G2⟩ := id V_tb
    have hin2 : ¬ ((0 : Int32) < 0 ∨ cl2.slots.size ≤ ((0 : Int32)).toNatClampNeg) := inb_of S2 ⟨by decide, hc2_1⟩
    have hat2 : cl2.slots[((0 : Int32)).toNatClampNeg]? = some (.int 0) := Hs2.at hin2 rfl
    refine own_by (T' := s₁) (g' := (mkF m 8 #[.val (.ref tb), .val (.ref ca), .val (.int 0), .val (.int nn)] [(.int 0)])) (fun t k => X0.iaload hx (j := (0 : Int32)) (v := (.int 0)) (by rw [e0]; exact Ar2.1) (State.isArrayOf_alike hZ.alike Ar2.2.1) Ar2.2.2 hin2 hat2 (g := (mkF m 7 #[.val (.ref tb), .val (.ref ca), .val (.int 0), .val (.int nn)] [(.int 0), (.ref tb)])) rfl rfl (hb hby d3_7) _ k) ?_
    clear hat2 hin2 G2 Hs2 N2 S2 q2 Ar2 cl2
    refine own_by (T' := s₁) (g' := (mkF m 9 #[.val (.ref tb), .val (.ref ca), .val (.int 0), .val (.int nn)] [(.ref ca), (.int 0)])) (fun t k => XS.aloadN X0.here hx rfl (hb hby d3_8) rfl rfl k) ?_
    refine own_by (T' := s₁) (g' := (mkF m 10 #[.val (.ref tb), .val (.ref ca), .val (.int 0), .val (.int nn)] [(.int 0), (.ref ca), (.int 0)])) (fun t k => XS.iloadN X0.here hx rfl (hb hby d3_9) rfl k) ?_
    obtain ⟨_, _, ⟨T3, L3, k3, n3⟩, -, X3, ⟨Lc3, hQ3, l3, y3, z3⟩, st3⟩ := Jvm.LawKit.callS X0 hx (y := (⟨"com/example/emu/emu/PrefixTableOfPinLaw", "ref", "([CI)I"⟩ : MethodName)) hown (mvT hZ (hw _ (own_m 23 rfl))) (mvT hZ (hw _ (own_m 24 rfl))) (mvT hZ (hw _ (own_m 21 rfl))) (mvT hZ (hw _ (own_m 25 rfl))) (by decide) (backOf (W := 1) (rm4_0 l Z a0 hw [] ca kc c0 c1 c2 c3 c4 c5 h0 n0 Zle V_ca) hZ (hw _ (own_m 25 rfl)) (hw _ (own_m 21 rfl)) (by decide) (by decide)) (g := (mkF m 10 #[.val (.ref tb), .val (.ref ca), .val (.int 0), .val (.int nn)] [(.int 0), (.ref ca), (.int 0)])) rfl (by rw [hml]; rfl) (argsL := [(.ref ca), (.int 0)]) (rest := [(.int 0)]) (lenOf pd_3 rfl) rfl (own_le rfl) (hb hby d3_10) (fun _ _ => ⟨rfl, e0, (by decide : 0 + 0 ≤ _), (by decide : 0 + 0 ≤ _)⟩)
    dsimp only [Pt.U, Pt.locs, Pt.cells, Pt.slots] at X3 l3 y3 z3 st3 hQ3
    subst l3 y3 z3
    obtain ⟨rfl, Nq3, e3⟩ := hQ3
    replace N_ := Fr.app N_ Nq3
    clear Nq3
    refine own_by (T' := T3) (g' := (mkF m 13 #[.val (.ref tb), .val (.ref ca), .val (.int 0), .val (.int nn)] [(.int (own_ref0 c0 c1 c2 c3 c4 c5)), (.int 0)])) (fun t k => st3 _ k) ?_
    clear st3 X0 e0
    refine own_by (T' := T3) (g' := (mkF m 16 #[.val (.ref tb), .val (.ref ca), .val (.int 0), .val (.int nn)] [])) (fun t k => XS.icmpNo X3.here hx rfl (hb hby d3_13) rfl (teq rfl).2 k) ?_
    refine own_by (T' := T3) (g' := (mkF m 17 #[.val (.ref tb), .val (.ref ca), .val (.int 0), .val (.int nn)] [(.int 1)])) (fun t k => XS.iconst X3.here hx rfl (hb hby d3_16) k) ?_
    refine own_by (T' := T3) (g' := (mkF m 21 #[.val (.ref tb), .val (.ref ca), .val (.int 0), .val (.int nn)] [(.int 1)])) (fun t k => XS.goto X3.here hx rfl (pc0 := 17) (pc' := 21) rfl (hb hby d3_17) (by decide) (by decide) k) ?_
    exact own_retN X3 hx (t := .boolean) Bd.notSynchronized Bd.returns (by simp) (hb hby d3_21) (by decide) (by decide) (by rw [e3]; exact ⟨rfl, N_, rfl⟩)
  · refine own_by (T' := s₁) (g' := (mkF m 16 #[.val (.ref tb), .val (.ref ca), .val (.int 0), .val (.int nn)] [])) (fun t k => XS.icmpYes X0.here hx rfl (pc0 := 2) (pc' := 16) rfl (hb hby d3_2) rfl (flt hc2_1).2.1 (by decide) (by decide) k) ?_
    refine own_by (T' := s₁) (g' := (mkF m 17 #[.val (.ref tb), .val (.ref ca), .val (.int 0), .val (.int nn)] [(.int 1)])) (fun t k => XS.iconst X0.here hx rfl (hb hby d3_16) k) ?_
    refine own_by (T' := s₁) (g' := (mkF m 21 #[.val (.ref tb), .val (.ref ca), .val (.int 0), .val (.int nn)] [(.int 1)])) (fun t k => XS.goto X0.here hx rfl (pc0 := 17) (pc' := 21) rfl (hb hby d3_17) (by decide) (by decide) k) ?_
    exact own_retN X0 hx (t := .boolean) Bd.notSynchronized Bd.returns (by simp) (hb hby d3_21) (by decide) (by decide) (by rw [e0]; exact ⟨rfl, N_, rfl⟩)

def Q3_1 (Z : State) (tb : Addr) (ca : Addr) (nn : Int32) (kc : ClassId) (c0 : Int32) (c1 : Int32) (c2 : Int32) (c3 : Int32) (c4 : Int32) (c5 : Int32) (kb : ClassId) (t1 : Int32) (t2 : Int32) (t3 : Int32) (t4 : Int32) (t5 : Int32) (h0 : Heap) (n0 : Nat) (v : Option Value) (h : Heap) (L : List Loc) : Prop := v = some (.int 1) ∧ Fr n0 L ∧ h = h0
theorem ef_3_1 (m : MethodId) (tb : Addr) (ca : Addr) (nn : Int32) : entryFrame m #[(.ref tb), (.ref ca), (.int 1), (.int nn)] 4 = mkF m 0 #[.val (.ref tb), .val (.ref ca), .val (.int 1), .val (.int nn)] [] := by first | (simp [entryFrame, mkF, argsToLocals, Value.category]; done) | rfl
set_option maxRecDepth 65536 in
set_option maxHeartbeats 40000000 in
theorem rm3_1 (l : Launch) (Z : State) (a0 : Array Value) (hw : ∀ d ∈ tables_1, d.before a0 Z = true) (ws : List Jvm.Cond) (tb : Addr) (ca : Addr) (nn : Int32) (kc : ClassId) (c0 : Int32) (c1 : Int32) (c2 : Int32) (c3 : Int32) (c4 : Int32) (c5 : Int32) (kb : ClassId) (t1 : Int32) (t2 : Int32) (t3 : Int32) (t4 : Int32) (t5 : Int32) (h0 : Heap) (n0 : Nat) (Zle : n0 ≤ h0.size) (V_tb : Arv Z h0 tb kb .int nn [(.int 0), (.int t1), (.int t2), (.int t3), (.int t4), (.int t5)] (.int 0)) (V_ca : Arv Z h0 ca kc .char (6 : Int32) [(.int c0), (.int c1), (.int c2), (.int c3), (.int c4), (.int c5)] (.int 0)) (hB : (1 : Int32) < nn → own_B1 c0 c1 t1) :
    MetFree l (⟨"com/example/emu/emu/PrefixTableOfPinLaw", "ok", "([I[CII)Z"⟩ : MethodName) (head1 (Jvm.Cond.code (⟨"com/example/emu/emu/PrefixTableOfPinLaw", "ok", "([I[CII)Z"⟩ : MethodName) method_3_code 4 (some .boolean) :: ws) ({ frames := 2, cells := 0, slots := 0, locals := 28 } : Room)) (fun a U => a = #[(.ref tb), (.ref ca), (.int 1), (.int nn)] ∧ Z.Warmed39 U.vm ∧ U.heap = h0) (fun _ _ _ _ _ => True) (fun _ U o U' => ∃ v L, o = .returned v ∧ Q3_1 Z tb ca nn kc c0 c1 c2 c3 c4 c5 kb t1 t2 t3 t4 t5 h0 n0 v U'.heap L ∧ FrameEnd U o U' L ({ frames := 2, cells := 0, slots := 0, locals := 28 } : Room).cells ({ frames := 2, cells := 0, slots := 0, locals := 28 } : Room).slots) := by
  refine MetFree.of_bodySF (plainFor_of_name pn_com_example_emu_emu_PrefixTableOfPinLaw) hisR ?_
  intro p e s m args below meth c s₁ Bd hml0 hP hK
  obtain ⟨rfl, hZ, hh⟩ := hP
  have hx := Bd.exec
  have hby := Bd.bytes
  have hml : c.maxLocals = 4 := hml0
  have hown : s.vm.findClass "com/example/emu/emu/PrefixTableOfPinLaw" = some m.cls := findClass_of_methodNamed Bd.named
  have hnm := (name_of_methodNamed Bd.named Bd.method).1
  have X0 : Stand p l e ({ frames := 2, cells := 0, slots := 0, locals := 28 } : Room) s m #[(.ref tb), (.ref ca), (.int 1), (.int nn)] below meth c s₁ [] 0 0 := Stand.of_body Bd
  have e0 : s₁.heap = h0 := by rw [← hh, Bd.state]; rfl
  have N_ := Fr.nil n0
  show own_Goes p.tables e below s (Q3_1 Z tb ca nn kc c0 c1 c2 c3 c4 c5 kb t1 t2 t3 t4 t5 h0 n0) ({ frames := 2, cells := 0, slots := 0, locals := 28 } : Room).cells ({ frames := 2, cells := 0, slots := 0, locals := 28 } : Room).slots s₁ (entryFrame m #[(.ref tb), (.ref ca), (.int 1), (.int nn)] 4)
  refine own_by (T' := s₁) (g' := (mkF m 0 #[.val (.ref tb), .val (.ref ca), .val (.int 1), .val (.int nn)] [])) (fun t k => castTop (ef_3_1 m tb ca nn) k) ?_
  refine own_by (T' := s₁) (g' := (mkF m 1 #[.val (.ref tb), .val (.ref ca), .val (.int 1), .val (.int nn)] [(.int 1)])) (fun t k => XS.iloadN X0.here hx rfl (hb hby d3_0) rfl k) ?_
  refine own_by (T' := s₁) (g' := (mkF m 2 #[.val (.ref tb), .val (.ref ca), .val (.int 1), .val (.int nn)] [(.int nn), (.int 1)])) (fun t k => XS.iloadN X0.here hx rfl (hb hby d3_1) rfl k) ?_
  by_cases hc2_1 : (1 : Int32) < nn
  · refine own_by (T' := s₁) (g' := (mkF m 5 #[.val (.ref tb), .val (.ref ca), .val (.int 1), .val (.int nn)] [])) (fun t k => XS.icmpNo X0.here hx rfl (hb hby d3_2) rfl (tlt hc2_1).2.1 k) ?_
    refine own_by (T' := s₁) (g' := (mkF m 6 #[.val (.ref tb), .val (.ref ca), .val (.int 1), .val (.int nn)] [(.ref tb)])) (fun t k => XS.aloadN X0.here hx rfl (hb hby d3_5) rfl rfl k) ?_
    refine own_by (T' := s₁) (g' := (mkF m 7 #[.val (.ref tb), .val (.ref ca), .val (.int 1), .val (.int nn)] [(.int 1), (.ref tb)])) (fun t k => XS.iloadN X0.here hx rfl (hb hby d3_6) rfl k) ?_
    obtain ⟨cl2, Ar2, q2, S2, N2, Hs2, G2⟩ := id V_tb
    have hin2 : ¬ ((1 : Int32) < 0 ∨ cl2.slots.size ≤ ((1 : Int32)).toNatClampNeg) := inb_of S2 ⟨by decide, hc2_1⟩
    have hat2 : cl2.slots[((1 : Int32)).toNatClampNeg]? = some (.int t1) := Hs2.at hin2 rfl
    refine own_by (T' := s₁) (g' := (mkF m 8 #[.val (.ref tb), .val (.ref ca), .val (.int 1), .val (.int nn)] [(.int t1)])) (fun t k => X0.iaload hx (j := (1 : Int32)) (v := (.int t1)) (by rw [e0]; exact Ar2.1) (State.isArrayOf_alike hZ.alike Ar2.2.1) Ar2.2.2 hin2 hat2 (g := (mkF m 7 #[.val (.ref tb), .val (.ref ca), .val (.int 1), .val (.int nn)] [(.int 1), (.ref tb)])) rfl rfl (hb hby d3_7) _ k) ?_
    clear hat2 hin2 G2 Hs2 N2 S2 q2 Ar2 cl2
    refine own_by (T' := s₁) (g' := (mkF m 9 #[.val (.ref tb), .val (.ref ca), .val (.int 1), .val (.int nn)] [(.ref ca), (.int t1)])) (fun t k => XS.aloadN X0.here hx rfl (hb hby d3_8) rfl rfl k) ?_
    refine own_by (T' := s₁) (g' := (mkF m 10 #[.val (.ref tb), .val (.ref ca), .val (.int 1), .val (.int nn)] [(.int 1), (.ref ca), (.int t1)])) (fun t k => XS.iloadN X0.here hx rfl (hb hby d3_9) rfl k) ?_
    obtain ⟨_, _, ⟨T3, L3, k3, n3⟩, -, X3, ⟨Lc3, hQ3, l3, y3, z3⟩, st3⟩ := Jvm.LawKit.callS X0 hx (y := (⟨"com/example/emu/emu/PrefixTableOfPinLaw", "ref", "([CI)I"⟩ : MethodName)) hown (mvT hZ (hw _ (own_m 23 rfl))) (mvT hZ (hw _ (own_m 24 rfl))) (mvT hZ (hw _ (own_m 21 rfl))) (mvT hZ (hw _ (own_m 25 rfl))) (by decide) (backOf (W := 1) (rm4_1 l Z a0 hw [] ca kc c0 c1 c2 c3 c4 c5 h0 n0 Zle V_ca) hZ (hw _ (own_m 25 rfl)) (hw _ (own_m 21 rfl)) (by decide) (by decide)) (g := (mkF m 10 #[.val (.ref tb), .val (.ref ca), .val (.int 1), .val (.int nn)] [(.int 1), (.ref ca), (.int t1)])) rfl (by rw [hml]; rfl) (argsL := [(.ref ca), (.int 1)]) (rest := [(.int t1)]) (lenOf pd_3 rfl) rfl (own_le rfl) (hb hby d3_10) (fun _ _ => ⟨rfl, e0, (by decide : 0 + 0 ≤ _), (by decide : 0 + 0 ≤ _)⟩)
    dsimp only [Pt.U, Pt.locs, Pt.cells, Pt.slots] at X3 l3 y3 z3 st3 hQ3
    subst l3 y3 z3
    obtain ⟨rfl, Nq3, e3⟩ := hQ3
    replace N_ := Fr.app N_ Nq3
    clear Nq3
    refine own_by (T' := T3) (g' := (mkF m 13 #[.val (.ref tb), .val (.ref ca), .val (.int 1), .val (.int nn)] [(.int (own_ref1 c0 c1 c2 c3 c4 c5)), (.int t1)])) (fun t k => st3 _ k) ?_
    clear st3 X0 e0
    refine own_by (T' := T3) (g' := (mkF m 16 #[.val (.ref tb), .val (.ref ca), .val (.int 1), .val (.int nn)] [])) (fun t k => XS.icmpNo X3.here hx rfl (hb hby d3_13) rfl (teq (own_isref1 (hB hc2_1))).2 k) ?_
    refine own_by (T' := T3) (g' := (mkF m 17 #[.val (.ref tb), .val (.ref ca), .val (.int 1), .val (.int nn)] [(.int 1)])) (fun t k => XS.iconst X3.here hx rfl (hb hby d3_16) k) ?_
    refine own_by (T' := T3) (g' := (mkF m 21 #[.val (.ref tb), .val (.ref ca), .val (.int 1), .val (.int nn)] [(.int 1)])) (fun t k => XS.goto X3.here hx rfl (pc0 := 17) (pc' := 21) rfl (hb hby d3_17) (by decide) (by decide) k) ?_
    exact own_retN X3 hx (t := .boolean) Bd.notSynchronized Bd.returns (by simp) (hb hby d3_21) (by decide) (by decide) (by rw [e3]; exact ⟨rfl, N_, rfl⟩)
  · refine own_by (T' := s₁) (g' := (mkF m 16 #[.val (.ref tb), .val (.ref ca), .val (.int 1), .val (.int nn)] [])) (fun t k => XS.icmpYes X0.here hx rfl (pc0 := 2) (pc' := 16) rfl (hb hby d3_2) rfl (flt hc2_1).2.1 (by decide) (by decide) k) ?_
    refine own_by (T' := s₁) (g' := (mkF m 17 #[.val (.ref tb), .val (.ref ca), .val (.int 1), .val (.int nn)] [(.int 1)])) (fun t k => XS.iconst X0.here hx rfl (hb hby d3_16) k) ?_
    refine own_by (T' := s₁) (g' := (mkF m 21 #[.val (.ref tb), .val (.ref ca), .val (.int 1), .val (.int nn)] [(.int 1)])) (fun t k => XS.goto X0.here hx rfl (pc0 := 17) (pc' := 21) rfl (hb hby d3_17) (by decide) (by decide) k) ?_
    exact own_retN X0 hx (t := .boolean) Bd.notSynchronized Bd.returns (by simp) (hb hby d3_21) (by decide) (by decide) (by rw [e0]; exact ⟨rfl, N_, rfl⟩)

def Q3_2 (Z : State) (tb : Addr) (ca : Addr) (nn : Int32) (kc : ClassId) (c0 : Int32) (c1 : Int32) (c2 : Int32) (c3 : Int32) (c4 : Int32) (c5 : Int32) (kb : ClassId) (t1 : Int32) (t2 : Int32) (t3 : Int32) (t4 : Int32) (t5 : Int32) (h0 : Heap) (n0 : Nat) (v : Option Value) (h : Heap) (L : List Loc) : Prop := v = some (.int 1) ∧ Fr n0 L ∧ h = h0
theorem ef_3_2 (m : MethodId) (tb : Addr) (ca : Addr) (nn : Int32) : entryFrame m #[(.ref tb), (.ref ca), (.int 2), (.int nn)] 4 = mkF m 0 #[.val (.ref tb), .val (.ref ca), .val (.int 2), .val (.int nn)] [] := by first | (simp [entryFrame, mkF, argsToLocals, Value.category]; done) | rfl
set_option maxRecDepth 65536 in
set_option maxHeartbeats 40000000 in
theorem rm3_2 (l : Launch) (Z : State) (a0 : Array Value) (hw : ∀ d ∈ tables_1, d.before a0 Z = true) (ws : List Jvm.Cond) (tb : Addr) (ca : Addr) (nn : Int32) (kc : ClassId) (c0 : Int32) (c1 : Int32) (c2 : Int32) (c3 : Int32) (c4 : Int32) (c5 : Int32) (kb : ClassId) (t1 : Int32) (t2 : Int32) (t3 : Int32) (t4 : Int32) (t5 : Int32) (h0 : Heap) (n0 : Nat) (Zle : n0 ≤ h0.size) (V_tb : Arv Z h0 tb kb .int nn [(.int 0), (.int t1), (.int t2), (.int t3), (.int t4), (.int t5)] (.int 0)) (V_ca : Arv Z h0 ca kc .char (6 : Int32) [(.int c0), (.int c1), (.int c2), (.int c3), (.int c4), (.int c5)] (.int 0)) (hB : (2 : Int32) < nn → own_B2 c0 c1 c2 t2) :
    MetFree l (⟨"com/example/emu/emu/PrefixTableOfPinLaw", "ok", "([I[CII)Z"⟩ : MethodName) (head1 (Jvm.Cond.code (⟨"com/example/emu/emu/PrefixTableOfPinLaw", "ok", "([I[CII)Z"⟩ : MethodName) method_3_code 4 (some .boolean) :: ws) ({ frames := 2, cells := 0, slots := 0, locals := 28 } : Room)) (fun a U => a = #[(.ref tb), (.ref ca), (.int 2), (.int nn)] ∧ Z.Warmed39 U.vm ∧ U.heap = h0) (fun _ _ _ _ _ => True) (fun _ U o U' => ∃ v L, o = .returned v ∧ Q3_2 Z tb ca nn kc c0 c1 c2 c3 c4 c5 kb t1 t2 t3 t4 t5 h0 n0 v U'.heap L ∧ FrameEnd U o U' L ({ frames := 2, cells := 0, slots := 0, locals := 28 } : Room).cells ({ frames := 2, cells := 0, slots := 0, locals := 28 } : Room).slots) := by
  refine MetFree.of_bodySF (plainFor_of_name pn_com_example_emu_emu_PrefixTableOfPinLaw) hisR ?_
  intro p e s m args below meth c s₁ Bd hml0 hP hK
  obtain ⟨rfl, hZ, hh⟩ := hP
  have hx := Bd.exec
  have hby := Bd.bytes
  have hml : c.maxLocals = 4 := hml0
  have hown : s.vm.findClass "com/example/emu/emu/PrefixTableOfPinLaw" = some m.cls := findClass_of_methodNamed Bd.named
  have hnm := (name_of_methodNamed Bd.named Bd.method).1
  have X0 : Stand p l e ({ frames := 2, cells := 0, slots := 0, locals := 28 } : Room) s m #[(.ref tb), (.ref ca), (.int 2), (.int nn)] below meth c s₁ [] 0 0 := Stand.of_body Bd
  have e0 : s₁.heap = h0 := by rw [← hh, Bd.state]; rfl
  have N_ := Fr.nil n0
  show own_Goes p.tables e below s (Q3_2 Z tb ca nn kc c0 c1 c2 c3 c4 c5 kb t1 t2 t3 t4 t5 h0 n0) ({ frames := 2, cells := 0, slots := 0, locals := 28 } : Room).cells ({ frames := 2, cells := 0, slots := 0, locals := 28 } : Room).slots s₁ (entryFrame m #[(.ref tb), (.ref ca), (.int 2), (.int nn)] 4)
  refine own_by (T' := s₁) (g' := (mkF m 0 #[.val (.ref tb), .val (.ref ca), .val (.int 2), .val (.int nn)] [])) (fun t k => castTop (ef_3_2 m tb ca nn) k) ?_
  refine own_by (T' := s₁) (g' := (mkF m 1 #[.val (.ref tb), .val (.ref ca), .val (.int 2), .val (.int nn)] [(.int 2)])) (fun t k => XS.iloadN X0.here hx rfl (hb hby d3_0) rfl k) ?_
  refine own_by (T' := s₁) (g' := (mkF m 2 #[.val (.ref tb), .val (.ref ca), .val (.int 2), .val (.int nn)] [(.int nn), (.int 2)])) (fun t k => XS.iloadN X0.here hx rfl (hb hby d3_1) rfl k) ?_
  by_cases hc2_1 : (2 : Int32) < nn
  · refine own_by (T' := s₁) (g' := (mkF m 5 #[.val (.ref tb), .val (.ref ca), .val (.int 2), .val (.int nn)] [])) (fun t k => XS.icmpNo X0.here hx rfl (hb hby d3_2) rfl (tlt hc2_1).2.1 k) ?_
    refine own_by (T' := s₁) (g' := (mkF m 6 #[.val (.ref tb), .val (.ref ca), .val (.int 2), .val (.int nn)] [(.ref tb)])) (fun t k => XS.aloadN X0.here hx rfl (hb hby d3_5) rfl rfl k) ?_
    refine own_by (T' := s₁) (g' := (mkF m 7 #[.val (.ref tb), .val (.ref ca), .val (.int 2), .val (.int nn)] [(.int 2), (.ref tb)])) (fun t k => XS.iloadN X0.here hx rfl (hb hby d3_6) rfl k) ?_
    obtain ⟨cl2, Ar2, q2, S2, N2, Hs2, G2⟩ := id V_tb
    have hin2 : ¬ ((2 : Int32) < 0 ∨ cl2.slots.size ≤ ((2 : Int32)).toNatClampNeg) := inb_of S2 ⟨by decide, hc2_1⟩
    have hat2 : cl2.slots[((2 : Int32)).toNatClampNeg]? = some (.int t2) := Hs2.at hin2 rfl
    refine own_by (T' := s₁) (g' := (mkF m 8 #[.val (.ref tb), .val (.ref ca), .val (.int 2), .val (.int nn)] [(.int t2)])) (fun t k => X0.iaload hx (j := (2 : Int32)) (v := (.int t2)) (by rw [e0]; exact Ar2.1) (State.isArrayOf_alike hZ.alike Ar2.2.1) Ar2.2.2 hin2 hat2 (g := (mkF m 7 #[.val (.ref tb), .val (.ref ca), .val (.int 2), .val (.int nn)] [(.int 2), (.ref tb)])) rfl rfl (hb hby d3_7) _ k) ?_
    clear hat2 hin2 G2 Hs2 N2 S2 q2 Ar2 cl2
    refine own_by (T' := s₁) (g' := (mkF m 9 #[.val (.ref tb), .val (.ref ca), .val (.int 2), .val (.int nn)] [(.ref ca), (.int t2)])) (fun t k => XS.aloadN X0.here hx rfl (hb hby d3_8) rfl rfl k) ?_
    refine own_by (T' := s₁) (g' := (mkF m 10 #[.val (.ref tb), .val (.ref ca), .val (.int 2), .val (.int nn)] [(.int 2), (.ref ca), (.int t2)])) (fun t k => XS.iloadN X0.here hx rfl (hb hby d3_9) rfl k) ?_
    obtain ⟨_, _, ⟨T3, L3, k3, n3⟩, -, X3, ⟨Lc3, hQ3, l3, y3, z3⟩, st3⟩ := Jvm.LawKit.callS X0 hx (y := (⟨"com/example/emu/emu/PrefixTableOfPinLaw", "ref", "([CI)I"⟩ : MethodName)) hown (mvT hZ (hw _ (own_m 23 rfl))) (mvT hZ (hw _ (own_m 24 rfl))) (mvT hZ (hw _ (own_m 21 rfl))) (mvT hZ (hw _ (own_m 25 rfl))) (by decide) (backOf (W := 1) (rm4_2 l Z a0 hw [] ca kc c0 c1 c2 c3 c4 c5 h0 n0 Zle V_ca) hZ (hw _ (own_m 25 rfl)) (hw _ (own_m 21 rfl)) (by decide) (by decide)) (g := (mkF m 10 #[.val (.ref tb), .val (.ref ca), .val (.int 2), .val (.int nn)] [(.int 2), (.ref ca), (.int t2)])) rfl (by rw [hml]; rfl) (argsL := [(.ref ca), (.int 2)]) (rest := [(.int t2)]) (lenOf pd_3 rfl) rfl (own_le rfl) (hb hby d3_10) (fun _ _ => ⟨rfl, e0, (by decide : 0 + 0 ≤ _), (by decide : 0 + 0 ≤ _)⟩)
    dsimp only [Pt.U, Pt.locs, Pt.cells, Pt.slots] at X3 l3 y3 z3 st3 hQ3
    subst l3 y3 z3
    obtain ⟨rfl, Nq3, e3⟩ := hQ3
    replace N_ := Fr.app N_ Nq3
    clear Nq3
    refine own_by (T' := T3) (g' := (mkF m 13 #[.val (.ref tb), .val (.ref ca), .val (.int 2), .val (.int nn)] [(.int (own_ref2 c0 c1 c2 c3 c4 c5)), (.int t2)])) (fun t k => st3 _ k) ?_
    clear st3 X0 e0
    refine own_by (T' := T3) (g' := (mkF m 16 #[.val (.ref tb), .val (.ref ca), .val (.int 2), .val (.int nn)] [])) (fun t k => XS.icmpNo X3.here hx rfl (hb hby d3_13) rfl (teq (own_isref2 (hB hc2_1))).2 k) ?_
    refine own_by (T' := T3) (g' := (mkF m 17 #[.val (.ref tb), .val (.ref ca), .val (.int 2), .val (.int nn)] [(.int 1)])) (fun t k => XS.iconst X3.here hx rfl (hb hby d3_16) k) ?_
    refine own_by (T' := T3) (g' := (mkF m 21 #[.val (.ref tb), .val (.ref ca), .val (.int 2), .val (.int nn)] [(.int 1)])) (fun t k => XS.goto X3.here hx rfl (pc0 := 17) (pc' := 21) rfl (hb hby d3_17) (by decide) (by decide) k) ?_
    exact own_retN X3 hx (t := .boolean) Bd.notSynchronized Bd.returns (by simp) (hb hby d3_21) (by decide) (by decide) (by rw [e3]; exact ⟨rfl, N_, rfl⟩)
  · refine own_by (T' := s₁) (g' := (mkF m 16 #[.val (.ref tb), .val (.ref ca), .val (.int 2), .val (.int nn)] [])) (fun t k => XS.icmpYes X0.here hx rfl (pc0 := 2) (pc' := 16) rfl (hb hby d3_2) rfl (flt hc2_1).2.1 (by decide) (by decide) k) ?_
    refine own_by (T' := s₁) (g' := (mkF m 17 #[.val (.ref tb), .val (.ref ca), .val (.int 2), .val (.int nn)] [(.int 1)])) (fun t k => XS.iconst X0.here hx rfl (hb hby d3_16) k) ?_
    refine own_by (T' := s₁) (g' := (mkF m 21 #[.val (.ref tb), .val (.ref ca), .val (.int 2), .val (.int nn)] [(.int 1)])) (fun t k => XS.goto X0.here hx rfl (pc0 := 17) (pc' := 21) rfl (hb hby d3_17) (by decide) (by decide) k) ?_
    exact own_retN X0 hx (t := .boolean) Bd.notSynchronized Bd.returns (by simp) (hb hby d3_21) (by decide) (by decide) (by rw [e0]; exact ⟨rfl, N_, rfl⟩)

def Q3_3 (Z : State) (tb : Addr) (ca : Addr) (nn : Int32) (kc : ClassId) (c0 : Int32) (c1 : Int32) (c2 : Int32) (c3 : Int32) (c4 : Int32) (c5 : Int32) (kb : ClassId) (t1 : Int32) (t2 : Int32) (t3 : Int32) (t4 : Int32) (t5 : Int32) (h0 : Heap) (n0 : Nat) (v : Option Value) (h : Heap) (L : List Loc) : Prop := v = some (.int 1) ∧ Fr n0 L ∧ h = h0
theorem ef_3_3 (m : MethodId) (tb : Addr) (ca : Addr) (nn : Int32) : entryFrame m #[(.ref tb), (.ref ca), (.int 3), (.int nn)] 4 = mkF m 0 #[.val (.ref tb), .val (.ref ca), .val (.int 3), .val (.int nn)] [] := by first | (simp [entryFrame, mkF, argsToLocals, Value.category]; done) | rfl
set_option maxRecDepth 65536 in
set_option maxHeartbeats 40000000 in
theorem rm3_3 (l : Launch) (Z : State) (a0 : Array Value) (hw : ∀ d ∈ tables_1, d.before a0 Z = true) (ws : List Jvm.Cond) (tb : Addr) (ca : Addr) (nn : Int32) (kc : ClassId) (c0 : Int32) (c1 : Int32) (c2 : Int32) (c3 : Int32) (c4 : Int32) (c5 : Int32) (kb : ClassId) (t1 : Int32) (t2 : Int32) (t3 : Int32) (t4 : Int32) (t5 : Int32) (h0 : Heap) (n0 : Nat) (Zle : n0 ≤ h0.size) (V_tb : Arv Z h0 tb kb .int nn [(.int 0), (.int t1), (.int t2), (.int t3), (.int t4), (.int t5)] (.int 0)) (V_ca : Arv Z h0 ca kc .char (6 : Int32) [(.int c0), (.int c1), (.int c2), (.int c3), (.int c4), (.int c5)] (.int 0)) (hB : (3 : Int32) < nn → own_B3 c0 c1 c2 c3 t3) :
    MetFree l (⟨"com/example/emu/emu/PrefixTableOfPinLaw", "ok", "([I[CII)Z"⟩ : MethodName) (head1 (Jvm.Cond.code (⟨"com/example/emu/emu/PrefixTableOfPinLaw", "ok", "([I[CII)Z"⟩ : MethodName) method_3_code 4 (some .boolean) :: ws) ({ frames := 2, cells := 0, slots := 0, locals := 28 } : Room)) (fun a U => a = #[(.ref tb), (.ref ca), (.int 3), (.int nn)] ∧ Z.Warmed39 U.vm ∧ U.heap = h0) (fun _ _ _ _ _ => True) (fun _ U o U' => ∃ v L, o = .returned v ∧ Q3_3 Z tb ca nn kc c0 c1 c2 c3 c4 c5 kb t1 t2 t3 t4 t5 h0 n0 v U'.heap L ∧ FrameEnd U o U' L ({ frames := 2, cells := 0, slots := 0, locals := 28 } : Room).cells ({ frames := 2, cells := 0, slots := 0, locals := 28 } : Room).slots) := by
  refine MetFree.of_bodySF (plainFor_of_name pn_com_example_emu_emu_PrefixTableOfPinLaw) hisR ?_
  intro p e s m args below meth c s₁ Bd hml0 hP hK
  obtain ⟨rfl, hZ, hh⟩ := hP
  have hx := Bd.exec
  have hby := Bd.bytes
  have hml : c.maxLocals = 4 := hml0
  have hown : s.vm.findClass "com/example/emu/emu/PrefixTableOfPinLaw" = some m.cls := findClass_of_methodNamed Bd.named
  have hnm := (name_of_methodNamed Bd.named Bd.method).1
  have X0 : Stand p l e ({ frames := 2, cells := 0, slots := 0, locals := 28 } : Room) s m #[(.ref tb), (.ref ca), (.int 3), (.int nn)] below meth c s₁ [] 0 0 := Stand.of_body Bd
  have e0 : s₁.heap = h0 := by rw [← hh, Bd.state]; rfl
  have N_ := Fr.nil n0
  show own_Goes p.tables e below s (Q3_3 Z tb ca nn kc c0 c1 c2 c3 c4 c5 kb t1 t2 t3 t4 t5 h0 n0) ({ frames := 2, cells := 0, slots := 0, locals := 28 } : Room).cells ({ frames := 2, cells := 0, slots := 0, locals := 28 } : Room).slots s₁ (entryFrame m #[(.ref tb), (.ref ca), (.int 3), (.int nn)] 4)
  refine own_by (T' := s₁) (g' := (mkF m 0 #[.val (.ref tb), .val (.ref ca), .val (.int 3), .val (.int nn)] [])) (fun t k => castTop (ef_3_3 m tb ca nn) k) ?_
  refine own_by (T' := s₁) (g' := (mkF m 1 #[.val (.ref tb), .val (.ref ca), .val (.int 3), .val (.int nn)] [(.int 3)])) (fun t k => XS.iloadN X0.here hx rfl (hb hby d3_0) rfl k) ?_
  refine own_by (T' := s₁) (g' := (mkF m 2 #[.val (.ref tb), .val (.ref ca), .val (.int 3), .val (.int nn)] [(.int nn), (.int 3)])) (fun t k => XS.iloadN X0.here hx rfl (hb hby d3_1) rfl k) ?_
  by_cases hc2_1 : (3 : Int32) < nn
  · refine own_by (T' := s₁) (g' := (mkF m 5 #[.val (.ref tb), .val (.ref ca), .val (.int 3), .val (.int nn)] [])) (fun t k => XS.icmpNo X0.here hx rfl (hb hby d3_2) rfl (tlt hc2_1).2.1 k) ?_
    refine own_by (T' := s₁) (g' := (mkF m 6 #[.val (.ref tb), .val (.ref ca), .val (.int 3), .val (.int nn)] [(.ref tb)])) (fun t k => XS.aloadN X0.here hx rfl (hb hby d3_5) rfl rfl k) ?_
    refine own_by (T' := s₁) (g' := (mkF m 7 #[.val (.ref tb), .val (.ref ca), .val (.int 3), .val (.int nn)] [(.int 3), (.ref tb)])) (fun t k => XS.iloadN X0.here hx rfl (hb hby d3_6) rfl k) ?_
    obtain ⟨cl2, Ar2, q2, S2, N2, Hs2, G2⟩ := id V_tb
    have hin2 : ¬ ((3 : Int32) < 0 ∨ cl2.slots.size ≤ ((3 : Int32)).toNatClampNeg) := inb_of S2 ⟨by decide, hc2_1⟩
    have hat2 : cl2.slots[((3 : Int32)).toNatClampNeg]? = some (.int t3) := Hs2.at hin2 rfl
    refine own_by (T' := s₁) (g' := (mkF m 8 #[.val (.ref tb), .val (.ref ca), .val (.int 3), .val (.int nn)] [(.int t3)])) (fun t k => X0.iaload hx (j := (3 : Int32)) (v := (.int t3)) (by rw [e0]; exact Ar2.1) (State.isArrayOf_alike hZ.alike Ar2.2.1) Ar2.2.2 hin2 hat2 (g := (mkF m 7 #[.val (.ref tb), .val (.ref ca), .val (.int 3), .val (.int nn)] [(.int 3), (.ref tb)])) rfl rfl (hb hby d3_7) _ k) ?_
    clear hat2 hin2 G2 Hs2 N2 S2 q2 Ar2 cl2
    refine own_by (T' := s₁) (g' := (mkF m 9 #[.val (.ref tb), .val (.ref ca), .val (.int 3), .val (.int nn)] [(.ref ca), (.int t3)])) (fun t k => XS.aloadN X0.here hx rfl (hb hby d3_8) rfl rfl k) ?_
    refine own_by (T' := s₁) (g' := (mkF m 10 #[.val (.ref tb), .val (.ref ca), .val (.int 3), .val (.int nn)] [(.int 3), (.ref ca), (.int t3)])) (fun t k => XS.iloadN X0.here hx rfl (hb hby d3_9) rfl k) ?_
    obtain ⟨_, _, ⟨T3, L3, k3, n3⟩, -, X3, ⟨Lc3, hQ3, l3, y3, z3⟩, st3⟩ := Jvm.LawKit.callS X0 hx (y := (⟨"com/example/emu/emu/PrefixTableOfPinLaw", "ref", "([CI)I"⟩ : MethodName)) hown (mvT hZ (hw _ (own_m 23 rfl))) (mvT hZ (hw _ (own_m 24 rfl))) (mvT hZ (hw _ (own_m 21 rfl))) (mvT hZ (hw _ (own_m 25 rfl))) (by decide) (backOf (W := 1) (rm4_3 l Z a0 hw [] ca kc c0 c1 c2 c3 c4 c5 h0 n0 Zle V_ca) hZ (hw _ (own_m 25 rfl)) (hw _ (own_m 21 rfl)) (by decide) (by decide)) (g := (mkF m 10 #[.val (.ref tb), .val (.ref ca), .val (.int 3), .val (.int nn)] [(.int 3), (.ref ca), (.int t3)])) rfl (by rw [hml]; rfl) (argsL := [(.ref ca), (.int 3)]) (rest := [(.int t3)]) (lenOf pd_3 rfl) rfl (own_le rfl) (hb hby d3_10) (fun _ _ => ⟨rfl, e0, (by decide : 0 + 0 ≤ _), (by decide : 0 + 0 ≤ _)⟩)
    dsimp only [Pt.U, Pt.locs, Pt.cells, Pt.slots] at X3 l3 y3 z3 st3 hQ3
    subst l3 y3 z3
    obtain ⟨rfl, Nq3, e3⟩ := hQ3
    replace N_ := Fr.app N_ Nq3
    clear Nq3
    refine own_by (T' := T3) (g' := (mkF m 13 #[.val (.ref tb), .val (.ref ca), .val (.int 3), .val (.int nn)] [(.int (own_ref3 c0 c1 c2 c3 c4 c5)), (.int t3)])) (fun t k => st3 _ k) ?_
    clear st3 X0 e0
    refine own_by (T' := T3) (g' := (mkF m 16 #[.val (.ref tb), .val (.ref ca), .val (.int 3), .val (.int nn)] [])) (fun t k => XS.icmpNo X3.here hx rfl (hb hby d3_13) rfl (teq (own_isref3 (hB hc2_1))).2 k) ?_
    refine own_by (T' := T3) (g' := (mkF m 17 #[.val (.ref tb), .val (.ref ca), .val (.int 3), .val (.int nn)] [(.int 1)])) (fun t k => XS.iconst X3.here hx rfl (hb hby d3_16) k) ?_
    refine own_by (T' := T3) (g' := (mkF m 21 #[.val (.ref tb), .val (.ref ca), .val (.int 3), .val (.int nn)] [(.int 1)])) (fun t k => XS.goto X3.here hx rfl (pc0 := 17) (pc' := 21) rfl (hb hby d3_17) (by decide) (by decide) k) ?_
    exact own_retN X3 hx (t := .boolean) Bd.notSynchronized Bd.returns (by simp) (hb hby d3_21) (by decide) (by decide) (by rw [e3]; exact ⟨rfl, N_, rfl⟩)
  · refine own_by (T' := s₁) (g' := (mkF m 16 #[.val (.ref tb), .val (.ref ca), .val (.int 3), .val (.int nn)] [])) (fun t k => XS.icmpYes X0.here hx rfl (pc0 := 2) (pc' := 16) rfl (hb hby d3_2) rfl (flt hc2_1).2.1 (by decide) (by decide) k) ?_
    refine own_by (T' := s₁) (g' := (mkF m 17 #[.val (.ref tb), .val (.ref ca), .val (.int 3), .val (.int nn)] [(.int 1)])) (fun t k => XS.iconst X0.here hx rfl (hb hby d3_16) k) ?_
    refine own_by (T' := s₁) (g' := (mkF m 21 #[.val (.ref tb), .val (.ref ca), .val (.int 3), .val (.int nn)] [(.int 1)])) (fun t k => XS.goto X0.here hx rfl (pc0 := 17) (pc' := 21) rfl (hb hby d3_17) (by decide) (by decide) k) ?_
    exact own_retN X0 hx (t := .boolean) Bd.notSynchronized Bd.returns (by simp) (hb hby d3_21) (by decide) (by decide) (by rw [e0]; exact ⟨rfl, N_, rfl⟩)

def Q3_4 (Z : State) (tb : Addr) (ca : Addr) (nn : Int32) (kc : ClassId) (c0 : Int32) (c1 : Int32) (c2 : Int32) (c3 : Int32) (c4 : Int32) (c5 : Int32) (kb : ClassId) (t1 : Int32) (t2 : Int32) (t3 : Int32) (t4 : Int32) (t5 : Int32) (h0 : Heap) (n0 : Nat) (v : Option Value) (h : Heap) (L : List Loc) : Prop := v = some (.int 1) ∧ Fr n0 L ∧ h = h0
theorem ef_3_4 (m : MethodId) (tb : Addr) (ca : Addr) (nn : Int32) : entryFrame m #[(.ref tb), (.ref ca), (.int 4), (.int nn)] 4 = mkF m 0 #[.val (.ref tb), .val (.ref ca), .val (.int 4), .val (.int nn)] [] := by first | (simp [entryFrame, mkF, argsToLocals, Value.category]; done) | rfl
set_option maxRecDepth 65536 in
set_option maxHeartbeats 40000000 in
theorem rm3_4 (l : Launch) (Z : State) (a0 : Array Value) (hw : ∀ d ∈ tables_1, d.before a0 Z = true) (ws : List Jvm.Cond) (tb : Addr) (ca : Addr) (nn : Int32) (kc : ClassId) (c0 : Int32) (c1 : Int32) (c2 : Int32) (c3 : Int32) (c4 : Int32) (c5 : Int32) (kb : ClassId) (t1 : Int32) (t2 : Int32) (t3 : Int32) (t4 : Int32) (t5 : Int32) (h0 : Heap) (n0 : Nat) (Zle : n0 ≤ h0.size) (V_tb : Arv Z h0 tb kb .int nn [(.int 0), (.int t1), (.int t2), (.int t3), (.int t4), (.int t5)] (.int 0)) (V_ca : Arv Z h0 ca kc .char (6 : Int32) [(.int c0), (.int c1), (.int c2), (.int c3), (.int c4), (.int c5)] (.int 0)) (hB : (4 : Int32) < nn → own_B4 c0 c1 c2 c3 c4 t4) :
    MetFree l (⟨"com/example/emu/emu/PrefixTableOfPinLaw", "ok", "([I[CII)Z"⟩ : MethodName) (head1 (Jvm.Cond.code (⟨"com/example/emu/emu/PrefixTableOfPinLaw", "ok", "([I[CII)Z"⟩ : MethodName) method_3_code 4 (some .boolean) :: ws) ({ frames := 2, cells := 0, slots := 0, locals := 28 } : Room)) (fun a U => a = #[(.ref tb), (.ref ca), (.int 4), (.int nn)] ∧ Z.Warmed39 U.vm ∧ U.heap = h0) (fun _ _ _ _ _ => True) (fun _ U o U' => ∃ v L, o = .returned v ∧ Q3_4 Z tb ca nn kc c0 c1 c2 c3 c4 c5 kb t1 t2 t3 t4 t5 h0 n0 v U'.heap L ∧ FrameEnd U o U' L ({ frames := 2, cells := 0, slots := 0, locals := 28 } : Room).cells ({ frames := 2, cells := 0, slots := 0, locals := 28 } : Room).slots) := by
  refine MetFree.of_bodySF (plainFor_of_name pn_com_example_emu_emu_PrefixTableOfPinLaw) hisR ?_
  intro p e s m args below meth c s₁ Bd hml0 hP hK
  obtain ⟨rfl, hZ, hh⟩ := hP
  have hx := Bd.exec
  have hby := Bd.bytes
  have hml : c.maxLocals = 4 := hml0
  have hown : s.vm.findClass "com/example/emu/emu/PrefixTableOfPinLaw" = some m.cls := findClass_of_methodNamed Bd.named
  have hnm := (name_of_methodNamed Bd.named Bd.method).1
  have X0 : Stand p l e ({ frames := 2, cells := 0, slots := 0, locals := 28 } : Room) s m #[(.ref tb), (.ref ca), (.int 4), (.int nn)] below meth c s₁ [] 0 0 := Stand.of_body Bd
  have e0 : s₁.heap = h0 := by rw [← hh, Bd.state]; rfl
  have N_ := Fr.nil n0
  show own_Goes p.tables e below s (Q3_4 Z tb ca nn kc c0 c1 c2 c3 c4 c5 kb t1 t2 t3 t4 t5 h0 n0) ({ frames := 2, cells := 0, slots := 0, locals := 28 } : Room).cells ({ frames := 2, cells := 0, slots := 0, locals := 28 } : Room).slots s₁ (entryFrame m #[(.ref tb), (.ref ca), (.int 4), (.int nn)] 4)
  refine own_by (T' := s₁) (g' := (mkF m 0 #[.val (.ref tb), .val (.ref ca), .val (.int 4), .val (.int nn)] [])) (fun t k => castTop (ef_3_4 m tb ca nn) k) ?_
  refine own_by (T' := s₁) (g' := (mkF m 1 #[.val (.ref tb), .val (.ref ca), .val (.int 4), .val (.int nn)] [(.int 4)])) (fun t k => XS.iloadN X0.here hx rfl (hb hby d3_0) rfl k) ?_
  refine own_by (T' := s₁) (g' := (mkF m 2 #[.val (.ref tb), .val (.ref ca), .val (.int 4), .val (.int nn)] [(.int nn), (.int 4)])) (fun t k => XS.iloadN X0.here hx rfl (hb hby d3_1) rfl k) ?_
  by_cases hc2_1 : (4 : Int32) < nn
  · refine own_by (T' := s₁) (g' := (mkF m 5 #[.val (.ref tb), .val (.ref ca), .val (.int 4), .val (.int nn)] [])) (fun t k => XS.icmpNo X0.here hx rfl (hb hby d3_2) rfl (tlt hc2_1).2.1 k) ?_
    refine own_by (T' := s₁) (g' := (mkF m 6 #[.val (.ref tb), .val (.ref ca), .val (.int 4), .val (.int nn)] [(.ref tb)])) (fun t k => XS.aloadN X0.here hx rfl (hb hby d3_5) rfl rfl k) ?_
    refine own_by (T' := s₁) (g' := (mkF m 7 #[.val (.ref tb), .val (.ref ca), .val (.int 4), .val (.int nn)] [(.int 4), (.ref tb)])) (fun t k => XS.iloadN X0.here hx rfl (hb hby d3_6) rfl k) ?_
    obtain ⟨cl2, Ar2, q2, S2, N2, Hs2, G2⟩ := id V_tb
    have hin2 : ¬ ((4 : Int32) < 0 ∨ cl2.slots.size ≤ ((4 : Int32)).toNatClampNeg) := inb_of S2 ⟨by decide, hc2_1⟩
    have hat2 : cl2.slots[((4 : Int32)).toNatClampNeg]? = some (.int t4) := Hs2.at hin2 rfl
    refine own_by (T' := s₁) (g' := (mkF m 8 #[.val (.ref tb), .val (.ref ca), .val (.int 4), .val (.int nn)] [(.int t4)])) (fun t k => X0.iaload hx (j := (4 : Int32)) (v := (.int t4)) (by rw [e0]; exact Ar2.1) (State.isArrayOf_alike hZ.alike Ar2.2.1) Ar2.2.2 hin2 hat2 (g := (mkF m 7 #[.val (.ref tb), .val (.ref ca), .val (.int 4), .val (.int nn)] [(.int 4), (.ref tb)])) rfl rfl (hb hby d3_7) _ k) ?_
    clear hat2 hin2 G2 Hs2 N2 S2 q2 Ar2 cl2
    refine own_by (T' := s₁) (g' := (mkF m 9 #[.val (.ref tb), .val (.ref ca), .val (.int 4), .val (.int nn)] [(.ref ca), (.int t4)])) (fun t k => XS.aloadN X0.here hx rfl (hb hby d3_8) rfl rfl k) ?_
    refine own_by (T' := s₁) (g' := (mkF m 10 #[.val (.ref tb), .val (.ref ca), .val (.int 4), .val (.int nn)] [(.int 4), (.ref ca), (.int t4)])) (fun t k => XS.iloadN X0.here hx rfl (hb hby d3_9) rfl k) ?_
    obtain ⟨_, _, ⟨T3, L3, k3, n3⟩, -, X3, ⟨Lc3, hQ3, l3, y3, z3⟩, st3⟩ := Jvm.LawKit.callS X0 hx (y := (⟨"com/example/emu/emu/PrefixTableOfPinLaw", "ref", "([CI)I"⟩ : MethodName)) hown (mvT hZ (hw _ (own_m 23 rfl))) (mvT hZ (hw _ (own_m 24 rfl))) (mvT hZ (hw _ (own_m 21 rfl))) (mvT hZ (hw _ (own_m 25 rfl))) (by decide) (backOf (W := 1) (rm4_4 l Z a0 hw [] ca kc c0 c1 c2 c3 c4 c5 h0 n0 Zle V_ca) hZ (hw _ (own_m 25 rfl)) (hw _ (own_m 21 rfl)) (by decide) (by decide)) (g := (mkF m 10 #[.val (.ref tb), .val (.ref ca), .val (.int 4), .val (.int nn)] [(.int 4), (.ref ca), (.int t4)])) rfl (by rw [hml]; rfl) (argsL := [(.ref ca), (.int 4)]) (rest := [(.int t4)]) (lenOf pd_3 rfl) rfl (own_le rfl) (hb hby d3_10) (fun _ _ => ⟨rfl, e0, (by decide : 0 + 0 ≤ _), (by decide : 0 + 0 ≤ _)⟩)
    dsimp only [Pt.U, Pt.locs, Pt.cells, Pt.slots] at X3 l3 y3 z3 st3 hQ3
    subst l3 y3 z3
    obtain ⟨rfl, Nq3, e3⟩ := hQ3
    replace N_ := Fr.app N_ Nq3
    clear Nq3
    refine own_by (T' := T3) (g' := (mkF m 13 #[.val (.ref tb), .val (.ref ca), .val (.int 4), .val (.int nn)] [(.int (own_ref4 c0 c1 c2 c3 c4 c5)), (.int t4)])) (fun t k => st3 _ k) ?_
    clear st3 X0 e0
    refine own_by (T' := T3) (g' := (mkF m 16 #[.val (.ref tb), .val (.ref ca), .val (.int 4), .val (.int nn)] [])) (fun t k => XS.icmpNo X3.here hx rfl (hb hby d3_13) rfl (teq (own_isref4 (hB hc2_1))).2 k) ?_
    refine own_by (T' := T3) (g' := (mkF m 17 #[.val (.ref tb), .val (.ref ca), .val (.int 4), .val (.int nn)] [(.int 1)])) (fun t k => XS.iconst X3.here hx rfl (hb hby d3_16) k) ?_
    refine own_by (T' := T3) (g' := (mkF m 21 #[.val (.ref tb), .val (.ref ca), .val (.int 4), .val (.int nn)] [(.int 1)])) (fun t k => XS.goto X3.here hx rfl (pc0 := 17) (pc' := 21) rfl (hb hby d3_17) (by decide) (by decide) k) ?_
    exact own_retN X3 hx (t := .boolean) Bd.notSynchronized Bd.returns (by simp) (hb hby d3_21) (by decide) (by decide) (by rw [e3]; exact ⟨rfl, N_, rfl⟩)
  · refine own_by (T' := s₁) (g' := (mkF m 16 #[.val (.ref tb), .val (.ref ca), .val (.int 4), .val (.int nn)] [])) (fun t k => XS.icmpYes X0.here hx rfl (pc0 := 2) (pc' := 16) rfl (hb hby d3_2) rfl (flt hc2_1).2.1 (by decide) (by decide) k) ?_
    refine own_by (T' := s₁) (g' := (mkF m 17 #[.val (.ref tb), .val (.ref ca), .val (.int 4), .val (.int nn)] [(.int 1)])) (fun t k => XS.iconst X0.here hx rfl (hb hby d3_16) k) ?_
    refine own_by (T' := s₁) (g' := (mkF m 21 #[.val (.ref tb), .val (.ref ca), .val (.int 4), .val (.int nn)] [(.int 1)])) (fun t k => XS.goto X0.here hx rfl (pc0 := 17) (pc' := 21) rfl (hb hby d3_17) (by decide) (by decide) k) ?_
    exact own_retN X0 hx (t := .boolean) Bd.notSynchronized Bd.returns (by simp) (hb hby d3_21) (by decide) (by decide) (by rw [e0]; exact ⟨rfl, N_, rfl⟩)

def Q3_5 (Z : State) (tb : Addr) (ca : Addr) (nn : Int32) (kc : ClassId) (c0 : Int32) (c1 : Int32) (c2 : Int32) (c3 : Int32) (c4 : Int32) (c5 : Int32) (kb : ClassId) (t1 : Int32) (t2 : Int32) (t3 : Int32) (t4 : Int32) (t5 : Int32) (h0 : Heap) (n0 : Nat) (v : Option Value) (h : Heap) (L : List Loc) : Prop := v = some (.int 1) ∧ Fr n0 L ∧ h = h0
theorem ef_3_5 (m : MethodId) (tb : Addr) (ca : Addr) (nn : Int32) : entryFrame m #[(.ref tb), (.ref ca), (.int 5), (.int nn)] 4 = mkF m 0 #[.val (.ref tb), .val (.ref ca), .val (.int 5), .val (.int nn)] [] := by first | (simp [entryFrame, mkF, argsToLocals, Value.category]; done) | rfl
set_option maxRecDepth 65536 in
set_option maxHeartbeats 40000000 in
theorem rm3_5 (l : Launch) (Z : State) (a0 : Array Value) (hw : ∀ d ∈ tables_1, d.before a0 Z = true) (ws : List Jvm.Cond) (tb : Addr) (ca : Addr) (nn : Int32) (kc : ClassId) (c0 : Int32) (c1 : Int32) (c2 : Int32) (c3 : Int32) (c4 : Int32) (c5 : Int32) (kb : ClassId) (t1 : Int32) (t2 : Int32) (t3 : Int32) (t4 : Int32) (t5 : Int32) (h0 : Heap) (n0 : Nat) (Zle : n0 ≤ h0.size) (V_tb : Arv Z h0 tb kb .int nn [(.int 0), (.int t1), (.int t2), (.int t3), (.int t4), (.int t5)] (.int 0)) (V_ca : Arv Z h0 ca kc .char (6 : Int32) [(.int c0), (.int c1), (.int c2), (.int c3), (.int c4), (.int c5)] (.int 0)) (hB : (5 : Int32) < nn → own_B5 c0 c1 c2 c3 c4 c5 t5) :
    MetFree l (⟨"com/example/emu/emu/PrefixTableOfPinLaw", "ok", "([I[CII)Z"⟩ : MethodName) (head1 (Jvm.Cond.code (⟨"com/example/emu/emu/PrefixTableOfPinLaw", "ok", "([I[CII)Z"⟩ : MethodName) method_3_code 4 (some .boolean) :: ws) ({ frames := 2, cells := 0, slots := 0, locals := 28 } : Room)) (fun a U => a = #[(.ref tb), (.ref ca), (.int 5), (.int nn)] ∧ Z.Warmed39 U.vm ∧ U.heap = h0) (fun _ _ _ _ _ => True) (fun _ U o U' => ∃ v L, o = .returned v ∧ Q3_5 Z tb ca nn kc c0 c1 c2 c3 c4 c5 kb t1 t2 t3 t4 t5 h0 n0 v U'.heap L ∧ FrameEnd U o U' L ({ frames := 2, cells := 0, slots := 0, locals := 28 } : Room).cells ({ frames := 2, cells := 0, slots := 0, locals := 28 } : Room).slots) := by
  refine MetFree.of_bodySF (plainFor_of_name pn_com_example_emu_emu_PrefixTableOfPinLaw) hisR ?_
  intro p e s m args below meth c s₁ Bd hml0 hP hK
  obtain ⟨rfl, hZ, hh⟩ := hP
  have hx := Bd.exec
  have hby := Bd.bytes
  have hml : c.maxLocals = 4 := hml0
  have hown : s.vm.findClass "com/example/emu/emu/PrefixTableOfPinLaw" = some m.cls := findClass_of_methodNamed Bd.named
  have hnm := (name_of_methodNamed Bd.named Bd.method).1
  have X0 : Stand p l e ({ frames := 2, cells := 0, slots := 0, locals := 28 } : Room) s m #[(.ref tb), (.ref ca), (.int 5), (.int nn)] below meth c s₁ [] 0 0 := Stand.of_body Bd
  have e0 : s₁.heap = h0 := by rw [← hh, Bd.state]; rfl
  have N_ := Fr.nil n0
  show own_Goes p.tables e below s (Q3_5 Z tb ca nn kc c0 c1 c2 c3 c4 c5 kb t1 t2 t3 t4 t5 h0 n0) ({ frames := 2, cells := 0, slots := 0, locals := 28 } : Room).cells ({ frames := 2, cells := 0, slots := 0, locals := 28 } : Room).slots s₁ (entryFrame m #[(.ref tb), (.ref ca), (.int 5), (.int nn)] 4)
  refine own_by (T' := s₁) (g' := (mkF m 0 #[.val (.ref tb), .val (.ref ca), .val (.int 5), .val (.int nn)] [])) (fun t k => castTop (ef_3_5 m tb ca nn) k) ?_
  refine own_by (T' := s₁) (g' := (mkF m 1 #[.val (.ref tb), .val (.ref ca), .val (.int 5), .val (.int nn)] [(.int 5)])) (fun t k => XS.iloadN X0.here hx rfl (hb hby d3_0) rfl k) ?_
  refine own_by (T' := s₁) (g' := (mkF m 2 #[.val (.ref tb), .val (.ref ca), .val (.int 5), .val (.int nn)] [(.int nn), (.int 5)])) (fun t k => XS.iloadN X0.here hx rfl (hb hby d3_1) rfl k) ?_
  by_cases hc2_1 : (5 : Int32) < nn
  · refine own_by (T' := s₁) (g' := (mkF m 5 #[.val (.ref tb), .val (.ref ca), .val (.int 5), .val (.int nn)] [])) (fun t k => XS.icmpNo X0.here hx rfl (hb hby d3_2) rfl (tlt hc2_1).2.1 k) ?_
    refine own_by (T' := s₁) (g' := (mkF m 6 #[.val (.ref tb), .val (.ref ca), .val (.int 5), .val (.int nn)] [(.ref tb)])) (fun t k => XS.aloadN X0.here hx rfl (hb hby d3_5) rfl rfl k) ?_
    refine own_by (T' := s₁) (g' := (mkF m 7 #[.val (.ref tb), .val (.ref ca), .val (.int 5), .val (.int nn)] [(.int 5), (.ref tb)])) (fun t k => XS.iloadN X0.here hx rfl (hb hby d3_6) rfl k) ?_
    obtain ⟨cl2, Ar2, q2, S2, N2, Hs2, G2⟩ := id V_tb
    have hin2 : ¬ ((5 : Int32) < 0 ∨ cl2.slots.size ≤ ((5 : Int32)).toNatClampNeg) := inb_of S2 ⟨by decide, hc2_1⟩
    have hat2 : cl2.slots[((5 : Int32)).toNatClampNeg]? = some (.int t5) := Hs2.at hin2 rfl
    refine own_by (T' := s₁) (g' := (mkF m 8 #[.val (.ref tb), .val (.ref ca), .val (.int 5), .val (.int nn)] [(.int t5)])) (fun t k => X0.iaload hx (j := (5 : Int32)) (v := (.int t5)) (by rw [e0]; exact Ar2.1) (State.isArrayOf_alike hZ.alike Ar2.2.1) Ar2.2.2 hin2 hat2 (g := (mkF m 7 #[.val (.ref tb), .val (.ref ca), .val (.int 5), .val (.int nn)] [(.int 5), (.ref tb)])) rfl rfl (hb hby d3_7) _ k) ?_
    clear hat2 hin2 G2 Hs2 N2 S2 q2 Ar2 cl2
    refine own_by (T' := s₁) (g' := (mkF m 9 #[.val (.ref tb), .val (.ref ca), .val (.int 5), .val (.int nn)] [(.ref ca), (.int t5)])) (fun t k => XS.aloadN X0.here hx rfl (hb hby d3_8) rfl rfl k) ?_
    refine own_by (T' := s₁) (g' := (mkF m 10 #[.val (.ref tb), .val (.ref ca), .val (.int 5), .val (.int nn)] [(.int 5), (.ref ca), (.int t5)])) (fun t k => XS.iloadN X0.here hx rfl (hb hby d3_9) rfl k) ?_
    obtain ⟨_, _, ⟨T3, L3, k3, n3⟩, -, X3, ⟨Lc3, hQ3, l3, y3, z3⟩, st3⟩ := Jvm.LawKit.callS X0 hx (y := (⟨"com/example/emu/emu/PrefixTableOfPinLaw", "ref", "([CI)I"⟩ : MethodName)) hown (mvT hZ (hw _ (own_m 23 rfl))) (mvT hZ (hw _ (own_m 24 rfl))) (mvT hZ (hw _ (own_m 21 rfl))) (mvT hZ (hw _ (own_m 25 rfl))) (by decide) (backOf (W := 1) (rm4_5 l Z a0 hw [] ca kc c0 c1 c2 c3 c4 c5 h0 n0 Zle V_ca) hZ (hw _ (own_m 25 rfl)) (hw _ (own_m 21 rfl)) (by decide) (by decide)) (g := (mkF m 10 #[.val (.ref tb), .val (.ref ca), .val (.int 5), .val (.int nn)] [(.int 5), (.ref ca), (.int t5)])) rfl (by rw [hml]; rfl) (argsL := [(.ref ca), (.int 5)]) (rest := [(.int t5)]) (lenOf pd_3 rfl) rfl (own_le rfl) (hb hby d3_10) (fun _ _ => ⟨rfl, e0, (by decide : 0 + 0 ≤ _), (by decide : 0 + 0 ≤ _)⟩)
    dsimp only [Pt.U, Pt.locs, Pt.cells, Pt.slots] at X3 l3 y3 z3 st3 hQ3
    subst l3 y3 z3
    obtain ⟨rfl, Nq3, e3⟩ := hQ3
    replace N_ := Fr.app N_ Nq3
    clear Nq3
    refine own_by (T' := T3) (g' := (mkF m 13 #[.val (.ref tb), .val (.ref ca), .val (.int 5), .val (.int nn)] [(.int (own_ref5 c0 c1 c2 c3 c4 c5)), (.int t5)])) (fun t k => st3 _ k) ?_
    clear st3 X0 e0
    refine own_by (T' := T3) (g' := (mkF m 16 #[.val (.ref tb), .val (.ref ca), .val (.int 5), .val (.int nn)] [])) (fun t k => XS.icmpNo X3.here hx rfl (hb hby d3_13) rfl (teq (own_isref5 (hB hc2_1))).2 k) ?_
    refine own_by (T' := T3) (g' := (mkF m 17 #[.val (.ref tb), .val (.ref ca), .val (.int 5), .val (.int nn)] [(.int 1)])) (fun t k => XS.iconst X3.here hx rfl (hb hby d3_16) k) ?_
    refine own_by (T' := T3) (g' := (mkF m 21 #[.val (.ref tb), .val (.ref ca), .val (.int 5), .val (.int nn)] [(.int 1)])) (fun t k => XS.goto X3.here hx rfl (pc0 := 17) (pc' := 21) rfl (hb hby d3_17) (by decide) (by decide) k) ?_
    exact own_retN X3 hx (t := .boolean) Bd.notSynchronized Bd.returns (by simp) (hb hby d3_21) (by decide) (by decide) (by rw [e3]; exact ⟨rfl, N_, rfl⟩)
  · refine own_by (T' := s₁) (g' := (mkF m 16 #[.val (.ref tb), .val (.ref ca), .val (.int 5), .val (.int nn)] [])) (fun t k => XS.icmpYes X0.here hx rfl (pc0 := 2) (pc' := 16) rfl (hb hby d3_2) rfl (flt hc2_1).2.1 (by decide) (by decide) k) ?_
    refine own_by (T' := s₁) (g' := (mkF m 17 #[.val (.ref tb), .val (.ref ca), .val (.int 5), .val (.int nn)] [(.int 1)])) (fun t k => XS.iconst X0.here hx rfl (hb hby d3_16) k) ?_
    refine own_by (T' := s₁) (g' := (mkF m 21 #[.val (.ref tb), .val (.ref ca), .val (.int 5), .val (.int nn)] [(.int 1)])) (fun t k => XS.goto X0.here hx rfl (pc0 := 17) (pc' := 21) rfl (hb hby d3_17) (by decide) (by decide) k) ?_
    exact own_retN X0 hx (t := .boolean) Bd.notSynchronized Bd.returns (by simp) (hb hby d3_21) (by decide) (by decide) (by rw [e0]; exact ⟨rfl, N_, rfl⟩)

def Q0 (Z : State) (x1 : Int32) (x2 : Int32) (x3 : Int32) (x4 : Int32) (h0 : Heap) (n0 : Nat) (v : Option Value) (h : Heap) (L : List Loc) : Prop := v = some (.int 1) ∧ Fr n0 L
theorem ef_0 (m : MethodId) (x1 : Int32) (x2 : Int32) (x3 : Int32) (x4 : Int32) : entryFrame m #[(.int x1), (.int x2), (.int x3), (.int x4)] maxLocals = mkF m 0 #[.val (.int x1), .val (.int x2), .val (.int x3), .val (.int x4), .unset, .unset, .unset, .unset] [] := by first | (simp [entryFrame, mkF, argsToLocals, Value.category, maxLocals]; done) | rfl
theorem pd_0 : parseMethodDescriptor "([C)[I" = some ⟨[(.array .char)], some (.array .int)⟩ := by decide +kernel
theorem pd_2 : parseMethodDescriptor "([I[CII)Z" = some ⟨[(.array .int), (.array .char), .int, .int], some .boolean⟩ := by decide +kernel
set_option maxRecDepth 65536 in
set_option maxHeartbeats 40000000 in
theorem rm0 (l : Launch) (Z : State) (a0 : Array Value) (hw : ∀ d ∈ tables_1, d.before a0 Z = true) (ws : List Jvm.Cond) (x1 : Int32) (x2 : Int32) (x3 : Int32) (x4 : Int32) (h0 : Heap) (n0 : Nat) (Zle : n0 ≤ h0.size) :
    MetFree l x (head1 (Jvm.Cond.code x code maxLocals ret :: ws) room_1) (fun a U => a = #[(.int x1), (.int x2), (.int x3), (.int x4)] ∧ Z.Warmed39 U.vm ∧ U.heap = h0) (fun _ _ _ _ _ => True) (fun _ U o U' => ∃ v L, o = .returned v ∧ Q0 Z x1 x2 x3 x4 h0 n0 v U'.heap L ∧ ReturnedEndW U o U' L room_1.cells room_1.slots) := by
  refine MetFree.of_bodySF (plainFor_of_name pn_com_example_emu_emu_PrefixTableOfPinLaw) hisR ?_
  intro p e s m args below meth c s₁ Bd hml0 hP hK
  obtain ⟨rfl, hZ, hh⟩ := hP
  have hx := Bd.exec
  have hby := Bd.bytes
  have hml : c.maxLocals = 8 := hml0
  have hown : s.vm.findClass "com/example/emu/emu/PrefixTableOfPinLaw" = some m.cls := findClass_of_methodNamed Bd.named
  have hnm := (name_of_methodNamed Bd.named Bd.method).1
  have X0 : Stand p l e room_1 s m #[(.int x1), (.int x2), (.int x3), (.int x4)] below meth c s₁ [] 0 0 := Stand.of_body Bd
  have e0 : s₁.heap = h0 := by rw [← hh, Bd.state]; rfl
  have hS : s.Since s.vm 0 := (State.WarmedH.refl s).since 0
  have X0 : Stand p l e room_1 (s.setVm s.vm) m #[(.int x1), (.int x2), (.int x3), (.int x4)] below meth c s₁ [] 0 0 := X0
  have hk_ : 0 ≤ h0.size := Nat.zero_le _
  have hZ : Z.Warmed39 (s.setVm s.vm).vm := hZ
  have hown : (s.setVm s.vm).vm.findClass "com/example/emu/emu/PrefixTableOfPinLaw" = some m.cls := hown
  have N_ := Fr.nil n0
  show own_GoesW p.tables e below s (Q0 Z x1 x2 x3 x4 h0 n0) room_1.cells room_1.slots s₁ (entryFrame m #[(.int x1), (.int x2), (.int x3), (.int x4)] maxLocals)
  refine own_byW (T' := s₁) (g' := (mkF m 0 #[.val (.int x1), .val (.int x2), .val (.int x3), .val (.int x4), .unset, .unset, .unset, .unset] [])) (fun t k => castTop (ef_0 m x1 x2 x3 x4) k) ?_
  refine own_byW (T' := s₁) (g' := (mkF m 1 #[.val (.int x1), .val (.int x2), .val (.int x3), .val (.int x4), .unset, .unset, .unset, .unset] [(.int x1)])) (fun t k => XS.iloadN X0.here hx rfl (hb hby at_0) rfl k) ?_
  refine own_byW (T' := s₁) (g' := (mkF m 3 #[.val (.int x1), .val (.int x2), .val (.int x3), .val (.int x4), .unset, .unset, .unset, .unset] [(.int 2147483647), (.int x1)])) (fun t k => X0.ldcInt hx hown (mvT hZ (hw _ (own_m 0 rfl))) (g := (mkF m 1 #[.val (.int x1), .val (.int x2), .val (.int x3), .val (.int x4), .unset, .unset, .unset, .unset] [(.int x1)])) rfl (hb hby at_1) _ k) ?_
  refine own_byW (T' := s₁) (g' := (mkF m 4 #[.val (.int x1), .val (.int x2), .val (.int x3), .val (.int x4), .unset, .unset, .unset, .unset] [(.int (x1 &&& (2147483647 : Int32)))])) (fun t k => XS.iand X0.here hx rfl (hb hby at_3) rfl k) ?_
  refine own_byW (T' := s₁) (g' := (mkF m 6 #[.val (.int x1), .val (.int x2), .val (.int x3), .val (.int x4), .unset, .unset, .unset, .unset] [(.int 7), (.int (x1 &&& (2147483647 : Int32)))])) (fun t k => XS.bipush X0.here hx rfl (hb hby at_4) k) ?_
  refine own_byW (T' := s₁) (g' := (mkF m 7 #[.val (.int x1), .val (.int x2), .val (.int x3), .val (.int x4), .unset, .unset, .unset, .unset] [(.int ((x1 &&& (2147483647 : Int32)) % (7 : Int32)))])) (fun t k => iremM X0 hx rfl (hb hby at_6) rfl (by decide) k) ?_
  refine own_byW (T' := s₁) (g' := (mkF m 9 #[.val (.int x1), .val (.int x2), .val (.int x3), .val (.int x4), .val (.int ((x1 &&& (2147483647 : Int32)) % (7 : Int32))), .unset, .unset, .unset] [])) (fun t k => XS.istore X0.here hx rfl (hb hby at_7) rfl (l' := #[.val (.int x1), .val (.int x2), .val (.int x3), .val (.int x4), .val (.int ((x1 &&& (2147483647 : Int32)) % (7 : Int32))), .unset, .unset, .unset]) rfl k) ?_
  obtain ⟨nn, e_nn⟩ : ∃ z : Int32, z = ((x1 &&& (2147483647 : Int32)) % (7 : Int32)) := ⟨_, rfl⟩
  rw [← e_nn]
  obtain ⟨hn0, hn6, hn7⟩ := own_n x1
  rw [← e_nn] at hn0 hn6 hn7
  refine own_byW (T' := s₁) (g' := (mkF m 11 #[.val (.int x1), .val (.int x2), .val (.int x3), .val (.int x4), .val (.int nn), .unset, .unset, .unset] [(.int 6)])) (fun t k => XS.bipush X0.here hx rfl (hb hby at_9) k) ?_
  obtain ⟨T1, h1, k1, X1, e1, E1, A1, st1⟩ := newP X0 hx hZ (hw _ (own_m 1 rfl)) e0 (g := (mkF m 11 #[.val (.int x1), .val (.int x2), .val (.int x3), .val (.int x4), .val (.int nn), .unset, .unset, .unset] [(.int 6)])) rfl (hb hby at_11) rfl (by decide) (cap := 6) (by decide) (by decide) (by decide) (by decide)
  obtain ⟨b1, g1⟩ : ∃ z, z = h0.size := ⟨_, rfl⟩
  rw [← g1] at A1 st1
  have g_b1 : n0 ≤ b1 := Nat.le_trans Zle (Nat.le_of_eq g1.symm)
  replace Zle := Nat.le_trans Zle E1.1
  replace hk_ := Nat.le_trans hk_ E1.1
  have V_b1 : Arv Z h1 b1 k1 .char (6 : Int32) [(.int 0), (.int 0), (.int 0), (.int 0), (.int 0), (.int 0)] (.int 0) := (Arv.new A1 (by decide)).pad (pad_rep [] (.int 0) 6)
  refine own_byW (T' := T1) (g' := (mkF m 13 #[.val (.int x1), .val (.int x2), .val (.int x3), .val (.int x4), .val (.int nn), .unset, .unset, .unset] [(.ref b1)])) (fun t k => st1 t k) ?_
  clear st1 X0 e0
  refine own_byW (T' := T1) (g' := (mkF m 15 #[.val (.int x1), .val (.int x2), .val (.int x3), .val (.int x4), .val (.int nn), .val (.ref b1), .unset, .unset] [])) (fun t k => XS.astore X1.here hx rfl (hb hby at_13) rfl rfl (l' := #[.val (.int x1), .val (.int x2), .val (.int x3), .val (.int x4), .val (.int nn), .val (.ref b1), .unset, .unset]) rfl k) ?_
  refine own_byW (T' := T1) (g' := (mkF m 17 #[.val (.int x1), .val (.int x2), .val (.int x3), .val (.int x4), .val (.int nn), .val (.ref b1), .unset, .unset] [(.ref b1)])) (fun t k => XS.aload X1.here hx rfl (hb hby at_15) rfl rfl k) ?_
  refine own_byW (T' := T1) (g' := (mkF m 18 #[.val (.int x1), .val (.int x2), .val (.int x3), .val (.int x4), .val (.int nn), .val (.ref b1), .unset, .unset] [(.int 0), (.ref b1)])) (fun t k => XS.iconst X1.here hx rfl (hb hby at_17) k) ?_
  refine own_byW (T' := T1) (g' := (mkF m 19 #[.val (.int x1), .val (.int x2), .val (.int x3), .val (.int x4), .val (.int nn), .val (.ref b1), .unset, .unset] [(.int x2), (.int 0), (.ref b1)])) (fun t k => XS.iloadN X1.here hx rfl (hb hby at_18) rfl k) ?_
  refine own_byW (T' := T1) (g' := (mkF m 20 #[.val (.int x1), .val (.int x2), .val (.int x3), .val (.int x4), .val (.int nn), .val (.ref b1), .unset, .unset] [(.int (x2.toUInt32.toUInt16.toUInt32.toInt32)), (.int 0), (.ref b1)])) (fun t k => XS.i2c X1.here hx rfl (hb hby at_19) rfl k) ?_
  obtain ⟨c0, e_c0⟩ : ∃ z : Int32, z = (x2.toUInt32.toUInt16.toUInt32.toInt32) := ⟨_, rfl⟩
  rw [← e_c0]
  have hnc0 := own_nc x2 e_c0
  obtain ⟨cl2, Ar2, q2, S2, N2, Hs2, G2⟩ := id V_b1
  have hin2 : ¬ ((0 : Int32) < 0 ∨ cl2.slots.size ≤ ((0 : Int32)).toNatClampNeg) := inb_of S2 ⟨by decide, by decide⟩
  obtain ⟨T2, h2, X2, e2, W2, st2⟩ := stC X1 hx hZ e1 Ar2 (j := (0 : Int32)) hin2 (g := (mkF m 20 #[.val (.int x1), .val (.int x2), .val (.int x3), .val (.int x4), .val (.int nn), .val (.ref b1), .unset, .unset] [(.int c0), (.int 0), (.ref b1)])) rfl rfl (hb hby at_20)
  rw [hnc0] at W2
  have V_b1_ : Arv Z h2 b1 k1 .char (6 : Int32) [(.int c0), (.int 0), (.int 0), (.int 0), (.int 0), (.int 0)] (.int 0) := Arv.set Ar2 q2 S2 N2 Hs2 G2 (by rw [← hnc0]; exact fits_nar_char _) W2 0 rfl (Nat.le_of_ble_eq_true rfl)
  replace Zle := Nat.le_trans Zle (Keep.of_wr W2).1
  replace hk_ := Nat.le_trans hk_ (Keep.of_wr W2).1
  replace V_b1 := V_b1_
  clear V_b1_ W2 hin2 G2 Hs2 N2 S2 q2 Ar2
  replace N_ := Fr.snoc X2 N_ g_b1
  refine own_byW (T' := T2) (g' := (mkF m 21 #[.val (.int x1), .val (.int x2), .val (.int x3), .val (.int x4), .val (.int nn), .val (.ref b1), .unset, .unset] [])) (fun t k => st2 t k) ?_
  clear st2 X1 e1
  refine own_byW (T' := T2) (g' := (mkF m 23 #[.val (.int x1), .val (.int x2), .val (.int x3), .val (.int x4), .val (.int nn), .val (.ref b1), .unset, .unset] [(.ref b1)])) (fun t k => XS.aload X2.here hx rfl (hb hby at_21) rfl rfl k) ?_
  refine own_byW (T' := T2) (g' := (mkF m 24 #[.val (.int x1), .val (.int x2), .val (.int x3), .val (.int x4), .val (.int nn), .val (.ref b1), .unset, .unset] [(.int 1), (.ref b1)])) (fun t k => XS.iconst X2.here hx rfl (hb hby at_23) k) ?_
  refine own_byW (T' := T2) (g' := (mkF m 25 #[.val (.int x1), .val (.int x2), .val (.int x3), .val (.int x4), .val (.int nn), .val (.ref b1), .unset, .unset] [(.int x2), (.int 1), (.ref b1)])) (fun t k => XS.iloadN X2.here hx rfl (hb hby at_24) rfl k) ?_
  refine own_byW (T' := T2) (g' := (mkF m 27 #[.val (.int x1), .val (.int x2), .val (.int x3), .val (.int x4), .val (.int nn), .val (.ref b1), .unset, .unset] [(.int 16), (.int x2), (.int 1), (.ref b1)])) (fun t k => XS.bipush X2.here hx rfl (hb hby at_25) k) ?_
  refine own_byW (T' := T2) (g' := (mkF m 28 #[.val (.int x1), .val (.int x2), .val (.int x3), .val (.int x4), .val (.int nn), .val (.ref b1), .unset, .unset] [(.int ((x2.toUInt32 >>> ((16 : Int32) &&& 31).toUInt32).toInt32)), (.int 1), (.ref b1)])) (fun t k => XS.iushr X2.here hx rfl (hb hby at_27) rfl k) ?_
  refine own_byW (T' := T2) (g' := (mkF m 29 #[.val (.int x1), .val (.int x2), .val (.int x3), .val (.int x4), .val (.int nn), .val (.ref b1), .unset, .unset] [(.int (((x2.toUInt32 >>> ((16 : Int32) &&& 31).toUInt32).toInt32).toUInt32.toUInt16.toUInt32.toInt32)), (.int 1), (.ref b1)])) (fun t k => XS.i2c X2.here hx rfl (hb hby at_28) rfl k) ?_
  obtain ⟨c1, e_c1⟩ : ∃ z : Int32, z = (((x2.toUInt32 >>> ((16 : Int32) &&& 31).toUInt32).toInt32).toUInt32.toUInt16.toUInt32.toInt32) := ⟨_, rfl⟩
  rw [← e_c1]
  have hnc1 := own_nc ((x2.toUInt32 >>> ((16 : Int32) &&& 31).toUInt32).toInt32) e_c1
  obtain ⟨cl3, Ar3, q3, S3, N3, Hs3, G3⟩ := id V_b1
  have hin3 : ¬ ((1 : Int32) < 0 ∨ cl3.slots.size ≤ ((1 : Int32)).toNatClampNeg) := inb_of S3 ⟨by decide, by decide⟩
  obtain ⟨T3, h3, X3, e3, W3, st3⟩ := stC X2 hx hZ e2 Ar3 (j := (1 : Int32)) hin3 (g := (mkF m 29 #[.val (.int x1), .val (.int x2), .val (.int x3), .val (.int x4), .val (.int nn), .val (.ref b1), .unset, .unset] [(.int c1), (.int 1), (.ref b1)])) rfl rfl (hb hby at_29)
  rw [hnc1] at W3
  have V_b1_ : Arv Z h3 b1 k1 .char (6 : Int32) [(.int c0), (.int c1), (.int 0), (.int 0), (.int 0), (.int 0)] (.int 0) := Arv.set Ar3 q3 S3 N3 Hs3 G3 (by rw [← hnc1]; exact fits_nar_char _) W3 1 rfl (Nat.le_of_ble_eq_true rfl)
  replace Zle := Nat.le_trans Zle (Keep.of_wr W3).1
  replace hk_ := Nat.le_trans hk_ (Keep.of_wr W3).1
  replace V_b1 := V_b1_
  clear V_b1_ W3 hin3 G3 Hs3 N3 S3 q3 Ar3
  replace N_ := Fr.snoc X3 N_ g_b1
  refine own_byW (T' := T3) (g' := (mkF m 30 #[.val (.int x1), .val (.int x2), .val (.int x3), .val (.int x4), .val (.int nn), .val (.ref b1), .unset, .unset] [])) (fun t k => st3 t k) ?_
  clear st3 X2 e2
  refine own_byW (T' := T3) (g' := (mkF m 32 #[.val (.int x1), .val (.int x2), .val (.int x3), .val (.int x4), .val (.int nn), .val (.ref b1), .unset, .unset] [(.ref b1)])) (fun t k => XS.aload X3.here hx rfl (hb hby at_30) rfl rfl k) ?_
  refine own_byW (T' := T3) (g' := (mkF m 33 #[.val (.int x1), .val (.int x2), .val (.int x3), .val (.int x4), .val (.int nn), .val (.ref b1), .unset, .unset] [(.int 2), (.ref b1)])) (fun t k => XS.iconst X3.here hx rfl (hb hby at_32) k) ?_
  refine own_byW (T' := T3) (g' := (mkF m 34 #[.val (.int x1), .val (.int x2), .val (.int x3), .val (.int x4), .val (.int nn), .val (.ref b1), .unset, .unset] [(.int x3), (.int 2), (.ref b1)])) (fun t k => XS.iloadN X3.here hx rfl (hb hby at_33) rfl k) ?_
  refine own_byW (T' := T3) (g' := (mkF m 35 #[.val (.int x1), .val (.int x2), .val (.int x3), .val (.int x4), .val (.int nn), .val (.ref b1), .unset, .unset] [(.int (x3.toUInt32.toUInt16.toUInt32.toInt32)), (.int 2), (.ref b1)])) (fun t k => XS.i2c X3.here hx rfl (hb hby at_34) rfl k) ?_
  obtain ⟨c2, e_c2⟩ : ∃ z : Int32, z = (x3.toUInt32.toUInt16.toUInt32.toInt32) := ⟨_, rfl⟩
  rw [← e_c2]
  have hnc2 := own_nc x3 e_c2
  obtain ⟨cl4, Ar4, q4, S4, N4, Hs4, G4⟩ := id V_b1
  have hin4 : ¬ ((2 : Int32) < 0 ∨ cl4.slots.size ≤ ((2 : Int32)).toNatClampNeg) := inb_of S4 ⟨by decide, by decide⟩
  obtain ⟨T4, h4, X4, e4, W4, st4⟩ := stC X3 hx hZ e3 Ar4 (j := (2 : Int32)) hin4 (g := (mkF m 35 #[.val (.int x1), .val (.int x2), .val (.int x3), .val (.int x4), .val (.int nn), .val (.ref b1), .unset, .unset] [(.int c2), (.int 2), (.ref b1)])) rfl rfl (hb hby at_35)
  rw [hnc2] at W4
  have V_b1_ : Arv Z h4 b1 k1 .char (6 : Int32) [(.int c0), (.int c1), (.int c2), (.int 0), (.int 0), (.int 0)] (.int 0) := Arv.set Ar4 q4 S4 N4 Hs4 G4 (by rw [← hnc2]; exact fits_nar_char _) W4 2 rfl (Nat.le_of_ble_eq_true rfl)
  replace Zle := Nat.le_trans Zle (Keep.of_wr W4).1
  replace hk_ := Nat.le_trans hk_ (Keep.of_wr W4).1
  replace V_b1 := V_b1_
  clear V_b1_ W4 hin4 G4 Hs4 N4 S4 q4 Ar4
  replace N_ := Fr.snoc X4 N_ g_b1
  refine own_byW (T' := T4) (g' := (mkF m 36 #[.val (.int x1), .val (.int x2), .val (.int x3), .val (.int x4), .val (.int nn), .val (.ref b1), .unset, .unset] [])) (fun t k => st4 t k) ?_
  clear st4 X3 e3
  refine own_byW (T' := T4) (g' := (mkF m 38 #[.val (.int x1), .val (.int x2), .val (.int x3), .val (.int x4), .val (.int nn), .val (.ref b1), .unset, .unset] [(.ref b1)])) (fun t k => XS.aload X4.here hx rfl (hb hby at_36) rfl rfl k) ?_
  refine own_byW (T' := T4) (g' := (mkF m 39 #[.val (.int x1), .val (.int x2), .val (.int x3), .val (.int x4), .val (.int nn), .val (.ref b1), .unset, .unset] [(.int 3), (.ref b1)])) (fun t k => XS.iconst X4.here hx rfl (hb hby at_38) k) ?_
  refine own_byW (T' := T4) (g' := (mkF m 40 #[.val (.int x1), .val (.int x2), .val (.int x3), .val (.int x4), .val (.int nn), .val (.ref b1), .unset, .unset] [(.int x3), (.int 3), (.ref b1)])) (fun t k => XS.iloadN X4.here hx rfl (hb hby at_39) rfl k) ?_
  refine own_byW (T' := T4) (g' := (mkF m 42 #[.val (.int x1), .val (.int x2), .val (.int x3), .val (.int x4), .val (.int nn), .val (.ref b1), .unset, .unset] [(.int 16), (.int x3), (.int 3), (.ref b1)])) (fun t k => XS.bipush X4.here hx rfl (hb hby at_40) k) ?_
  refine own_byW (T' := T4) (g' := (mkF m 43 #[.val (.int x1), .val (.int x2), .val (.int x3), .val (.int x4), .val (.int nn), .val (.ref b1), .unset, .unset] [(.int ((x3.toUInt32 >>> ((16 : Int32) &&& 31).toUInt32).toInt32)), (.int 3), (.ref b1)])) (fun t k => XS.iushr X4.here hx rfl (hb hby at_42) rfl k) ?_
  refine own_byW (T' := T4) (g' := (mkF m 44 #[.val (.int x1), .val (.int x2), .val (.int x3), .val (.int x4), .val (.int nn), .val (.ref b1), .unset, .unset] [(.int (((x3.toUInt32 >>> ((16 : Int32) &&& 31).toUInt32).toInt32).toUInt32.toUInt16.toUInt32.toInt32)), (.int 3), (.ref b1)])) (fun t k => XS.i2c X4.here hx rfl (hb hby at_43) rfl k) ?_
  obtain ⟨c3, e_c3⟩ : ∃ z : Int32, z = (((x3.toUInt32 >>> ((16 : Int32) &&& 31).toUInt32).toInt32).toUInt32.toUInt16.toUInt32.toInt32) := ⟨_, rfl⟩
  rw [← e_c3]
  have hnc3 := own_nc ((x3.toUInt32 >>> ((16 : Int32) &&& 31).toUInt32).toInt32) e_c3
  obtain ⟨cl5, Ar5, q5, S5, N5, Hs5, G5⟩ := id V_b1
  have hin5 : ¬ ((3 : Int32) < 0 ∨ cl5.slots.size ≤ ((3 : Int32)).toNatClampNeg) := inb_of S5 ⟨by decide, by decide⟩
  obtain ⟨T5, h5, X5, e5, W5, st5⟩ := stC X4 hx hZ e4 Ar5 (j := (3 : Int32)) hin5 (g := (mkF m 44 #[.val (.int x1), .val (.int x2), .val (.int x3), .val (.int x4), .val (.int nn), .val (.ref b1), .unset, .unset] [(.int c3), (.int 3), (.ref b1)])) rfl rfl (hb hby at_44)
  rw [hnc3] at W5
  have V_b1_ : Arv Z h5 b1 k1 .char (6 : Int32) [(.int c0), (.int c1), (.int c2), (.int c3), (.int 0), (.int 0)] (.int 0) := Arv.set Ar5 q5 S5 N5 Hs5 G5 (by rw [← hnc3]; exact fits_nar_char _) W5 3 rfl (Nat.le_of_ble_eq_true rfl)
  replace Zle := Nat.le_trans Zle (Keep.of_wr W5).1
  replace hk_ := Nat.le_trans hk_ (Keep.of_wr W5).1
  replace V_b1 := V_b1_
  clear V_b1_ W5 hin5 G5 Hs5 N5 S5 q5 Ar5
  replace N_ := Fr.snoc X5 N_ g_b1
  refine own_byW (T' := T5) (g' := (mkF m 45 #[.val (.int x1), .val (.int x2), .val (.int x3), .val (.int x4), .val (.int nn), .val (.ref b1), .unset, .unset] [])) (fun t k => st5 t k) ?_
  clear st5 X4 e4
  refine own_byW (T' := T5) (g' := (mkF m 47 #[.val (.int x1), .val (.int x2), .val (.int x3), .val (.int x4), .val (.int nn), .val (.ref b1), .unset, .unset] [(.ref b1)])) (fun t k => XS.aload X5.here hx rfl (hb hby at_45) rfl rfl k) ?_
  refine own_byW (T' := T5) (g' := (mkF m 48 #[.val (.int x1), .val (.int x2), .val (.int x3), .val (.int x4), .val (.int nn), .val (.ref b1), .unset, .unset] [(.int 4), (.ref b1)])) (fun t k => XS.iconst X5.here hx rfl (hb hby at_47) k) ?_
  refine own_byW (T' := T5) (g' := (mkF m 49 #[.val (.int x1), .val (.int x2), .val (.int x3), .val (.int x4), .val (.int nn), .val (.ref b1), .unset, .unset] [(.int x4), (.int 4), (.ref b1)])) (fun t k => XS.iloadN X5.here hx rfl (hb hby at_48) rfl k) ?_
  refine own_byW (T' := T5) (g' := (mkF m 50 #[.val (.int x1), .val (.int x2), .val (.int x3), .val (.int x4), .val (.int nn), .val (.ref b1), .unset, .unset] [(.int (x4.toUInt32.toUInt16.toUInt32.toInt32)), (.int 4), (.ref b1)])) (fun t k => XS.i2c X5.here hx rfl (hb hby at_49) rfl k) ?_
  obtain ⟨c4, e_c4⟩ : ∃ z : Int32, z = (x4.toUInt32.toUInt16.toUInt32.toInt32) := ⟨_, rfl⟩
  rw [← e_c4]
  have hnc4 := own_nc x4 e_c4
  obtain ⟨cl6, Ar6, q6, S6, N6, Hs6, G6⟩ := id V_b1
  have hin6 : ¬ ((4 : Int32) < 0 ∨ cl6.slots.size ≤ ((4 : Int32)).toNatClampNeg) := inb_of S6 ⟨by decide, by decide⟩
  obtain ⟨T6, h6, X6, e6, W6, st6⟩ := stC X5 hx hZ e5 Ar6 (j := (4 : Int32)) hin6 (g := (mkF m 50 #[.val (.int x1), .val (.int x2), .val (.int x3), .val (.int x4), .val (.int nn), .val (.ref b1), .unset, .unset] [(.int c4), (.int 4), (.ref b1)])) rfl rfl (hb hby at_50)
  rw [hnc4] at W6
  have V_b1_ : Arv Z h6 b1 k1 .char (6 : Int32) [(.int c0), (.int c1), (.int c2), (.int c3), (.int c4), (.int 0)] (.int 0) := Arv.set Ar6 q6 S6 N6 Hs6 G6 (by rw [← hnc4]; exact fits_nar_char _) W6 4 rfl (Nat.le_of_ble_eq_true rfl)
  replace Zle := Nat.le_trans Zle (Keep.of_wr W6).1
  replace hk_ := Nat.le_trans hk_ (Keep.of_wr W6).1
  replace V_b1 := V_b1_
  clear V_b1_ W6 hin6 G6 Hs6 N6 S6 q6 Ar6
  replace N_ := Fr.snoc X6 N_ g_b1
  refine own_byW (T' := T6) (g' := (mkF m 51 #[.val (.int x1), .val (.int x2), .val (.int x3), .val (.int x4), .val (.int nn), .val (.ref b1), .unset, .unset] [])) (fun t k => st6 t k) ?_
  clear st6 X5 e5
  refine own_byW (T' := T6) (g' := (mkF m 53 #[.val (.int x1), .val (.int x2), .val (.int x3), .val (.int x4), .val (.int nn), .val (.ref b1), .unset, .unset] [(.ref b1)])) (fun t k => XS.aload X6.here hx rfl (hb hby at_51) rfl rfl k) ?_
  refine own_byW (T' := T6) (g' := (mkF m 54 #[.val (.int x1), .val (.int x2), .val (.int x3), .val (.int x4), .val (.int nn), .val (.ref b1), .unset, .unset] [(.int 5), (.ref b1)])) (fun t k => XS.iconst X6.here hx rfl (hb hby at_53) k) ?_
  refine own_byW (T' := T6) (g' := (mkF m 55 #[.val (.int x1), .val (.int x2), .val (.int x3), .val (.int x4), .val (.int nn), .val (.ref b1), .unset, .unset] [(.int x4), (.int 5), (.ref b1)])) (fun t k => XS.iloadN X6.here hx rfl (hb hby at_54) rfl k) ?_
  refine own_byW (T' := T6) (g' := (mkF m 57 #[.val (.int x1), .val (.int x2), .val (.int x3), .val (.int x4), .val (.int nn), .val (.ref b1), .unset, .unset] [(.int 16), (.int x4), (.int 5), (.ref b1)])) (fun t k => XS.bipush X6.here hx rfl (hb hby at_55) k) ?_
  refine own_byW (T' := T6) (g' := (mkF m 58 #[.val (.int x1), .val (.int x2), .val (.int x3), .val (.int x4), .val (.int nn), .val (.ref b1), .unset, .unset] [(.int ((x4.toUInt32 >>> ((16 : Int32) &&& 31).toUInt32).toInt32)), (.int 5), (.ref b1)])) (fun t k => XS.iushr X6.here hx rfl (hb hby at_57) rfl k) ?_
  refine own_byW (T' := T6) (g' := (mkF m 59 #[.val (.int x1), .val (.int x2), .val (.int x3), .val (.int x4), .val (.int nn), .val (.ref b1), .unset, .unset] [(.int (((x4.toUInt32 >>> ((16 : Int32) &&& 31).toUInt32).toInt32).toUInt32.toUInt16.toUInt32.toInt32)), (.int 5), (.ref b1)])) (fun t k => XS.i2c X6.here hx rfl (hb hby at_58) rfl k) ?_
  obtain ⟨c5, e_c5⟩ : ∃ z : Int32, z = (((x4.toUInt32 >>> ((16 : Int32) &&& 31).toUInt32).toInt32).toUInt32.toUInt16.toUInt32.toInt32) := ⟨_, rfl⟩
  rw [← e_c5]
  have hnc5 := own_nc ((x4.toUInt32 >>> ((16 : Int32) &&& 31).toUInt32).toInt32) e_c5
  obtain ⟨cl7, Ar7, q7, S7, N7, Hs7, G7⟩ := id V_b1
  have hin7 : ¬ ((5 : Int32) < 0 ∨ cl7.slots.size ≤ ((5 : Int32)).toNatClampNeg) := inb_of S7 ⟨by decide, by decide⟩
  obtain ⟨T7, h7, X7, e7, W7, st7⟩ := stC X6 hx hZ e6 Ar7 (j := (5 : Int32)) hin7 (g := (mkF m 59 #[.val (.int x1), .val (.int x2), .val (.int x3), .val (.int x4), .val (.int nn), .val (.ref b1), .unset, .unset] [(.int c5), (.int 5), (.ref b1)])) rfl rfl (hb hby at_59)
  rw [hnc5] at W7
  have V_b1_ : Arv Z h7 b1 k1 .char (6 : Int32) [(.int c0), (.int c1), (.int c2), (.int c3), (.int c4), (.int c5)] (.int 0) := Arv.set Ar7 q7 S7 N7 Hs7 G7 (by rw [← hnc5]; exact fits_nar_char _) W7 5 rfl (Nat.le_of_ble_eq_true rfl)
  replace Zle := Nat.le_trans Zle (Keep.of_wr W7).1
  replace hk_ := Nat.le_trans hk_ (Keep.of_wr W7).1
  replace V_b1 := V_b1_
  clear V_b1_ W7 hin7 G7 Hs7 N7 S7 q7 Ar7
  replace N_ := Fr.snoc X7 N_ g_b1
  refine own_byW (T' := T7) (g' := (mkF m 60 #[.val (.int x1), .val (.int x2), .val (.int x3), .val (.int x4), .val (.int nn), .val (.ref b1), .unset, .unset] [])) (fun t k => st7 t k) ?_
  clear st7 X6 e6
  refine own_byW (T' := T7) (g' := (mkF m 62 #[.val (.int x1), .val (.int x2), .val (.int x3), .val (.int x4), .val (.int nn), .val (.ref b1), .unset, .unset] [(.int nn)])) (fun t k => XS.iload X7.here hx rfl (hb hby at_60) rfl k) ?_
  obtain ⟨T8, h8, k8, X8, e8, E8, A8, st8⟩ := newP X7 hx hZ (hw _ (own_m 1 rfl)) e7 (g := (mkF m 62 #[.val (.int x1), .val (.int x2), .val (.int x3), .val (.int x4), .val (.int nn), .val (.ref b1), .unset, .unset] [(.int nn)])) rfl (hb hby at_62) rfl hn0 (cap := 6) hn6 (by decide) (by decide) (by decide)
  obtain ⟨b8, g8⟩ : ∃ z, z = h7.size := ⟨_, rfl⟩
  rw [← g8] at A8 st8
  have ne_b1_b8 : b1 ≠ b8 := Nat.ne_of_lt (Nat.lt_of_lt_of_eq V_b1.lt g8.symm)
  have g_b8 : n0 ≤ b8 := Nat.le_trans Zle (Nat.le_of_eq g8.symm)
  replace Zle := Nat.le_trans Zle E8.1
  replace hk_ := Nat.le_trans hk_ E8.1
  replace V_b1 := V_b1.ext E8
  have V_b8 : Arv Z h8 b8 k8 .char nn [(.int 0), (.int 0), (.int 0), (.int 0), (.int 0), (.int 0)] (.int 0) := (Arv.new A8 hn0).pad (pad_rep [] (.int 0) 6)
  refine own_byW (T' := T8) (g' := (mkF m 64 #[.val (.int x1), .val (.int x2), .val (.int x3), .val (.int x4), .val (.int nn), .val (.ref b1), .unset, .unset] [(.ref b8)])) (fun t k => st8 t k) ?_
  clear st8 X7 e7
  refine own_byW (T' := T8) (g' := (mkF m 66 #[.val (.int x1), .val (.int x2), .val (.int x3), .val (.int x4), .val (.int nn), .val (.ref b1), .val (.ref b8), .unset] [])) (fun t k => XS.astore X8.here hx rfl (hb hby at_64) rfl rfl (l' := #[.val (.int x1), .val (.int x2), .val (.int x3), .val (.int x4), .val (.int nn), .val (.ref b1), .val (.ref b8), .unset]) rfl k) ?_
  have JP79 : ∀ (T' : State) (h' : Heap) (locs' : List Loc), Stand p l e room_1 (s.setVm s.vm) m #[(.int x1), (.int x2), (.int x3), (.int x4)] below meth c T' locs' 2 12 → T'.heap = h' → Fr n0 locs' → n0 ≤ h'.size → Arv Z h' b8 k8 .char nn [(.int c0), (.int 0), (.int 0), (.int 0), (.int 0), (.int 0)] (.int 0) → Arv Z h' b1 k1 .char 6 [(.int c0), (.int c1), (.int c2), (.int c3), (.int c4), (.int c5)] (.int 0) → own_GoesW p.tables e below s (Q0 Z x1 x2 x3 x4 h0 n0) room_1.cells room_1.slots T' (mkF m 79 #[.val (.int x1), .val (.int x2), .val (.int x3), .val (.int x4), .val (.int nn), .val (.ref b1), .val (.ref b8), .unset] []) := by
    intro T_79 h_79 locs_79 X_79 e_79 N_ Zle V_b8 V_b1
    have hk_ : 0 ≤ h_79.size := Nat.zero_le _
    have JP93 : ∀ (T' : State) (h' : Heap) (locs' : List Loc), Stand p l e room_1 (s.setVm s.vm) m #[(.int x1), (.int x2), (.int x3), (.int x4)] below meth c T' locs' 2 12 → T'.heap = h' → Fr n0 locs' → n0 ≤ h'.size → Arv Z h' b8 k8 .char nn [(.int c0), (.int c1), (.int 0), (.int 0), (.int 0), (.int 0)] (.int 0) → Arv Z h' b1 k1 .char 6 [(.int c0), (.int c1), (.int c2), (.int c3), (.int c4), (.int c5)] (.int 0) → own_GoesW p.tables e below s (Q0 Z x1 x2 x3 x4 h0 n0) room_1.cells room_1.slots T' (mkF m 93 #[.val (.int x1), .val (.int x2), .val (.int x3), .val (.int x4), .val (.int nn), .val (.ref b1), .val (.ref b8), .unset] []) := by
      intro T_93 h_93 locs_93 X_93 e_93 N_ Zle V_b8 V_b1
      have hk_ : 0 ≤ h_93.size := Nat.zero_le _
      have JP107 : ∀ (T' : State) (h' : Heap) (locs' : List Loc), Stand p l e room_1 (s.setVm s.vm) m #[(.int x1), (.int x2), (.int x3), (.int x4)] below meth c T' locs' 2 12 → T'.heap = h' → Fr n0 locs' → n0 ≤ h'.size → Arv Z h' b8 k8 .char nn [(.int c0), (.int c1), (.int c2), (.int 0), (.int 0), (.int 0)] (.int 0) → Arv Z h' b1 k1 .char 6 [(.int c0), (.int c1), (.int c2), (.int c3), (.int c4), (.int c5)] (.int 0) → own_GoesW p.tables e below s (Q0 Z x1 x2 x3 x4 h0 n0) room_1.cells room_1.slots T' (mkF m 107 #[.val (.int x1), .val (.int x2), .val (.int x3), .val (.int x4), .val (.int nn), .val (.ref b1), .val (.ref b8), .unset] []) := by
        intro T_107 h_107 locs_107 X_107 e_107 N_ Zle V_b8 V_b1
        have hk_ : 0 ≤ h_107.size := Nat.zero_le _
        have JP121 : ∀ (T' : State) (h' : Heap) (locs' : List Loc), Stand p l e room_1 (s.setVm s.vm) m #[(.int x1), (.int x2), (.int x3), (.int x4)] below meth c T' locs' 2 12 → T'.heap = h' → Fr n0 locs' → n0 ≤ h'.size → Arv Z h' b8 k8 .char nn [(.int c0), (.int c1), (.int c2), (.int c3), (.int 0), (.int 0)] (.int 0) → Arv Z h' b1 k1 .char 6 [(.int c0), (.int c1), (.int c2), (.int c3), (.int c4), (.int c5)] (.int 0) → own_GoesW p.tables e below s (Q0 Z x1 x2 x3 x4 h0 n0) room_1.cells room_1.slots T' (mkF m 121 #[.val (.int x1), .val (.int x2), .val (.int x3), .val (.int x4), .val (.int nn), .val (.ref b1), .val (.ref b8), .unset] []) := by
          intro T_121 h_121 locs_121 X_121 e_121 N_ Zle V_b8 V_b1
          have hk_ : 0 ≤ h_121.size := Nat.zero_le _
          have JP135 : ∀ (T' : State) (h' : Heap) (locs' : List Loc), Stand p l e room_1 (s.setVm s.vm) m #[(.int x1), (.int x2), (.int x3), (.int x4)] below meth c T' locs' 2 12 → T'.heap = h' → Fr n0 locs' → n0 ≤ h'.size → Arv Z h' b8 k8 .char nn [(.int c0), (.int c1), (.int c2), (.int c3), (.int c4), (.int 0)] (.int 0) → Arv Z h' b1 k1 .char 6 [(.int c0), (.int c1), (.int c2), (.int c3), (.int c4), (.int c5)] (.int 0) → own_GoesW p.tables e below s (Q0 Z x1 x2 x3 x4 h0 n0) room_1.cells room_1.slots T' (mkF m 135 #[.val (.int x1), .val (.int x2), .val (.int x3), .val (.int x4), .val (.int nn), .val (.ref b1), .val (.ref b8), .unset] []) := by
            intro T_135 h_135 locs_135 X_135 e_135 N_ Zle V_b8 V_b1
            have hk_ : 0 ≤ h_135.size := Nat.zero_le _
            have JP149 : ∀ (T' : State) (h' : Heap) (locs' : List Loc), Stand p l e room_1 (s.setVm s.vm) m #[(.int x1), (.int x2), (.int x3), (.int x4)] below meth c T' locs' 2 12 → T'.heap = h' → Fr n0 locs' → n0 ≤ h'.size → Arv Z h' b8 k8 .char nn [(.int c0), (.int c1), (.int c2), (.int c3), (.int c4), (.int c5)] (.int 0) → Arv Z h' b1 k1 .char 6 [(.int c0), (.int c1), (.int c2), (.int c3), (.int c4), (.int c5)] (.int 0) → own_GoesW p.tables e below s (Q0 Z x1 x2 x3 x4 h0 n0) room_1.cells room_1.slots T' (mkF m 149 #[.val (.int x1), .val (.int x2), .val (.int x3), .val (.int x4), .val (.int nn), .val (.ref b1), .val (.ref b8), .unset] []) := by
              intro T_149 h_149 locs_149 X_149 e_149 N_ Zle V_b8 V_b1
              have hk_ : 0 ≤ h_149.size := Nat.zero_le _
              refine own_byW (T' := T_149) (g' := (mkF m 151 #[.val (.int x1), .val (.int x2), .val (.int x3), .val (.int x4), .val (.int nn), .val (.ref b1), .val (.ref b8), .unset] [(.ref b8)])) (fun t k => XS.aload X_149.here hx rfl (hb hby at_149) rfl rfl k) ?_
              clear X8 e8
              have lt_b1_9 := V_b1.lt
              have lt_b8_9 := V_b8.lt
              have Zpre9 := Zle
              obtain ⟨_, _, ⟨T9, L9, k9, n9⟩, -, X9, hS9, hg9, ⟨Lc9, hQ9, l9, y9, z9⟩, st9⟩ := callSS X_149 hx (y := (⟨"com/example/emu/emu/PrefixTable", "of", "([C)[I"⟩ : MethodName)) hown (mvT hZ (hw _ (own_m 2 rfl))) (mvT hZ (hw _ (own_m 3 rfl))) (mvT hZ (hw _ (own_m 4 rfl))) (mvT hZ (hw _ (own_m 5 rfl))) (by decide) (backOfS (W := 0) (rm1 l Z a0 hw [] b8 nn k8 c0 c1 c2 c3 c4 c5 h_149 n0 Zle V_b8 (hn0) (hn6) (hn7)) hZ (hw _ (own_m 5 rfl)) (hw _ (own_m 4 rfl)) (by decide) (by decide)) (g := (mkF m 151 #[.val (.int x1), .val (.int x2), .val (.int x3), .val (.int x4), .val (.int nn), .val (.ref b1), .val (.ref b8), .unset] [(.ref b8)])) rfl (by rw [hml]; rfl) (argsL := [(.ref b8)]) (rest := []) (lenOf pd_0 rfl) rfl (own_le rfl) (hb hby at_151) (fun _ _ => ⟨rfl, e_149, (by decide : 2 + 3 ≤ _), (by decide : 12 + 38 ≤ _)⟩)
              dsimp only [Pt.U, Pt.locs, Pt.cells, Pt.slots] at X9 l9 y9 z9 st9 hQ9 hS9 hg9
              subst l9 y9 z9
              have hS := foldS (T := T_149) hS (by rw [e_149]; exact hk_) hS9 hg9
              have hZ : Z.Warmed39 (s.setVm T9.vm).vm := State.Warmed39.trans (t := s.setVm _) hZ hS9.1
              have hown : (s.setVm T9.vm).vm.findClass "com/example/emu/emu/PrefixTableOfPinLaw" = some m.cls := by rw [show (s.setVm T9.vm).vm = T9.vm from rfl, hS9.1.alike.findClass]; exact hown
              obtain ⟨tb_9, t1_9, t2_9, t3_9, t4_9, t5_9, kb_9, rfl, Nq9, c9_0, c9_1, c9_2, c9_3, c9_4, c9_5, c9_6, c9_7⟩ := hQ9
              replace N_ := Fr.app N_ Nq9
              clear Nq9
              replace Zle := Nat.le_trans Zle c9_0.1
              replace V_b1 := V_b1.keep c9_0 nin0
              replace V_b8 := V_b8.keep c9_0 nin0
              have ne_b1_tb_9 : b1 ≠ tb_9 := Nat.ne_of_lt (Nat.lt_of_lt_of_le lt_b1_9 c9_1)
              have ne_b8_tb_9 : b8 ≠ tb_9 := Nat.ne_of_lt (Nat.lt_of_lt_of_le lt_b8_9 c9_1)
              have g_tb_9 : n0 ≤ tb_9 := Nat.le_trans Zpre9 c9_1
              have HB1 := c9_3
              have HB2 := c9_4
              have HB3 := c9_5
              have HB4 := c9_6
              have HB5 := c9_7
              clear lt_b1_9 lt_b8_9
              have hk_ : T9.heap.size ≤ T9.heap.size := Nat.le_refl _
              refine own_byW (T' := T9) (g' := (mkF m 154 #[.val (.int x1), .val (.int x2), .val (.int x3), .val (.int x4), .val (.int nn), .val (.ref b1), .val (.ref b8), .unset] [(.ref tb_9)])) (fun t k => st9.trans k) ?_
              clear st9 X_149 e_149
              refine own_byW (T' := T9) (g' := (mkF m 156 #[.val (.int x1), .val (.int x2), .val (.int x3), .val (.int x4), .val (.int nn), .val (.ref b1), .val (.ref b8), .val (.ref tb_9)] [])) (fun t k => XS.astore X9.here hx rfl (hb hby at_154) rfl rfl (l' := #[.val (.int x1), .val (.int x2), .val (.int x3), .val (.int x4), .val (.int nn), .val (.ref b1), .val (.ref b8), .val (.ref tb_9)]) rfl k) ?_
              refine own_byW (T' := T9) (g' := (mkF m 158 #[.val (.int x1), .val (.int x2), .val (.int x3), .val (.int x4), .val (.int nn), .val (.ref b1), .val (.ref b8), .val (.ref tb_9)] [(.ref tb_9)])) (fun t k => XS.aload X9.here hx rfl (hb hby at_156) rfl rfl k) ?_
              refine own_byW (T' := T9) (g' := (mkF m 161 #[.val (.int x1), .val (.int x2), .val (.int x3), .val (.int x4), .val (.int nn), .val (.ref b1), .val (.ref b8), .val (.ref tb_9)] [])) (fun t k => XS.ifnullNo X9.here hx rfl (hb hby at_158) rfl k) ?_
              refine own_byW (T' := T9) (g' := (mkF m 163 #[.val (.int x1), .val (.int x2), .val (.int x3), .val (.int x4), .val (.int nn), .val (.ref b1), .val (.ref b8), .val (.ref tb_9)] [(.ref tb_9)])) (fun t k => XS.aload X9.here hx rfl (hb hby at_161) rfl rfl k) ?_
              obtain ⟨cl10, Ar10, -, S10, N10, -, -⟩ := id c9_2
              have st10 : ∀ t, Steps p.tables e below (T9.setTop (mkF m 164 #[.val (.int x1), .val (.int x2), .val (.int x3), .val (.int x4), .val (.int nn), .val (.ref b1), .val (.ref b8), .val (.ref tb_9)] [(.int nn)])) t → Steps p.tables e below (T9.setTop (mkF m 163 #[.val (.int x1), .val (.int x2), .val (.int x3), .val (.int x4), .val (.int nn), .val (.ref b1), .val (.ref b8), .val (.ref tb_9)] [(.ref tb_9)])) t := fun t k => X9.arraylength hx (by exact Ar10.1) (State.isArrayOf_alike hZ.alike Ar10.2.1) (g := (mkF m 163 #[.val (.int x1), .val (.int x2), .val (.int x3), .val (.int x4), .val (.int nn), .val (.ref b1), .val (.ref b8), .val (.ref tb_9)] [(.ref tb_9)])) rfl rfl (hb hby at_163) _ (by rw [len_of S10 N10]; exact k)
              refine own_byW (T' := T9) (g' := (mkF m 164 #[.val (.int x1), .val (.int x2), .val (.int x3), .val (.int x4), .val (.int nn), .val (.ref b1), .val (.ref b8), .val (.ref tb_9)] [(.int nn)])) (fun t k => st10 t k) ?_
              clear st10
              refine own_byW (T' := T9) (g' := (mkF m 166 #[.val (.int x1), .val (.int x2), .val (.int x3), .val (.int x4), .val (.int nn), .val (.ref b1), .val (.ref b8), .val (.ref tb_9)] [(.int nn), (.int nn)])) (fun t k => XS.iload X9.here hx rfl (hb hby at_164) rfl k) ?_
              refine own_byW (T' := T9) (g' := (mkF m 171 #[.val (.int x1), .val (.int x2), .val (.int x3), .val (.int x4), .val (.int nn), .val (.ref b1), .val (.ref b8), .val (.ref tb_9)] [])) (fun t k => XS.icmpYes X9.here hx rfl (pc0 := 166) (pc' := 171) rfl (hb hby at_166) rfl (teq (rfl : nn = nn)).1 (by decide) (by decide) k) ?_
              refine own_byW (T' := T9) (g' := (mkF m 173 #[.val (.int x1), .val (.int x2), .val (.int x3), .val (.int x4), .val (.int nn), .val (.ref b1), .val (.ref b8), .val (.ref tb_9)] [(.ref tb_9)])) (fun t k => XS.aload X9.here hx rfl (hb hby at_171) rfl rfl k) ?_
              refine own_byW (T' := T9) (g' := (mkF m 175 #[.val (.int x1), .val (.int x2), .val (.int x3), .val (.int x4), .val (.int nn), .val (.ref b1), .val (.ref b8), .val (.ref tb_9)] [(.ref b1), (.ref tb_9)])) (fun t k => XS.aload X9.here hx rfl (hb hby at_173) rfl rfl k) ?_
              refine own_byW (T' := T9) (g' := (mkF m 176 #[.val (.int x1), .val (.int x2), .val (.int x3), .val (.int x4), .val (.int nn), .val (.ref b1), .val (.ref b8), .val (.ref tb_9)] [(.int 0), (.ref b1), (.ref tb_9)])) (fun t k => XS.iconst X9.here hx rfl (hb hby at_175) k) ?_
              refine own_byW (T' := T9) (g' := (mkF m 178 #[.val (.int x1), .val (.int x2), .val (.int x3), .val (.int x4), .val (.int nn), .val (.ref b1), .val (.ref b8), .val (.ref tb_9)] [(.int nn), (.int 0), (.ref b1), (.ref tb_9)])) (fun t k => XS.iload X9.here hx rfl (hb hby at_176) rfl k) ?_
              obtain ⟨_, _, ⟨T11, L11, k11, n11⟩, -, X11, ⟨Lc11, hQ11, l11, y11, z11⟩, st11⟩ := Jvm.LawKit.callS X9 hx (y := (⟨"com/example/emu/emu/PrefixTableOfPinLaw", "ok", "([I[CII)Z"⟩ : MethodName)) hown (mvT hZ (hw _ (own_m 19 rfl))) (mvT hZ (hw _ (own_m 20 rfl))) (mvT hZ (hw _ (own_m 21 rfl))) (mvT hZ (hw _ (own_m 22 rfl))) (by decide) (backOf (W := 0) (rm3_0 l Z a0 hw [] tb_9 b1 nn k1 c0 c1 c2 c3 c4 c5 kb_9 t1_9 t2_9 t3_9 t4_9 t5_9 T9.heap n0 Zle c9_2 V_b1) hZ (hw _ (own_m 22 rfl)) (hw _ (own_m 21 rfl)) (by decide) (by decide)) (g := (mkF m 178 #[.val (.int x1), .val (.int x2), .val (.int x3), .val (.int x4), .val (.int nn), .val (.ref b1), .val (.ref b8), .val (.ref tb_9)] [(.int nn), (.int 0), (.ref b1), (.ref tb_9)])) rfl (by rw [hml]; rfl) (argsL := [(.ref tb_9), (.ref b1), (.int 0), (.int nn)]) (rest := []) (lenOf pd_2 rfl) rfl (own_le rfl) (hb hby at_178) (fun _ _ => ⟨rfl, rfl, (by decide : 5 + 0 ≤ _), (by decide : 50 + 0 ≤ _)⟩)
              dsimp only [Pt.U, Pt.locs, Pt.cells, Pt.slots] at X11 l11 y11 z11 st11 hQ11
              subst l11 y11 z11
              obtain ⟨rfl, Nq11, e11⟩ := hQ11
              replace N_ := Fr.app N_ Nq11
              clear Nq11
              refine own_byW (T' := T11) (g' := (mkF m 181 #[.val (.int x1), .val (.int x2), .val (.int x3), .val (.int x4), .val (.int nn), .val (.ref b1), .val (.ref b8), .val (.ref tb_9)] [(.int 1)])) (fun t k => st11 _ k) ?_
              clear st11 X9
              refine own_byW (T' := T11) (g' := (mkF m 184 #[.val (.int x1), .val (.int x2), .val (.int x3), .val (.int x4), .val (.int nn), .val (.ref b1), .val (.ref b8), .val (.ref tb_9)] [])) (fun t k => XS.ifNo X11.here hx rfl (hb hby at_181) rfl ((if0 _ _).trans (feq (by decide)).1) k) ?_
              refine own_byW (T' := T11) (g' := (mkF m 186 #[.val (.int x1), .val (.int x2), .val (.int x3), .val (.int x4), .val (.int nn), .val (.ref b1), .val (.ref b8), .val (.ref tb_9)] [(.ref tb_9)])) (fun t k => XS.aload X11.here hx rfl (hb hby at_184) rfl rfl k) ?_
              refine own_byW (T' := T11) (g' := (mkF m 188 #[.val (.int x1), .val (.int x2), .val (.int x3), .val (.int x4), .val (.int nn), .val (.ref b1), .val (.ref b8), .val (.ref tb_9)] [(.ref b1), (.ref tb_9)])) (fun t k => XS.aload X11.here hx rfl (hb hby at_186) rfl rfl k) ?_
              refine own_byW (T' := T11) (g' := (mkF m 189 #[.val (.int x1), .val (.int x2), .val (.int x3), .val (.int x4), .val (.int nn), .val (.ref b1), .val (.ref b8), .val (.ref tb_9)] [(.int 1), (.ref b1), (.ref tb_9)])) (fun t k => XS.iconst X11.here hx rfl (hb hby at_188) k) ?_
              refine own_byW (T' := T11) (g' := (mkF m 191 #[.val (.int x1), .val (.int x2), .val (.int x3), .val (.int x4), .val (.int nn), .val (.ref b1), .val (.ref b8), .val (.ref tb_9)] [(.int nn), (.int 1), (.ref b1), (.ref tb_9)])) (fun t k => XS.iload X11.here hx rfl (hb hby at_189) rfl k) ?_
              obtain ⟨_, _, ⟨T12, L12, k12, n12⟩, -, X12, ⟨Lc12, hQ12, l12, y12, z12⟩, st12⟩ := Jvm.LawKit.callS X11 hx (y := (⟨"com/example/emu/emu/PrefixTableOfPinLaw", "ok", "([I[CII)Z"⟩ : MethodName)) hown (mvT hZ (hw _ (own_m 19 rfl))) (mvT hZ (hw _ (own_m 20 rfl))) (mvT hZ (hw _ (own_m 21 rfl))) (mvT hZ (hw _ (own_m 22 rfl))) (by decide) (backOf (W := 0) (rm3_1 l Z a0 hw [] tb_9 b1 nn k1 c0 c1 c2 c3 c4 c5 kb_9 t1_9 t2_9 t3_9 t4_9 t5_9 T9.heap n0 Zle c9_2 V_b1 (HB1)) hZ (hw _ (own_m 22 rfl)) (hw _ (own_m 21 rfl)) (by decide) (by decide)) (g := (mkF m 191 #[.val (.int x1), .val (.int x2), .val (.int x3), .val (.int x4), .val (.int nn), .val (.ref b1), .val (.ref b8), .val (.ref tb_9)] [(.int nn), (.int 1), (.ref b1), (.ref tb_9)])) rfl (by rw [hml]; rfl) (argsL := [(.ref tb_9), (.ref b1), (.int 1), (.int nn)]) (rest := []) (lenOf pd_2 rfl) rfl (own_le rfl) (hb hby at_191) (fun _ _ => ⟨rfl, e11, (by decide : 5 + 0 ≤ _), (by decide : 50 + 0 ≤ _)⟩)
              dsimp only [Pt.U, Pt.locs, Pt.cells, Pt.slots] at X12 l12 y12 z12 st12 hQ12
              subst l12 y12 z12
              obtain ⟨rfl, Nq12, e12⟩ := hQ12
              replace N_ := Fr.app N_ Nq12
              clear Nq12
              refine own_byW (T' := T12) (g' := (mkF m 194 #[.val (.int x1), .val (.int x2), .val (.int x3), .val (.int x4), .val (.int nn), .val (.ref b1), .val (.ref b8), .val (.ref tb_9)] [(.int 1)])) (fun t k => st12 _ k) ?_
              clear st12 X11 e11
              refine own_byW (T' := T12) (g' := (mkF m 197 #[.val (.int x1), .val (.int x2), .val (.int x3), .val (.int x4), .val (.int nn), .val (.ref b1), .val (.ref b8), .val (.ref tb_9)] [])) (fun t k => XS.ifNo X12.here hx rfl (hb hby at_194) rfl ((if0 _ _).trans (feq (by decide)).1) k) ?_
              refine own_byW (T' := T12) (g' := (mkF m 199 #[.val (.int x1), .val (.int x2), .val (.int x3), .val (.int x4), .val (.int nn), .val (.ref b1), .val (.ref b8), .val (.ref tb_9)] [(.ref tb_9)])) (fun t k => XS.aload X12.here hx rfl (hb hby at_197) rfl rfl k) ?_
              refine own_byW (T' := T12) (g' := (mkF m 201 #[.val (.int x1), .val (.int x2), .val (.int x3), .val (.int x4), .val (.int nn), .val (.ref b1), .val (.ref b8), .val (.ref tb_9)] [(.ref b1), (.ref tb_9)])) (fun t k => XS.aload X12.here hx rfl (hb hby at_199) rfl rfl k) ?_
              refine own_byW (T' := T12) (g' := (mkF m 202 #[.val (.int x1), .val (.int x2), .val (.int x3), .val (.int x4), .val (.int nn), .val (.ref b1), .val (.ref b8), .val (.ref tb_9)] [(.int 2), (.ref b1), (.ref tb_9)])) (fun t k => XS.iconst X12.here hx rfl (hb hby at_201) k) ?_
              refine own_byW (T' := T12) (g' := (mkF m 204 #[.val (.int x1), .val (.int x2), .val (.int x3), .val (.int x4), .val (.int nn), .val (.ref b1), .val (.ref b8), .val (.ref tb_9)] [(.int nn), (.int 2), (.ref b1), (.ref tb_9)])) (fun t k => XS.iload X12.here hx rfl (hb hby at_202) rfl k) ?_
              obtain ⟨_, _, ⟨T13, L13, k13, n13⟩, -, X13, ⟨Lc13, hQ13, l13, y13, z13⟩, st13⟩ := Jvm.LawKit.callS X12 hx (y := (⟨"com/example/emu/emu/PrefixTableOfPinLaw", "ok", "([I[CII)Z"⟩ : MethodName)) hown (mvT hZ (hw _ (own_m 19 rfl))) (mvT hZ (hw _ (own_m 20 rfl))) (mvT hZ (hw _ (own_m 21 rfl))) (mvT hZ (hw _ (own_m 22 rfl))) (by decide) (backOf (W := 0) (rm3_2 l Z a0 hw [] tb_9 b1 nn k1 c0 c1 c2 c3 c4 c5 kb_9 t1_9 t2_9 t3_9 t4_9 t5_9 T9.heap n0 Zle c9_2 V_b1 (HB2)) hZ (hw _ (own_m 22 rfl)) (hw _ (own_m 21 rfl)) (by decide) (by decide)) (g := (mkF m 204 #[.val (.int x1), .val (.int x2), .val (.int x3), .val (.int x4), .val (.int nn), .val (.ref b1), .val (.ref b8), .val (.ref tb_9)] [(.int nn), (.int 2), (.ref b1), (.ref tb_9)])) rfl (by rw [hml]; rfl) (argsL := [(.ref tb_9), (.ref b1), (.int 2), (.int nn)]) (rest := []) (lenOf pd_2 rfl) rfl (own_le rfl) (hb hby at_204) (fun _ _ => ⟨rfl, e12, (by decide : 5 + 0 ≤ _), (by decide : 50 + 0 ≤ _)⟩)
              dsimp only [Pt.U, Pt.locs, Pt.cells, Pt.slots] at X13 l13 y13 z13 st13 hQ13
              subst l13 y13 z13
              obtain ⟨rfl, Nq13, e13⟩ := hQ13
              replace N_ := Fr.app N_ Nq13
              clear Nq13
              refine own_byW (T' := T13) (g' := (mkF m 207 #[.val (.int x1), .val (.int x2), .val (.int x3), .val (.int x4), .val (.int nn), .val (.ref b1), .val (.ref b8), .val (.ref tb_9)] [(.int 1)])) (fun t k => st13 _ k) ?_
              clear st13 X12 e12
              refine own_byW (T' := T13) (g' := (mkF m 210 #[.val (.int x1), .val (.int x2), .val (.int x3), .val (.int x4), .val (.int nn), .val (.ref b1), .val (.ref b8), .val (.ref tb_9)] [])) (fun t k => XS.ifNo X13.here hx rfl (hb hby at_207) rfl ((if0 _ _).trans (feq (by decide)).1) k) ?_
              refine own_byW (T' := T13) (g' := (mkF m 212 #[.val (.int x1), .val (.int x2), .val (.int x3), .val (.int x4), .val (.int nn), .val (.ref b1), .val (.ref b8), .val (.ref tb_9)] [(.ref tb_9)])) (fun t k => XS.aload X13.here hx rfl (hb hby at_210) rfl rfl k) ?_
              refine own_byW (T' := T13) (g' := (mkF m 214 #[.val (.int x1), .val (.int x2), .val (.int x3), .val (.int x4), .val (.int nn), .val (.ref b1), .val (.ref b8), .val (.ref tb_9)] [(.ref b1), (.ref tb_9)])) (fun t k => XS.aload X13.here hx rfl (hb hby at_212) rfl rfl k) ?_
              refine own_byW (T' := T13) (g' := (mkF m 215 #[.val (.int x1), .val (.int x2), .val (.int x3), .val (.int x4), .val (.int nn), .val (.ref b1), .val (.ref b8), .val (.ref tb_9)] [(.int 3), (.ref b1), (.ref tb_9)])) (fun t k => XS.iconst X13.here hx rfl (hb hby at_214) k) ?_
              refine own_byW (T' := T13) (g' := (mkF m 217 #[.val (.int x1), .val (.int x2), .val (.int x3), .val (.int x4), .val (.int nn), .val (.ref b1), .val (.ref b8), .val (.ref tb_9)] [(.int nn), (.int 3), (.ref b1), (.ref tb_9)])) (fun t k => XS.iload X13.here hx rfl (hb hby at_215) rfl k) ?_
              obtain ⟨_, _, ⟨T14, L14, k14, n14⟩, -, X14, ⟨Lc14, hQ14, l14, y14, z14⟩, st14⟩ := Jvm.LawKit.callS X13 hx (y := (⟨"com/example/emu/emu/PrefixTableOfPinLaw", "ok", "([I[CII)Z"⟩ : MethodName)) hown (mvT hZ (hw _ (own_m 19 rfl))) (mvT hZ (hw _ (own_m 20 rfl))) (mvT hZ (hw _ (own_m 21 rfl))) (mvT hZ (hw _ (own_m 22 rfl))) (by decide) (backOf (W := 0) (rm3_3 l Z a0 hw [] tb_9 b1 nn k1 c0 c1 c2 c3 c4 c5 kb_9 t1_9 t2_9 t3_9 t4_9 t5_9 T9.heap n0 Zle c9_2 V_b1 (HB3)) hZ (hw _ (own_m 22 rfl)) (hw _ (own_m 21 rfl)) (by decide) (by decide)) (g := (mkF m 217 #[.val (.int x1), .val (.int x2), .val (.int x3), .val (.int x4), .val (.int nn), .val (.ref b1), .val (.ref b8), .val (.ref tb_9)] [(.int nn), (.int 3), (.ref b1), (.ref tb_9)])) rfl (by rw [hml]; rfl) (argsL := [(.ref tb_9), (.ref b1), (.int 3), (.int nn)]) (rest := []) (lenOf pd_2 rfl) rfl (own_le rfl) (hb hby at_217) (fun _ _ => ⟨rfl, e13, (by decide : 5 + 0 ≤ _), (by decide : 50 + 0 ≤ _)⟩)
              dsimp only [Pt.U, Pt.locs, Pt.cells, Pt.slots] at X14 l14 y14 z14 st14 hQ14
              subst l14 y14 z14
              obtain ⟨rfl, Nq14, e14⟩ := hQ14
              replace N_ := Fr.app N_ Nq14
              clear Nq14
              refine own_byW (T' := T14) (g' := (mkF m 220 #[.val (.int x1), .val (.int x2), .val (.int x3), .val (.int x4), .val (.int nn), .val (.ref b1), .val (.ref b8), .val (.ref tb_9)] [(.int 1)])) (fun t k => st14 _ k) ?_
              clear st14 X13 e13
              refine own_byW (T' := T14) (g' := (mkF m 223 #[.val (.int x1), .val (.int x2), .val (.int x3), .val (.int x4), .val (.int nn), .val (.ref b1), .val (.ref b8), .val (.ref tb_9)] [])) (fun t k => XS.ifNo X14.here hx rfl (hb hby at_220) rfl ((if0 _ _).trans (feq (by decide)).1) k) ?_
              refine own_byW (T' := T14) (g' := (mkF m 225 #[.val (.int x1), .val (.int x2), .val (.int x3), .val (.int x4), .val (.int nn), .val (.ref b1), .val (.ref b8), .val (.ref tb_9)] [(.ref tb_9)])) (fun t k => XS.aload X14.here hx rfl (hb hby at_223) rfl rfl k) ?_
              refine own_byW (T' := T14) (g' := (mkF m 227 #[.val (.int x1), .val (.int x2), .val (.int x3), .val (.int x4), .val (.int nn), .val (.ref b1), .val (.ref b8), .val (.ref tb_9)] [(.ref b1), (.ref tb_9)])) (fun t k => XS.aload X14.here hx rfl (hb hby at_225) rfl rfl k) ?_
              refine own_byW (T' := T14) (g' := (mkF m 228 #[.val (.int x1), .val (.int x2), .val (.int x3), .val (.int x4), .val (.int nn), .val (.ref b1), .val (.ref b8), .val (.ref tb_9)] [(.int 4), (.ref b1), (.ref tb_9)])) (fun t k => XS.iconst X14.here hx rfl (hb hby at_227) k) ?_
              refine own_byW (T' := T14) (g' := (mkF m 230 #[.val (.int x1), .val (.int x2), .val (.int x3), .val (.int x4), .val (.int nn), .val (.ref b1), .val (.ref b8), .val (.ref tb_9)] [(.int nn), (.int 4), (.ref b1), (.ref tb_9)])) (fun t k => XS.iload X14.here hx rfl (hb hby at_228) rfl k) ?_
              obtain ⟨_, _, ⟨T15, L15, k15, n15⟩, -, X15, ⟨Lc15, hQ15, l15, y15, z15⟩, st15⟩ := Jvm.LawKit.callS X14 hx (y := (⟨"com/example/emu/emu/PrefixTableOfPinLaw", "ok", "([I[CII)Z"⟩ : MethodName)) hown (mvT hZ (hw _ (own_m 19 rfl))) (mvT hZ (hw _ (own_m 20 rfl))) (mvT hZ (hw _ (own_m 21 rfl))) (mvT hZ (hw _ (own_m 22 rfl))) (by decide) (backOf (W := 0) (rm3_4 l Z a0 hw [] tb_9 b1 nn k1 c0 c1 c2 c3 c4 c5 kb_9 t1_9 t2_9 t3_9 t4_9 t5_9 T9.heap n0 Zle c9_2 V_b1 (HB4)) hZ (hw _ (own_m 22 rfl)) (hw _ (own_m 21 rfl)) (by decide) (by decide)) (g := (mkF m 230 #[.val (.int x1), .val (.int x2), .val (.int x3), .val (.int x4), .val (.int nn), .val (.ref b1), .val (.ref b8), .val (.ref tb_9)] [(.int nn), (.int 4), (.ref b1), (.ref tb_9)])) rfl (by rw [hml]; rfl) (argsL := [(.ref tb_9), (.ref b1), (.int 4), (.int nn)]) (rest := []) (lenOf pd_2 rfl) rfl (own_le rfl) (hb hby at_230) (fun _ _ => ⟨rfl, e14, (by decide : 5 + 0 ≤ _), (by decide : 50 + 0 ≤ _)⟩)
              dsimp only [Pt.U, Pt.locs, Pt.cells, Pt.slots] at X15 l15 y15 z15 st15 hQ15
              subst l15 y15 z15
              obtain ⟨rfl, Nq15, e15⟩ := hQ15
              replace N_ := Fr.app N_ Nq15
              clear Nq15
              refine own_byW (T' := T15) (g' := (mkF m 233 #[.val (.int x1), .val (.int x2), .val (.int x3), .val (.int x4), .val (.int nn), .val (.ref b1), .val (.ref b8), .val (.ref tb_9)] [(.int 1)])) (fun t k => st15 _ k) ?_
              clear st15 X14 e14
              refine own_byW (T' := T15) (g' := (mkF m 236 #[.val (.int x1), .val (.int x2), .val (.int x3), .val (.int x4), .val (.int nn), .val (.ref b1), .val (.ref b8), .val (.ref tb_9)] [])) (fun t k => XS.ifNo X15.here hx rfl (hb hby at_233) rfl ((if0 _ _).trans (feq (by decide)).1) k) ?_
              refine own_byW (T' := T15) (g' := (mkF m 238 #[.val (.int x1), .val (.int x2), .val (.int x3), .val (.int x4), .val (.int nn), .val (.ref b1), .val (.ref b8), .val (.ref tb_9)] [(.ref tb_9)])) (fun t k => XS.aload X15.here hx rfl (hb hby at_236) rfl rfl k) ?_
              refine own_byW (T' := T15) (g' := (mkF m 240 #[.val (.int x1), .val (.int x2), .val (.int x3), .val (.int x4), .val (.int nn), .val (.ref b1), .val (.ref b8), .val (.ref tb_9)] [(.ref b1), (.ref tb_9)])) (fun t k => XS.aload X15.here hx rfl (hb hby at_238) rfl rfl k) ?_
              refine own_byW (T' := T15) (g' := (mkF m 241 #[.val (.int x1), .val (.int x2), .val (.int x3), .val (.int x4), .val (.int nn), .val (.ref b1), .val (.ref b8), .val (.ref tb_9)] [(.int 5), (.ref b1), (.ref tb_9)])) (fun t k => XS.iconst X15.here hx rfl (hb hby at_240) k) ?_
              refine own_byW (T' := T15) (g' := (mkF m 243 #[.val (.int x1), .val (.int x2), .val (.int x3), .val (.int x4), .val (.int nn), .val (.ref b1), .val (.ref b8), .val (.ref tb_9)] [(.int nn), (.int 5), (.ref b1), (.ref tb_9)])) (fun t k => XS.iload X15.here hx rfl (hb hby at_241) rfl k) ?_
              obtain ⟨_, _, ⟨T16, L16, k16, n16⟩, -, X16, ⟨Lc16, hQ16, l16, y16, z16⟩, st16⟩ := Jvm.LawKit.callS X15 hx (y := (⟨"com/example/emu/emu/PrefixTableOfPinLaw", "ok", "([I[CII)Z"⟩ : MethodName)) hown (mvT hZ (hw _ (own_m 19 rfl))) (mvT hZ (hw _ (own_m 20 rfl))) (mvT hZ (hw _ (own_m 21 rfl))) (mvT hZ (hw _ (own_m 22 rfl))) (by decide) (backOf (W := 0) (rm3_5 l Z a0 hw [] tb_9 b1 nn k1 c0 c1 c2 c3 c4 c5 kb_9 t1_9 t2_9 t3_9 t4_9 t5_9 T9.heap n0 Zle c9_2 V_b1 (HB5)) hZ (hw _ (own_m 22 rfl)) (hw _ (own_m 21 rfl)) (by decide) (by decide)) (g := (mkF m 243 #[.val (.int x1), .val (.int x2), .val (.int x3), .val (.int x4), .val (.int nn), .val (.ref b1), .val (.ref b8), .val (.ref tb_9)] [(.int nn), (.int 5), (.ref b1), (.ref tb_9)])) rfl (by rw [hml]; rfl) (argsL := [(.ref tb_9), (.ref b1), (.int 5), (.int nn)]) (rest := []) (lenOf pd_2 rfl) rfl (own_le rfl) (hb hby at_243) (fun _ _ => ⟨rfl, e15, (by decide : 5 + 0 ≤ _), (by decide : 50 + 0 ≤ _)⟩)
              dsimp only [Pt.U, Pt.locs, Pt.cells, Pt.slots] at X16 l16 y16 z16 st16 hQ16
              subst l16 y16 z16
              obtain ⟨rfl, Nq16, e16⟩ := hQ16
              replace N_ := Fr.app N_ Nq16
              clear Nq16
              refine own_byW (T' := T16) (g' := (mkF m 246 #[.val (.int x1), .val (.int x2), .val (.int x3), .val (.int x4), .val (.int nn), .val (.ref b1), .val (.ref b8), .val (.ref tb_9)] [(.int 1)])) (fun t k => st16 _ k) ?_
              clear st16 X15 e15
              refine own_byW (T' := T16) (g' := (mkF m 249 #[.val (.int x1), .val (.int x2), .val (.int x3), .val (.int x4), .val (.int nn), .val (.ref b1), .val (.ref b8), .val (.ref tb_9)] [])) (fun t k => XS.ifNo X16.here hx rfl (hb hby at_246) rfl ((if0 _ _).trans (feq (by decide)).1) k) ?_
              refine own_byW (T' := T16) (g' := (mkF m 250 #[.val (.int x1), .val (.int x2), .val (.int x3), .val (.int x4), .val (.int nn), .val (.ref b1), .val (.ref b8), .val (.ref tb_9)] [(.int 1)])) (fun t k => XS.iconst X16.here hx rfl (hb hby at_249) k) ?_
              refine own_byW (T' := T16) (g' := (mkF m 254 #[.val (.int x1), .val (.int x2), .val (.int x3), .val (.int x4), .val (.int nn), .val (.ref b1), .val (.ref b8), .val (.ref tb_9)] [(.int 1)])) (fun t k => XS.goto X16.here hx rfl (pc0 := 250) (pc' := 254) rfl (hb hby at_250) (by decide) (by decide) k) ?_
              exact own_retNW X16 hS (by rw [e16]; exact hk_) hx (t := .boolean) Bd.notSynchronized Bd.returns (by simp) (hb hby at_254) (by decide) (by decide) (by rw [e16]; exact ⟨rfl, N_⟩)
            refine own_byW (T' := T_135) (g' := (mkF m 137 #[.val (.int x1), .val (.int x2), .val (.int x3), .val (.int x4), .val (.int nn), .val (.ref b1), .val (.ref b8), .unset] [(.int nn)])) (fun t k => XS.iload X_135.here hx rfl (hb hby at_135) rfl k) ?_
            clear X8 e8
            refine own_byW (T' := T_135) (g' := (mkF m 138 #[.val (.int x1), .val (.int x2), .val (.int x3), .val (.int x4), .val (.int nn), .val (.ref b1), .val (.ref b8), .unset] [(.int 5), (.int nn)])) (fun t k => XS.iconst X_135.here hx rfl (hb hby at_137) k) ?_
            by_cases hc138_17 : (5 : Int32) < nn
            · refine own_byW (T' := T_135) (g' := (mkF m 141 #[.val (.int x1), .val (.int x2), .val (.int x3), .val (.int x4), .val (.int nn), .val (.ref b1), .val (.ref b8), .unset] [])) (fun t k => XS.icmpNo X_135.here hx rfl (hb hby at_138) rfl (tlt hc138_17).2.2.2 k) ?_
              refine own_byW (T' := T_135) (g' := (mkF m 143 #[.val (.int x1), .val (.int x2), .val (.int x3), .val (.int x4), .val (.int nn), .val (.ref b1), .val (.ref b8), .unset] [(.ref b8)])) (fun t k => XS.aload X_135.here hx rfl (hb hby at_141) rfl rfl k) ?_
              refine own_byW (T' := T_135) (g' := (mkF m 144 #[.val (.int x1), .val (.int x2), .val (.int x3), .val (.int x4), .val (.int nn), .val (.ref b1), .val (.ref b8), .unset] [(.int 5), (.ref b8)])) (fun t k => XS.iconst X_135.here hx rfl (hb hby at_143) k) ?_
              refine own_byW (T' := T_135) (g' := (mkF m 146 #[.val (.int x1), .val (.int x2), .val (.int x3), .val (.int x4), .val (.int nn), .val (.ref b1), .val (.ref b8), .unset] [(.ref b1), (.int 5), (.ref b8)])) (fun t k => XS.aload X_135.here hx rfl (hb hby at_144) rfl rfl k) ?_
              refine own_byW (T' := T_135) (g' := (mkF m 147 #[.val (.int x1), .val (.int x2), .val (.int x3), .val (.int x4), .val (.int nn), .val (.ref b1), .val (.ref b8), .unset] [(.int 5), (.ref b1), (.int 5), (.ref b8)])) (fun t k => XS.iconst X_135.here hx rfl (hb hby at_146) k) ?_
              obtain ⟨cl18, Ar18, q18, S18, N18, Hs18, G18⟩ := id V_b1
              have hin18 : ¬ ((5 : Int32) < 0 ∨ cl18.slots.size ≤ ((5 : Int32)).toNatClampNeg) := inb_of S18 ⟨by decide, by decide⟩
              have hat18 : cl18.slots[((5 : Int32)).toNatClampNeg]? = some (.int c5) := Hs18.at hin18 rfl
              refine own_byW (T' := T_135) (g' := (mkF m 148 #[.val (.int x1), .val (.int x2), .val (.int x3), .val (.int x4), .val (.int nn), .val (.ref b1), .val (.ref b8), .unset] [(.int c5), (.int 5), (.ref b8)])) (fun t k => X_135.caload hx (j := (5 : Int32)) (v := (.int c5)) (by rw [e_135]; exact Ar18.1) (State.isArrayOf_alike hZ.alike Ar18.2.1) Ar18.2.2 hin18 hat18 (g := (mkF m 147 #[.val (.int x1), .val (.int x2), .val (.int x3), .val (.int x4), .val (.int nn), .val (.ref b1), .val (.ref b8), .unset] [(.int 5), (.ref b1), (.int 5), (.ref b8)])) rfl rfl (hb hby at_147) _ k) ?_
              clear hat18 hin18 G18 Hs18 N18 S18 q18 Ar18 cl18
              obtain ⟨cl19, Ar19, q19, S19, N19, Hs19, G19⟩ := id V_b8
              have hin19 : ¬ ((5 : Int32) < 0 ∨ cl19.slots.size ≤ ((5 : Int32)).toNatClampNeg) := inb_of S19 ⟨by decide, hc138_17⟩
              obtain ⟨T19, h19, X19, e19, W19, st19⟩ := stC X_135 hx hZ e_135 Ar19 (j := (5 : Int32)) hin19 (g := (mkF m 148 #[.val (.int x1), .val (.int x2), .val (.int x3), .val (.int x4), .val (.int nn), .val (.ref b1), .val (.ref b8), .unset] [(.int c5), (.int 5), (.ref b8)])) rfl rfl (hb hby at_148)
              rw [hnc5] at W19
              have V_b8_ : Arv Z h19 b8 k8 .char nn [(.int c0), (.int c1), (.int c2), (.int c3), (.int c4), (.int c5)] (.int 0) := Arv.set Ar19 q19 S19 N19 Hs19 G19 (by rw [← hnc5]; exact fits_nar_char _) W19 5 rfl (Nat.le_of_ble_eq_true rfl)
              replace Zle := Nat.le_trans Zle (Keep.of_wr W19).1
              replace hk_ := Nat.le_trans hk_ (Keep.of_wr W19).1
              replace V_b1 := V_b1.other W19 ne_b1_b8
              replace V_b8 := V_b8_
              clear V_b8_ W19 hin19 G19 Hs19 N19 S19 q19 Ar19
              replace N_ := Fr.snoc X19 N_ g_b8
              refine own_byW (T' := T19) (g' := (mkF m 149 #[.val (.int x1), .val (.int x2), .val (.int x3), .val (.int x4), .val (.int nn), .val (.ref b1), .val (.ref b8), .unset] [])) (fun t k => st19 t k) ?_
              clear st19 X_135 e_135
              exact JP149 _ _ _ X19 e19 N_ Zle V_b8 V_b1
            · refine own_byW (T' := T_135) (g' := (mkF m 149 #[.val (.int x1), .val (.int x2), .val (.int x3), .val (.int x4), .val (.int nn), .val (.ref b1), .val (.ref b8), .unset] [])) (fun t k => XS.icmpYes X_135.here hx rfl (pc0 := 138) (pc' := 149) rfl (hb hby at_138) rfl (flt hc138_17).2.2.2 (by decide) (by decide) k) ?_
              exact JP149 _ _ _ X_135 e_135 N_ Zle (own_far V_b8 (5) (by decide) hc138_17 rfl rfl) V_b1
          refine own_byW (T' := T_121) (g' := (mkF m 123 #[.val (.int x1), .val (.int x2), .val (.int x3), .val (.int x4), .val (.int nn), .val (.ref b1), .val (.ref b8), .unset] [(.int nn)])) (fun t k => XS.iload X_121.here hx rfl (hb hby at_121) rfl k) ?_
          clear X8 e8
          refine own_byW (T' := T_121) (g' := (mkF m 124 #[.val (.int x1), .val (.int x2), .val (.int x3), .val (.int x4), .val (.int nn), .val (.ref b1), .val (.ref b8), .unset] [(.int 4), (.int nn)])) (fun t k => XS.iconst X_121.here hx rfl (hb hby at_123) k) ?_
          by_cases hc124_20 : (4 : Int32) < nn
          · refine own_byW (T' := T_121) (g' := (mkF m 127 #[.val (.int x1), .val (.int x2), .val (.int x3), .val (.int x4), .val (.int nn), .val (.ref b1), .val (.ref b8), .unset] [])) (fun t k => XS.icmpNo X_121.here hx rfl (hb hby at_124) rfl (tlt hc124_20).2.2.2 k) ?_
            refine own_byW (T' := T_121) (g' := (mkF m 129 #[.val (.int x1), .val (.int x2), .val (.int x3), .val (.int x4), .val (.int nn), .val (.ref b1), .val (.ref b8), .unset] [(.ref b8)])) (fun t k => XS.aload X_121.here hx rfl (hb hby at_127) rfl rfl k) ?_
            refine own_byW (T' := T_121) (g' := (mkF m 130 #[.val (.int x1), .val (.int x2), .val (.int x3), .val (.int x4), .val (.int nn), .val (.ref b1), .val (.ref b8), .unset] [(.int 4), (.ref b8)])) (fun t k => XS.iconst X_121.here hx rfl (hb hby at_129) k) ?_
            refine own_byW (T' := T_121) (g' := (mkF m 132 #[.val (.int x1), .val (.int x2), .val (.int x3), .val (.int x4), .val (.int nn), .val (.ref b1), .val (.ref b8), .unset] [(.ref b1), (.int 4), (.ref b8)])) (fun t k => XS.aload X_121.here hx rfl (hb hby at_130) rfl rfl k) ?_
            refine own_byW (T' := T_121) (g' := (mkF m 133 #[.val (.int x1), .val (.int x2), .val (.int x3), .val (.int x4), .val (.int nn), .val (.ref b1), .val (.ref b8), .unset] [(.int 4), (.ref b1), (.int 4), (.ref b8)])) (fun t k => XS.iconst X_121.here hx rfl (hb hby at_132) k) ?_
            obtain ⟨cl21, Ar21, q21, S21, N21, Hs21, G21⟩ := id V_b1
            have hin21 : ¬ ((4 : Int32) < 0 ∨ cl21.slots.size ≤ ((4 : Int32)).toNatClampNeg) := inb_of S21 ⟨by decide, by decide⟩
            have hat21 : cl21.slots[((4 : Int32)).toNatClampNeg]? = some (.int c4) := Hs21.at hin21 rfl
            refine own_byW (T' := T_121) (g' := (mkF m 134 #[.val (.int x1), .val (.int x2), .val (.int x3), .val (.int x4), .val (.int nn), .val (.ref b1), .val (.ref b8), .unset] [(.int c4), (.int 4), (.ref b8)])) (fun t k => X_121.caload hx (j := (4 : Int32)) (v := (.int c4)) (by rw [e_121]; exact Ar21.1) (State.isArrayOf_alike hZ.alike Ar21.2.1) Ar21.2.2 hin21 hat21 (g := (mkF m 133 #[.val (.int x1), .val (.int x2), .val (.int x3), .val (.int x4), .val (.int nn), .val (.ref b1), .val (.ref b8), .unset] [(.int 4), (.ref b1), (.int 4), (.ref b8)])) rfl rfl (hb hby at_133) _ k) ?_
            clear hat21 hin21 G21 Hs21 N21 S21 q21 Ar21 cl21
            obtain ⟨cl22, Ar22, q22, S22, N22, Hs22, G22⟩ := id V_b8
            have hin22 : ¬ ((4 : Int32) < 0 ∨ cl22.slots.size ≤ ((4 : Int32)).toNatClampNeg) := inb_of S22 ⟨by decide, hc124_20⟩
            obtain ⟨T22, h22, X22, e22, W22, st22⟩ := stC X_121 hx hZ e_121 Ar22 (j := (4 : Int32)) hin22 (g := (mkF m 134 #[.val (.int x1), .val (.int x2), .val (.int x3), .val (.int x4), .val (.int nn), .val (.ref b1), .val (.ref b8), .unset] [(.int c4), (.int 4), (.ref b8)])) rfl rfl (hb hby at_134)
            rw [hnc4] at W22
            have V_b8_ : Arv Z h22 b8 k8 .char nn [(.int c0), (.int c1), (.int c2), (.int c3), (.int c4), (.int 0)] (.int 0) := Arv.set Ar22 q22 S22 N22 Hs22 G22 (by rw [← hnc4]; exact fits_nar_char _) W22 4 rfl (Nat.le_of_ble_eq_true rfl)
            replace Zle := Nat.le_trans Zle (Keep.of_wr W22).1
            replace hk_ := Nat.le_trans hk_ (Keep.of_wr W22).1
            replace V_b1 := V_b1.other W22 ne_b1_b8
            replace V_b8 := V_b8_
            clear V_b8_ W22 hin22 G22 Hs22 N22 S22 q22 Ar22
            replace N_ := Fr.snoc X22 N_ g_b8
            refine own_byW (T' := T22) (g' := (mkF m 135 #[.val (.int x1), .val (.int x2), .val (.int x3), .val (.int x4), .val (.int nn), .val (.ref b1), .val (.ref b8), .unset] [])) (fun t k => st22 t k) ?_
            clear st22 X_121 e_121
            exact JP135 _ _ _ X22 e22 N_ Zle V_b8 V_b1
          · refine own_byW (T' := T_121) (g' := (mkF m 135 #[.val (.int x1), .val (.int x2), .val (.int x3), .val (.int x4), .val (.int nn), .val (.ref b1), .val (.ref b8), .unset] [])) (fun t k => XS.icmpYes X_121.here hx rfl (pc0 := 124) (pc' := 135) rfl (hb hby at_124) rfl (flt hc124_20).2.2.2 (by decide) (by decide) k) ?_
            exact JP135 _ _ _ X_121 e_121 N_ Zle (own_far V_b8 (4) (by decide) hc124_20 rfl rfl) V_b1
        refine own_byW (T' := T_107) (g' := (mkF m 109 #[.val (.int x1), .val (.int x2), .val (.int x3), .val (.int x4), .val (.int nn), .val (.ref b1), .val (.ref b8), .unset] [(.int nn)])) (fun t k => XS.iload X_107.here hx rfl (hb hby at_107) rfl k) ?_
        clear X8 e8
        refine own_byW (T' := T_107) (g' := (mkF m 110 #[.val (.int x1), .val (.int x2), .val (.int x3), .val (.int x4), .val (.int nn), .val (.ref b1), .val (.ref b8), .unset] [(.int 3), (.int nn)])) (fun t k => XS.iconst X_107.here hx rfl (hb hby at_109) k) ?_
        by_cases hc110_23 : (3 : Int32) < nn
        · refine own_byW (T' := T_107) (g' := (mkF m 113 #[.val (.int x1), .val (.int x2), .val (.int x3), .val (.int x4), .val (.int nn), .val (.ref b1), .val (.ref b8), .unset] [])) (fun t k => XS.icmpNo X_107.here hx rfl (hb hby at_110) rfl (tlt hc110_23).2.2.2 k) ?_
          refine own_byW (T' := T_107) (g' := (mkF m 115 #[.val (.int x1), .val (.int x2), .val (.int x3), .val (.int x4), .val (.int nn), .val (.ref b1), .val (.ref b8), .unset] [(.ref b8)])) (fun t k => XS.aload X_107.here hx rfl (hb hby at_113) rfl rfl k) ?_
          refine own_byW (T' := T_107) (g' := (mkF m 116 #[.val (.int x1), .val (.int x2), .val (.int x3), .val (.int x4), .val (.int nn), .val (.ref b1), .val (.ref b8), .unset] [(.int 3), (.ref b8)])) (fun t k => XS.iconst X_107.here hx rfl (hb hby at_115) k) ?_
          refine own_byW (T' := T_107) (g' := (mkF m 118 #[.val (.int x1), .val (.int x2), .val (.int x3), .val (.int x4), .val (.int nn), .val (.ref b1), .val (.ref b8), .unset] [(.ref b1), (.int 3), (.ref b8)])) (fun t k => XS.aload X_107.here hx rfl (hb hby at_116) rfl rfl k) ?_
          refine own_byW (T' := T_107) (g' := (mkF m 119 #[.val (.int x1), .val (.int x2), .val (.int x3), .val (.int x4), .val (.int nn), .val (.ref b1), .val (.ref b8), .unset] [(.int 3), (.ref b1), (.int 3), (.ref b8)])) (fun t k => XS.iconst X_107.here hx rfl (hb hby at_118) k) ?_
          obtain ⟨cl24, Ar24, q24, S24, N24, Hs24, G24⟩ := id V_b1
          have hin24 : ¬ ((3 : Int32) < 0 ∨ cl24.slots.size ≤ ((3 : Int32)).toNatClampNeg) := inb_of S24 ⟨by decide, by decide⟩
          have hat24 : cl24.slots[((3 : Int32)).toNatClampNeg]? = some (.int c3) := Hs24.at hin24 rfl
          refine own_byW (T' := T_107) (g' := (mkF m 120 #[.val (.int x1), .val (.int x2), .val (.int x3), .val (.int x4), .val (.int nn), .val (.ref b1), .val (.ref b8), .unset] [(.int c3), (.int 3), (.ref b8)])) (fun t k => X_107.caload hx (j := (3 : Int32)) (v := (.int c3)) (by rw [e_107]; exact Ar24.1) (State.isArrayOf_alike hZ.alike Ar24.2.1) Ar24.2.2 hin24 hat24 (g := (mkF m 119 #[.val (.int x1), .val (.int x2), .val (.int x3), .val (.int x4), .val (.int nn), .val (.ref b1), .val (.ref b8), .unset] [(.int 3), (.ref b1), (.int 3), (.ref b8)])) rfl rfl (hb hby at_119) _ k) ?_
          clear hat24 hin24 G24 Hs24 N24 S24 q24 Ar24 cl24
          obtain ⟨cl25, Ar25, q25, S25, N25, Hs25, G25⟩ := id V_b8
          have hin25 : ¬ ((3 : Int32) < 0 ∨ cl25.slots.size ≤ ((3 : Int32)).toNatClampNeg) := inb_of S25 ⟨by decide, hc110_23⟩
          obtain ⟨T25, h25, X25, e25, W25, st25⟩ := stC X_107 hx hZ e_107 Ar25 (j := (3 : Int32)) hin25 (g := (mkF m 120 #[.val (.int x1), .val (.int x2), .val (.int x3), .val (.int x4), .val (.int nn), .val (.ref b1), .val (.ref b8), .unset] [(.int c3), (.int 3), (.ref b8)])) rfl rfl (hb hby at_120)
          rw [hnc3] at W25
          have V_b8_ : Arv Z h25 b8 k8 .char nn [(.int c0), (.int c1), (.int c2), (.int c3), (.int 0), (.int 0)] (.int 0) := Arv.set Ar25 q25 S25 N25 Hs25 G25 (by rw [← hnc3]; exact fits_nar_char _) W25 3 rfl (Nat.le_of_ble_eq_true rfl)
          replace Zle := Nat.le_trans Zle (Keep.of_wr W25).1
          replace hk_ := Nat.le_trans hk_ (Keep.of_wr W25).1
          replace V_b1 := V_b1.other W25 ne_b1_b8
          replace V_b8 := V_b8_
          clear V_b8_ W25 hin25 G25 Hs25 N25 S25 q25 Ar25
          replace N_ := Fr.snoc X25 N_ g_b8
          refine own_byW (T' := T25) (g' := (mkF m 121 #[.val (.int x1), .val (.int x2), .val (.int x3), .val (.int x4), .val (.int nn), .val (.ref b1), .val (.ref b8), .unset] [])) (fun t k => st25 t k) ?_
          clear st25 X_107 e_107
          exact JP121 _ _ _ X25 e25 N_ Zle V_b8 V_b1
        · refine own_byW (T' := T_107) (g' := (mkF m 121 #[.val (.int x1), .val (.int x2), .val (.int x3), .val (.int x4), .val (.int nn), .val (.ref b1), .val (.ref b8), .unset] [])) (fun t k => XS.icmpYes X_107.here hx rfl (pc0 := 110) (pc' := 121) rfl (hb hby at_110) rfl (flt hc110_23).2.2.2 (by decide) (by decide) k) ?_
          exact JP121 _ _ _ X_107 e_107 N_ Zle (own_far V_b8 (3) (by decide) hc110_23 rfl rfl) V_b1
      refine own_byW (T' := T_93) (g' := (mkF m 95 #[.val (.int x1), .val (.int x2), .val (.int x3), .val (.int x4), .val (.int nn), .val (.ref b1), .val (.ref b8), .unset] [(.int nn)])) (fun t k => XS.iload X_93.here hx rfl (hb hby at_93) rfl k) ?_
      clear X8 e8
      refine own_byW (T' := T_93) (g' := (mkF m 96 #[.val (.int x1), .val (.int x2), .val (.int x3), .val (.int x4), .val (.int nn), .val (.ref b1), .val (.ref b8), .unset] [(.int 2), (.int nn)])) (fun t k => XS.iconst X_93.here hx rfl (hb hby at_95) k) ?_
      by_cases hc96_26 : (2 : Int32) < nn
      · refine own_byW (T' := T_93) (g' := (mkF m 99 #[.val (.int x1), .val (.int x2), .val (.int x3), .val (.int x4), .val (.int nn), .val (.ref b1), .val (.ref b8), .unset] [])) (fun t k => XS.icmpNo X_93.here hx rfl (hb hby at_96) rfl (tlt hc96_26).2.2.2 k) ?_
        refine own_byW (T' := T_93) (g' := (mkF m 101 #[.val (.int x1), .val (.int x2), .val (.int x3), .val (.int x4), .val (.int nn), .val (.ref b1), .val (.ref b8), .unset] [(.ref b8)])) (fun t k => XS.aload X_93.here hx rfl (hb hby at_99) rfl rfl k) ?_
        refine own_byW (T' := T_93) (g' := (mkF m 102 #[.val (.int x1), .val (.int x2), .val (.int x3), .val (.int x4), .val (.int nn), .val (.ref b1), .val (.ref b8), .unset] [(.int 2), (.ref b8)])) (fun t k => XS.iconst X_93.here hx rfl (hb hby at_101) k) ?_
        refine own_byW (T' := T_93) (g' := (mkF m 104 #[.val (.int x1), .val (.int x2), .val (.int x3), .val (.int x4), .val (.int nn), .val (.ref b1), .val (.ref b8), .unset] [(.ref b1), (.int 2), (.ref b8)])) (fun t k => XS.aload X_93.here hx rfl (hb hby at_102) rfl rfl k) ?_
        refine own_byW (T' := T_93) (g' := (mkF m 105 #[.val (.int x1), .val (.int x2), .val (.int x3), .val (.int x4), .val (.int nn), .val (.ref b1), .val (.ref b8), .unset] [(.int 2), (.ref b1), (.int 2), (.ref b8)])) (fun t k => XS.iconst X_93.here hx rfl (hb hby at_104) k) ?_
        obtain ⟨cl27, Ar27, q27, S27, N27, Hs27, G27⟩ := id V_b1
        have hin27 : ¬ ((2 : Int32) < 0 ∨ cl27.slots.size ≤ ((2 : Int32)).toNatClampNeg) := inb_of S27 ⟨by decide, by decide⟩
        have hat27 : cl27.slots[((2 : Int32)).toNatClampNeg]? = some (.int c2) := Hs27.at hin27 rfl
        refine own_byW (T' := T_93) (g' := (mkF m 106 #[.val (.int x1), .val (.int x2), .val (.int x3), .val (.int x4), .val (.int nn), .val (.ref b1), .val (.ref b8), .unset] [(.int c2), (.int 2), (.ref b8)])) (fun t k => X_93.caload hx (j := (2 : Int32)) (v := (.int c2)) (by rw [e_93]; exact Ar27.1) (State.isArrayOf_alike hZ.alike Ar27.2.1) Ar27.2.2 hin27 hat27 (g := (mkF m 105 #[.val (.int x1), .val (.int x2), .val (.int x3), .val (.int x4), .val (.int nn), .val (.ref b1), .val (.ref b8), .unset] [(.int 2), (.ref b1), (.int 2), (.ref b8)])) rfl rfl (hb hby at_105) _ k) ?_
        clear hat27 hin27 G27 Hs27 N27 S27 q27 Ar27 cl27
        obtain ⟨cl28, Ar28, q28, S28, N28, Hs28, G28⟩ := id V_b8
        have hin28 : ¬ ((2 : Int32) < 0 ∨ cl28.slots.size ≤ ((2 : Int32)).toNatClampNeg) := inb_of S28 ⟨by decide, hc96_26⟩
        obtain ⟨T28, h28, X28, e28, W28, st28⟩ := stC X_93 hx hZ e_93 Ar28 (j := (2 : Int32)) hin28 (g := (mkF m 106 #[.val (.int x1), .val (.int x2), .val (.int x3), .val (.int x4), .val (.int nn), .val (.ref b1), .val (.ref b8), .unset] [(.int c2), (.int 2), (.ref b8)])) rfl rfl (hb hby at_106)
        rw [hnc2] at W28
        have V_b8_ : Arv Z h28 b8 k8 .char nn [(.int c0), (.int c1), (.int c2), (.int 0), (.int 0), (.int 0)] (.int 0) := Arv.set Ar28 q28 S28 N28 Hs28 G28 (by rw [← hnc2]; exact fits_nar_char _) W28 2 rfl (Nat.le_of_ble_eq_true rfl)
        replace Zle := Nat.le_trans Zle (Keep.of_wr W28).1
        replace hk_ := Nat.le_trans hk_ (Keep.of_wr W28).1
        replace V_b1 := V_b1.other W28 ne_b1_b8
        replace V_b8 := V_b8_
        clear V_b8_ W28 hin28 G28 Hs28 N28 S28 q28 Ar28
        replace N_ := Fr.snoc X28 N_ g_b8
        refine own_byW (T' := T28) (g' := (mkF m 107 #[.val (.int x1), .val (.int x2), .val (.int x3), .val (.int x4), .val (.int nn), .val (.ref b1), .val (.ref b8), .unset] [])) (fun t k => st28 t k) ?_
        clear st28 X_93 e_93
        exact JP107 _ _ _ X28 e28 N_ Zle V_b8 V_b1
      · refine own_byW (T' := T_93) (g' := (mkF m 107 #[.val (.int x1), .val (.int x2), .val (.int x3), .val (.int x4), .val (.int nn), .val (.ref b1), .val (.ref b8), .unset] [])) (fun t k => XS.icmpYes X_93.here hx rfl (pc0 := 96) (pc' := 107) rfl (hb hby at_96) rfl (flt hc96_26).2.2.2 (by decide) (by decide) k) ?_
        exact JP107 _ _ _ X_93 e_93 N_ Zle (own_far V_b8 (2) (by decide) hc96_26 rfl rfl) V_b1
    refine own_byW (T' := T_79) (g' := (mkF m 81 #[.val (.int x1), .val (.int x2), .val (.int x3), .val (.int x4), .val (.int nn), .val (.ref b1), .val (.ref b8), .unset] [(.int nn)])) (fun t k => XS.iload X_79.here hx rfl (hb hby at_79) rfl k) ?_
    clear X8 e8
    refine own_byW (T' := T_79) (g' := (mkF m 82 #[.val (.int x1), .val (.int x2), .val (.int x3), .val (.int x4), .val (.int nn), .val (.ref b1), .val (.ref b8), .unset] [(.int 1), (.int nn)])) (fun t k => XS.iconst X_79.here hx rfl (hb hby at_81) k) ?_
    by_cases hc82_29 : (1 : Int32) < nn
    · refine own_byW (T' := T_79) (g' := (mkF m 85 #[.val (.int x1), .val (.int x2), .val (.int x3), .val (.int x4), .val (.int nn), .val (.ref b1), .val (.ref b8), .unset] [])) (fun t k => XS.icmpNo X_79.here hx rfl (hb hby at_82) rfl (tlt hc82_29).2.2.2 k) ?_
      refine own_byW (T' := T_79) (g' := (mkF m 87 #[.val (.int x1), .val (.int x2), .val (.int x3), .val (.int x4), .val (.int nn), .val (.ref b1), .val (.ref b8), .unset] [(.ref b8)])) (fun t k => XS.aload X_79.here hx rfl (hb hby at_85) rfl rfl k) ?_
      refine own_byW (T' := T_79) (g' := (mkF m 88 #[.val (.int x1), .val (.int x2), .val (.int x3), .val (.int x4), .val (.int nn), .val (.ref b1), .val (.ref b8), .unset] [(.int 1), (.ref b8)])) (fun t k => XS.iconst X_79.here hx rfl (hb hby at_87) k) ?_
      refine own_byW (T' := T_79) (g' := (mkF m 90 #[.val (.int x1), .val (.int x2), .val (.int x3), .val (.int x4), .val (.int nn), .val (.ref b1), .val (.ref b8), .unset] [(.ref b1), (.int 1), (.ref b8)])) (fun t k => XS.aload X_79.here hx rfl (hb hby at_88) rfl rfl k) ?_
      refine own_byW (T' := T_79) (g' := (mkF m 91 #[.val (.int x1), .val (.int x2), .val (.int x3), .val (.int x4), .val (.int nn), .val (.ref b1), .val (.ref b8), .unset] [(.int 1), (.ref b1), (.int 1), (.ref b8)])) (fun t k => XS.iconst X_79.here hx rfl (hb hby at_90) k) ?_
      obtain ⟨cl30, Ar30, q30, S30, N30, Hs30, G30⟩ := id V_b1
      have hin30 : ¬ ((1 : Int32) < 0 ∨ cl30.slots.size ≤ ((1 : Int32)).toNatClampNeg) := inb_of S30 ⟨by decide, by decide⟩
      have hat30 : cl30.slots[((1 : Int32)).toNatClampNeg]? = some (.int c1) := Hs30.at hin30 rfl
      refine own_byW (T' := T_79) (g' := (mkF m 92 #[.val (.int x1), .val (.int x2), .val (.int x3), .val (.int x4), .val (.int nn), .val (.ref b1), .val (.ref b8), .unset] [(.int c1), (.int 1), (.ref b8)])) (fun t k => X_79.caload hx (j := (1 : Int32)) (v := (.int c1)) (by rw [e_79]; exact Ar30.1) (State.isArrayOf_alike hZ.alike Ar30.2.1) Ar30.2.2 hin30 hat30 (g := (mkF m 91 #[.val (.int x1), .val (.int x2), .val (.int x3), .val (.int x4), .val (.int nn), .val (.ref b1), .val (.ref b8), .unset] [(.int 1), (.ref b1), (.int 1), (.ref b8)])) rfl rfl (hb hby at_91) _ k) ?_
      clear hat30 hin30 G30 Hs30 N30 S30 q30 Ar30 cl30
      obtain ⟨cl31, Ar31, q31, S31, N31, Hs31, G31⟩ := id V_b8
      have hin31 : ¬ ((1 : Int32) < 0 ∨ cl31.slots.size ≤ ((1 : Int32)).toNatClampNeg) := inb_of S31 ⟨by decide, hc82_29⟩
      obtain ⟨T31, h31, X31, e31, W31, st31⟩ := stC X_79 hx hZ e_79 Ar31 (j := (1 : Int32)) hin31 (g := (mkF m 92 #[.val (.int x1), .val (.int x2), .val (.int x3), .val (.int x4), .val (.int nn), .val (.ref b1), .val (.ref b8), .unset] [(.int c1), (.int 1), (.ref b8)])) rfl rfl (hb hby at_92)
      rw [hnc1] at W31
      have V_b8_ : Arv Z h31 b8 k8 .char nn [(.int c0), (.int c1), (.int 0), (.int 0), (.int 0), (.int 0)] (.int 0) := Arv.set Ar31 q31 S31 N31 Hs31 G31 (by rw [← hnc1]; exact fits_nar_char _) W31 1 rfl (Nat.le_of_ble_eq_true rfl)
      replace Zle := Nat.le_trans Zle (Keep.of_wr W31).1
      replace hk_ := Nat.le_trans hk_ (Keep.of_wr W31).1
      replace V_b1 := V_b1.other W31 ne_b1_b8
      replace V_b8 := V_b8_
      clear V_b8_ W31 hin31 G31 Hs31 N31 S31 q31 Ar31
      replace N_ := Fr.snoc X31 N_ g_b8
      refine own_byW (T' := T31) (g' := (mkF m 93 #[.val (.int x1), .val (.int x2), .val (.int x3), .val (.int x4), .val (.int nn), .val (.ref b1), .val (.ref b8), .unset] [])) (fun t k => st31 t k) ?_
      clear st31 X_79 e_79
      exact JP93 _ _ _ X31 e31 N_ Zle V_b8 V_b1
    · refine own_byW (T' := T_79) (g' := (mkF m 93 #[.val (.int x1), .val (.int x2), .val (.int x3), .val (.int x4), .val (.int nn), .val (.ref b1), .val (.ref b8), .unset] [])) (fun t k => XS.icmpYes X_79.here hx rfl (pc0 := 82) (pc' := 93) rfl (hb hby at_82) rfl (flt hc82_29).2.2.2 (by decide) (by decide) k) ?_
      exact JP93 _ _ _ X_79 e_79 N_ Zle (own_far V_b8 (1) (by decide) hc82_29 rfl rfl) V_b1
  refine own_byW (T' := T8) (g' := (mkF m 68 #[.val (.int x1), .val (.int x2), .val (.int x3), .val (.int x4), .val (.int nn), .val (.ref b1), .val (.ref b8), .unset] [(.int nn)])) (fun t k => XS.iload X8.here hx rfl (hb hby at_66) rfl k) ?_
  by_cases hc68_32 : (0 : Int32) < nn
  · refine own_byW (T' := T8) (g' := (mkF m 71 #[.val (.int x1), .val (.int x2), .val (.int x3), .val (.int x4), .val (.int nn), .val (.ref b1), .val (.ref b8), .unset] [])) (fun t k => XS.ifNo X8.here hx rfl (hb hby at_68) rfl ((if0 _ _).trans (tlt hc68_32).2.2.2) k) ?_
    refine own_byW (T' := T8) (g' := (mkF m 73 #[.val (.int x1), .val (.int x2), .val (.int x3), .val (.int x4), .val (.int nn), .val (.ref b1), .val (.ref b8), .unset] [(.ref b8)])) (fun t k => XS.aload X8.here hx rfl (hb hby at_71) rfl rfl k) ?_
    refine own_byW (T' := T8) (g' := (mkF m 74 #[.val (.int x1), .val (.int x2), .val (.int x3), .val (.int x4), .val (.int nn), .val (.ref b1), .val (.ref b8), .unset] [(.int 0), (.ref b8)])) (fun t k => XS.iconst X8.here hx rfl (hb hby at_73) k) ?_
    refine own_byW (T' := T8) (g' := (mkF m 76 #[.val (.int x1), .val (.int x2), .val (.int x3), .val (.int x4), .val (.int nn), .val (.ref b1), .val (.ref b8), .unset] [(.ref b1), (.int 0), (.ref b8)])) (fun t k => XS.aload X8.here hx rfl (hb hby at_74) rfl rfl k) ?_
    refine own_byW (T' := T8) (g' := (mkF m 77 #[.val (.int x1), .val (.int x2), .val (.int x3), .val (.int x4), .val (.int nn), .val (.ref b1), .val (.ref b8), .unset] [(.int 0), (.ref b1), (.int 0), (.ref b8)])) (fun t k => XS.iconst X8.here hx rfl (hb hby at_76) k) ?_
    obtain ⟨cl33, Ar33, q33, S33, N33, Hs33, G33⟩ := id V_b1
    have hin33 : ¬ ((0 : Int32) < 0 ∨ cl33.slots.size ≤ ((0 : Int32)).toNatClampNeg) := inb_of S33 ⟨by decide, by decide⟩
    have hat33 : cl33.slots[((0 : Int32)).toNatClampNeg]? = some (.int c0) := Hs33.at hin33 rfl
    refine own_byW (T' := T8) (g' := (mkF m 78 #[.val (.int x1), .val (.int x2), .val (.int x3), .val (.int x4), .val (.int nn), .val (.ref b1), .val (.ref b8), .unset] [(.int c0), (.int 0), (.ref b8)])) (fun t k => X8.caload hx (j := (0 : Int32)) (v := (.int c0)) (by rw [e8]; exact Ar33.1) (State.isArrayOf_alike hZ.alike Ar33.2.1) Ar33.2.2 hin33 hat33 (g := (mkF m 77 #[.val (.int x1), .val (.int x2), .val (.int x3), .val (.int x4), .val (.int nn), .val (.ref b1), .val (.ref b8), .unset] [(.int 0), (.ref b1), (.int 0), (.ref b8)])) rfl rfl (hb hby at_77) _ k) ?_
    clear hat33 hin33 G33 Hs33 N33 S33 q33 Ar33 cl33
    obtain ⟨cl34, Ar34, q34, S34, N34, Hs34, G34⟩ := id V_b8
    have hin34 : ¬ ((0 : Int32) < 0 ∨ cl34.slots.size ≤ ((0 : Int32)).toNatClampNeg) := inb_of S34 ⟨by decide, hc68_32⟩
    obtain ⟨T34, h34, X34, e34, W34, st34⟩ := stC X8 hx hZ e8 Ar34 (j := (0 : Int32)) hin34 (g := (mkF m 78 #[.val (.int x1), .val (.int x2), .val (.int x3), .val (.int x4), .val (.int nn), .val (.ref b1), .val (.ref b8), .unset] [(.int c0), (.int 0), (.ref b8)])) rfl rfl (hb hby at_78)
    rw [hnc0] at W34
    have V_b8_ : Arv Z h34 b8 k8 .char nn [(.int c0), (.int 0), (.int 0), (.int 0), (.int 0), (.int 0)] (.int 0) := Arv.set Ar34 q34 S34 N34 Hs34 G34 (by rw [← hnc0]; exact fits_nar_char _) W34 0 rfl (Nat.le_of_ble_eq_true rfl)
    replace Zle := Nat.le_trans Zle (Keep.of_wr W34).1
    replace hk_ := Nat.le_trans hk_ (Keep.of_wr W34).1
    replace V_b1 := V_b1.other W34 ne_b1_b8
    replace V_b8 := V_b8_
    clear V_b8_ W34 hin34 G34 Hs34 N34 S34 q34 Ar34
    replace N_ := Fr.snoc X34 N_ g_b8
    refine own_byW (T' := T34) (g' := (mkF m 79 #[.val (.int x1), .val (.int x2), .val (.int x3), .val (.int x4), .val (.int nn), .val (.ref b1), .val (.ref b8), .unset] [])) (fun t k => st34 t k) ?_
    clear st34 X8 e8
    exact JP79 _ _ _ X34 e34 N_ Zle V_b8 V_b1
  · refine own_byW (T' := T8) (g' := (mkF m 79 #[.val (.int x1), .val (.int x2), .val (.int x3), .val (.int x4), .val (.int nn), .val (.ref b1), .val (.ref b8), .unset] [])) (fun t k => XS.ifYes X8.here hx rfl (pc0 := 68) (pc' := 79) rfl (hb hby at_68) rfl ((if0 _ _).trans (flt hc68_32).2.2.2) (by decide) (by decide) k) ?_
    exact JP79 _ _ _ X8 e8 N_ Zle (own_far V_b8 (0) (by decide) hc68_32 rfl rfl) V_b1

set_option maxRecDepth 65536 in
set_option maxHeartbeats 40000000 in
theorem comes_1 {Post : Tables → Env → Array Value → State → Outcome → State → Prop} (hpost : ∀ tb e args s v u, (limb_1_1.after args s (.returned v) u = true ∧ limb_1_2.after args s (.returned v) u = true ∧ True) → ReturnedEndW s (.returned v) u (Jvm.fieldLocs frame_1_writes args s ++ Jvm.arrayLocs frame_1_arrays args s ++ Jvm.staticLocs frame_1_statics s) 16 1152 → Post tb e args s (.returned v) u) :
    ArmFor flags0 classFile x code maxLocals ret World_1 tables_1 room_1 Calls_1 rest_1 Pre_1 Post := by
  intro l hfl _ _ p e ha hc hk s m args below hf hA hF happ hP
  obtain ⟨hcalls, hrest, hpre⟩ := hP
  obtain ⟨-, -, -, hnamed, -, -, -, hat⟩ := (Spec.applies_iff hf).mp happ
  obtain ⟨hg, hn⟩ := and_e (Cond.before_iff.mp (show (Jvm.Cond.and given_1 narrow_1).before args s = true from hpre))
  obtain ⟨hcount, g0⟩ := and_e hg
  obtain ⟨a0, g1⟩ := and_e g0
  obtain ⟨a1, g2⟩ := and_e g1
  obtain ⟨a2, g3⟩ := and_e g2
  obtain ⟨w0, w1, w2, w3, rfl⟩ : ∃ w0 w1 w2 w3 : Value, args = #[w0, w1, w2, w3] := by
    have hs : args.size = 4 := by simpa [Cond.value, given_1] using hcount
    obtain ⟨L⟩ := args
    match L, hs with
    | [w0, w1, w2, w3], _ => exact ⟨w0, w1, w2, w3, rfl⟩
  have hw := fun d (hd : d ∈ tables_1) => atoms_spec (ws := Jvm.Cond.code x code maxLocals ret :: tables_1) hat d (List.mem_cons_of_mem _ hd)
  have hfit : Fit s := fun {y c} hc i hi => by
    obtain ⟨ha, rfl⟩ := Array.getElem?_eq_some_iff.mp hc
    have q := List.all_eq_true.mp ((Array.all_eq_true_iff_forall_mem.mp hF) _ (Array.getElem_mem ha)) i (List.mem_range.mpr hi)
    simpa [Array.getElem?_eq_getElem hi] using q
  obtain ⟨i0, ei0⟩ := is_v a0
  obtain rfl : w0 = (.int i0) := Option.some.inj ei0
  obtain ⟨i1, ei1⟩ := is_v a1
  obtain rfl : w1 = (.int i1) := Option.some.inj ei1
  obtain ⟨i2, ei2⟩ := is_v a2
  obtain rfl : w2 = (.int i2) := Option.some.inj ei2
  obtain ⟨i3, ei3⟩ := is_v g3
  obtain rfl : w3 = (.int i3) := Option.some.inj ei3
  obtain ⟨n, o, h1, h2, h3, _, L, rfl, ⟨rfl, N⟩, hq⟩ := rm0 l s _ hw tables_1 i0 i1 i2 i3 s.heap s.heap.size (Nat.le_refl _)  p e ha hc hk s m _ below hf ((Spec.applies_iff_loose hf).mp happ).1 ⟨rfl, State.Warmed39.refl s, rfl⟩ trivial
  refine ⟨n, _, h1, h2, h3, hpost _ _ _ _ _ _ ⟨Cond.after_iff.mpr rfl, Cond.after_iff.mpr (eq_i res_at (Term.int_eval (1)) rfl), trivial⟩ ⟨hq.1, hq.2.1, hq.2.2.1, (hq.2.2.2.sift fun y hy => Or.inr (N y hy)).mono (by decide) (by decide)⟩⟩
theorem main_1_1 : Claimed_1_1 := comes_1 fun _ _ _ _ _ _ h hF => ⟨h.1, hF⟩
theorem main_1_2 : Claimed_1_2 := comes_1 fun _ _ _ _ _ _ h hF => ⟨h.2.1, hF⟩

end Jvm.Pilot.@@N@@
namespace Jvm.Pilot.@@N@@
open Jvm Jvm.ClassFile Sem Op Lib Jvm.Free Jvm.Stand Jvm.Pilot.@@N@@.Jvm.D
/-! MADE BY PROGRAM (witnessworld.py) out of the Statement's table words and the real class files: 17 classes; the members and pool entries that the words name. The judged class is class 1, her method 1. -/
namespace start1
open Jvm.ClassFile
def u (s : String) : CpInfo := .utf8 (stringToUtf16 s)
/-- a pool by its gaps: so many unusable entries, then the entry; so many at the end -/
def gap : Nat → List CpInfo → List CpInfo
  | 0, r => r
  | n + 1, r => .unusable :: gap n r
def poolList (es : List (Nat × CpInfo)) (last : Nat) : List CpInfo := es.foldr (fun e r => gap e.1 (e.2 :: r)) (gap last [])
def pool (es : List (Nat × CpInfo)) (last : Nat) : Array CpInfo := ⟨poolList es last⟩
def fileOf (pool : Array CpInfo) (this : Nat) (attrs : Array Attribute := #[]) (ms : Array MethodInfo := #[]) (fl : Nat := 33) (sup : Nat := 0) (ifs : Array Nat := #[]) (fds : Array FieldInfo := #[]) : ClassFile where
  minorVersion := 0
  majorVersion := 65
  constantPool := pool
  accessFlags := fl
  thisClass := this
  superClass := sup
  interfaces := ifs
  fields := fds
  methods := ms
  attributes := attrs
def plain (name : String) (sup : Option ClassId) : Class where
  name := name
  kind := .ordinary
  loader := none
  accessFlags := 33
  super := sup
  interfaces := #[]
  cf := none
  fields := #[]
  methods := #[]
  instanceTypes := #[]
  staticTypes := #[]
  resolved := #[]
  callSites := []
  init := .initialized
  statics := none
  mirror := none

def pool0 : Array CpInfo := pool [(5, u "<init>"), (0, u "()V"), (1, .class_ 10), (1, u "java/lang/Object")] 113

def k0m0 : Method := { name := "<init>", desc := "()V", sig := { parameters := [], returnType := none }, accessFlags := 1, code := none }
/-- java/lang/Object -/
def k0 : Class := { plain "java/lang/Object" none with
  accessFlags := 33
  interfaces := #[]
  cf := some (fileOf pool0 8 #[] #[{ accessFlags := 1, nameIndex := 5, descriptorIndex := 6, attributes := #[] }] 33 0 #[] #[])
  fields := #[]
  methods := #[k0m0]
  instanceTypes := #[]
  staticTypes := #[]
  resolved := Array.replicate 124 none
  statics := none }

def pool1 : Array CpInfo := pool [(2, .class_ 4), (1, u "java/lang/Object"), (0, u "<init>"), (0, u "()V"), (0, .integer 2147483647), (0, .methodref 9 10), (0, .class_ 11), (0, .nameAndType 12 13), (0, u "com/example/emu/emu/PrefixTable"), (0, u "of"), (0, u "([C)[I"), (0, .methodref 15 16), (0, .class_ 17), (0, .nameAndType 18 19), (0, u "com/example/emu/emu/PrefixTableOfPinLaw"), (0, u "ok"), (0, u "([I[CII)Z"), (0, .methodref 15 21), (0, .nameAndType 22 23), (0, u "ref"), (0, u "([CI)I"), (0, .methodref 15 25), (0, .nameAndType 26 27), (0, u "eq"), (0, u "([CII)Z"), (2, u "law"), (0, u "(IIII)Z")] 7

def k1m0 : Method := { name := "<init>", desc := "()V", sig := { parameters := [], returnType := none }, accessFlags := 2, code := none }
def k1c1 : Code := { maxStack := 4, maxLocals := 8, code := code, exceptionTable := #[], attributes := #[] }
def k1m1 : Method := { name := "law", desc := "(IIII)Z", sig := { parameters := [.int, .int, .int, .int], returnType := some .boolean }, accessFlags := 9, code := some k1c1 }
def k1c2 : Code := { maxStack := 3, maxLocals := 4, code := method_3_code, exceptionTable := #[], attributes := #[] }
def k1m2 : Method := { name := "ok", desc := "([I[CII)Z", sig := { parameters := [(.array .int), (.array .char), .int, .int], returnType := some .boolean }, accessFlags := 10, code := some k1c2 }
def k1c3 : Code := { maxStack := 3, maxLocals := 2, code := method_4_code, exceptionTable := #[], attributes := #[] }
def k1m3 : Method := { name := "ref", desc := "([CI)I", sig := { parameters := [(.array .char), .int], returnType := some .int }, accessFlags := 10, code := some k1c3 }
def k1c4 : Code := { maxStack := 4, maxLocals := 3, code := method_5_code, exceptionTable := #[], attributes := #[] }
def k1m4 : Method := { name := "eq", desc := "([CII)Z", sig := { parameters := [(.array .char), .int, .int], returnType := some .boolean }, accessFlags := 10, code := some k1c4 }
/-- com/example/emu/emu/PrefixTableOfPinLaw -/
def k1 : Class := { plain "com/example/emu/emu/PrefixTableOfPinLaw" (some 0) with
  accessFlags := 49
  interfaces := #[]
  cf := some (fileOf pool1 15 #[] #[{ accessFlags := 2, nameIndex := 5, descriptorIndex := 6, attributes := #[] }, { accessFlags := 9, nameIndex := 30, descriptorIndex := 31, attributes := #[] }, { accessFlags := 10, nameIndex := 18, descriptorIndex := 19, attributes := #[] }, { accessFlags := 10, nameIndex := 22, descriptorIndex := 23, attributes := #[] }, { accessFlags := 10, nameIndex := 26, descriptorIndex := 27, attributes := #[] }] 49 2 #[] #[])
  fields := #[]
  methods := #[k1m0, k1m1, k1m2, k1m3, k1m4]
  instanceTypes := #[]
  staticTypes := #[]
  resolved := Array.replicate 39 none
  statics := none }

def pool2 : Array CpInfo := pool [(2, .class_ 4), (1, u "java/lang/Object"), (0, u "<init>"), (0, u "()V"), (0, .string 8), (0, u "pattern"), (0, .methodref 10 11), (0, .class_ 12), (0, .nameAndType 13 14), (0, u "java/util/Objects"), (0, u "requireNonNull"), (0, u "(Ljava/lang/Object;Ljava/lang/String;)Ljava/lang/Object;"), (0, .class_ 16), (0, u "com/example/emu/emu/PrefixTable"), (2, u "of"), (0, u "([C)[I")] 5

def k2m0 : Method := { name := "<init>", desc := "()V", sig := { parameters := [], returnType := none }, accessFlags := 2, code := none }
def k2c1 : Code := { maxStack := 3, maxLocals := 5, code := prog_15_method_2_code, exceptionTable := #[], attributes := #[] }
def k2m1 : Method := { name := "of", desc := "([C)[I", sig := { parameters := [(.array .char)], returnType := some (.array .int) }, accessFlags := 8, code := some k2c1 }
/-- com/example/emu/emu/PrefixTable -/
def k2 : Class := { plain "com/example/emu/emu/PrefixTable" (some 0) with
  accessFlags := 48
  interfaces := #[]
  cf := some (fileOf pool2 15 #[] #[{ accessFlags := 2, nameIndex := 5, descriptorIndex := 6, attributes := #[] }, { accessFlags := 8, nameIndex := 19, descriptorIndex := 20, attributes := #[] }] 48 2 #[] #[])
  fields := #[]
  methods := #[k2m0, k2m1]
  instanceTypes := #[]
  staticTypes := #[]
  resolved := Array.replicate 26 none
  statics := none }

def pool3 : Array CpInfo := pool [(1, .class_ 2), (0, u "java/io/Serializable"), (0, .class_ 4), (0, u "java/lang/Object")] 2

/-- java/io/Serializable -/
def k3 : Class := { plain "java/io/Serializable" (some 0) with
  accessFlags := 1537
  interfaces := #[]
  cf := some (fileOf pool3 1 #[] #[] 1537 3 #[] #[])
  fields := #[]
  methods := #[]
  instanceTypes := #[]
  staticTypes := #[]
  resolved := Array.replicate 7 none
  statics := none }

def pool4 : Array CpInfo := pool [(1, .class_ 2), (0, u "java/lang/Comparable"), (0, .class_ 4), (0, u "java/lang/Object")] 7

/-- java/lang/Comparable -/
def k4 : Class := { plain "java/lang/Comparable" (some 0) with
  accessFlags := 1537
  interfaces := #[]
  cf := some (fileOf pool4 1 #[] #[] 1537 3 #[] #[])
  fields := #[]
  methods := #[]
  instanceTypes := #[]
  staticTypes := #[]
  resolved := Array.replicate 12 none
  statics := none }

def pool5 : Array CpInfo := pool [(2, .class_ 4), (1, u "java/lang/CharSequence"), (42, .class_ 48), (0, u "java/lang/CharSequence$1CodePointIterator"), (10, .class_ 60), (0, u "java/lang/CharSequence$1CharIterator"), (5, .class_ 67), (0, u "java/lang/Object")] 63

/-- java/lang/CharSequence -/
def k5 : Class := { plain "java/lang/CharSequence" (some 0) with
  accessFlags := 1537
  interfaces := #[]
  cf := some (fileOf pool5 2 #[.nestMembers #[47, 59]] #[] 1537 66 #[] #[])
  fields := #[]
  methods := #[]
  instanceTypes := #[]
  staticTypes := #[]
  resolved := Array.replicate 131 none
  statics := none }

def pool6 : Array CpInfo := pool [(1, .class_ 2), (0, u "java/lang/constant/Constable"), (0, .class_ 4), (0, u "java/lang/Object")] 6

/-- java/lang/constant/Constable -/
def k6 : Class := { plain "java/lang/constant/Constable" (some 0) with
  accessFlags := 1537
  interfaces := #[]
  cf := some (fileOf pool6 1 #[] #[] 1537 3 #[] #[])
  fields := #[]
  methods := #[]
  instanceTypes := #[]
  staticTypes := #[]
  resolved := Array.replicate 11 none
  statics := none }

def pool7 : Array CpInfo := pool [(1, .class_ 2), (0, u "java/lang/constant/ConstantDesc"), (0, .class_ 4), (0, u "java/lang/Object")] 32

/-- java/lang/constant/ConstantDesc -/
def k7 : Class := { plain "java/lang/constant/ConstantDesc" (some 0) with
  accessFlags := 1537
  interfaces := #[]
  cf := some (fileOf pool7 1 #[] #[] 1537 3 #[] #[])
  fields := #[]
  methods := #[]
  instanceTypes := #[]
  staticTypes := #[]
  resolved := Array.replicate 37 none
  statics := none }

def pool8 : Array CpInfo := pool [(2, .class_ 4), (1, u "java/lang/Object"), (0, u "<init>"), (0, u "()V"), (3, .class_ 12), (1, u "java/lang/String"), (0, u "value"), (0, u "[B"), (2, u "coder"), (0, u "B"), (2, u "hash"), (0, u "I"), (2, u "hashIsZero"), (0, u "Z"), (13, u "COMPACT_STRINGS"), (534, .class_ 576), (0, u "java/lang/CharSequence"), (22, u "CASE_INSENSITIVE_ORDER"), (0, u "Ljava/util/Comparator;"), (500, u "serialPersistentFields"), (0, u "[Ljava/io/ObjectStreamField;"), (0, .class_ 1104), (0, u "java/lang/String$CaseInsensitiveComparator"), (1, .class_ 1107), (0, u "java/io/Serializable"), (0, .class_ 1109), (0, u "java/lang/Comparable"), (0, .class_ 1111), (0, u "java/lang/constant/Constable"), (0, .class_ 1113), (0, u "java/lang/constant/ConstantDesc"), (2, u "serialVersionUID"), (0, u "J"), (3, u "REPL"), (0, u "C"), (2, u "LATIN1"), (1, u "UTF16")] 323

def k8m0 : Method := { name := "<init>", desc := "()V", sig := { parameters := [], returnType := none }, accessFlags := 1, code := none }
/-- java/lang/String -/
def k8 : Class := { plain "java/lang/String" (some 0) with
  accessFlags := 49
  interfaces := #[3, 4, 5, 6, 7]
  cf := some (fileOf pool8 10 #[.nestMembers #[1103]] #[{ accessFlags := 1, nameIndex := 5, descriptorIndex := 6, attributes := #[] }] 49 2 #[1106, 1108, 575, 1110, 1112] #[{ accessFlags := 18, nameIndex := 13, descriptorIndex := 14, attributes := #[] }, { accessFlags := 18, nameIndex := 17, descriptorIndex := 18, attributes := #[] }, { accessFlags := 2, nameIndex := 21, descriptorIndex := 22, attributes := #[] }, { accessFlags := 2, nameIndex := 25, descriptorIndex := 26, attributes := #[] }, { accessFlags := 26, nameIndex := 1116, descriptorIndex := 1117, attributes := #[] }, { accessFlags := 24, nameIndex := 40, descriptorIndex := 26, attributes := #[] }, { accessFlags := 26, nameIndex := 1101, descriptorIndex := 1102, attributes := #[] }, { accessFlags := 26, nameIndex := 1121, descriptorIndex := 1122, attributes := #[] }, { accessFlags := 25, nameIndex := 599, descriptorIndex := 600, attributes := #[] }, { accessFlags := 24, nameIndex := 1125, descriptorIndex := 18, attributes := #[] }, { accessFlags := 24, nameIndex := 1127, descriptorIndex := 18, attributes := #[] }])
  fields := #[{ name := "value", type := (.array .byte), accessFlags := 18, slot := 0, constantValue := 0 }, { name := "coder", type := .byte, accessFlags := 18, slot := 1, constantValue := 0 }, { name := "hash", type := .int, accessFlags := 2, slot := 2, constantValue := 0 }, { name := "hashIsZero", type := .boolean, accessFlags := 2, slot := 3, constantValue := 0 }, { name := "serialVersionUID", type := .long, accessFlags := 26, slot := 0, constantValue := 0 }, { name := "COMPACT_STRINGS", type := .boolean, accessFlags := 24, slot := 1, constantValue := 0 }, { name := "serialPersistentFields", type := (.array (.object "java/io/ObjectStreamField")), accessFlags := 26, slot := 2, constantValue := 0 }, { name := "REPL", type := .char, accessFlags := 26, slot := 3, constantValue := 0 }, { name := "CASE_INSENSITIVE_ORDER", type := (.object "java/util/Comparator"), accessFlags := 25, slot := 4, constantValue := 0 }, { name := "LATIN1", type := .byte, accessFlags := 24, slot := 5, constantValue := 0 }, { name := "UTF16", type := .byte, accessFlags := 24, slot := 6, constantValue := 0 }]
  methods := #[k8m0]
  instanceTypes := #[(.array .byte), .byte, .int, .boolean]
  staticTypes := #[.long, .boolean, (.array (.object "java/io/ObjectStreamField")), .char, (.object "java/util/Comparator"), .byte, .byte]
  resolved := Array.replicate 1451 none
  statics := none }

def pool9 : Array CpInfo := pool [(2, .class_ 4), (1, u "java/lang/Object"), (0, u "<init>"), (0, u "()V"), (35, .class_ 44), (1, u "java/util/Objects"), (0, u "requireNonNull"), (48, u "(Ljava/lang/Object;Ljava/lang/String;)Ljava/lang/Object;")] 89

def k9m0 : Method := { name := "<init>", desc := "()V", sig := { parameters := [], returnType := none }, accessFlags := 2, code := none }
def k9c1 : Code := { maxStack := 3, maxLocals := 2, code := jdk_31_method_11_code, exceptionTable := #[], attributes := #[] }
def k9m1 : Method := { name := "requireNonNull", desc := "(Ljava/lang/Object;Ljava/lang/String;)Ljava/lang/Object;", sig := { parameters := [(.object "java/lang/Object"), (.object "java/lang/String")], returnType := some (.object "java/lang/Object") }, accessFlags := 9, code := some k9c1 }
/-- java/util/Objects -/
def k9 : Class := { plain "java/util/Objects" (some 0) with
  accessFlags := 49
  interfaces := #[]
  cf := some (fileOf pool9 42 #[] #[{ accessFlags := 2, nameIndex := 5, descriptorIndex := 6, attributes := #[] }, { accessFlags := 9, nameIndex := 45, descriptorIndex := 94, attributes := #[] }] 49 2 #[] #[])
  fields := #[]
  methods := #[k9m0, k9m1]
  instanceTypes := #[]
  staticTypes := #[]
  resolved := Array.replicate 184 none
  statics := none }

def pool10 : Array CpInfo := pool [(1, u "java/lang/Cloneable"), (0, .class_ 1), (0, u "java/lang/Object"), (0, .class_ 3)] 3

/-- java/lang/Cloneable -/
def k10 : Class := { plain "java/lang/Cloneable" (some 0) with
  accessFlags := 1537
  interfaces := #[]
  cf := some (fileOf pool10 2 #[] #[] 1537 4 #[] #[])
  fields := #[]
  methods := #[]
  instanceTypes := #[]
  staticTypes := #[]
  resolved := Array.replicate 8 none
  statics := none }

/-- the primitive byte -/
def k11 : Class := { plain "byte" none with kind := .primitive 'B', accessFlags := 0x411 }
/-- [B -/
def k12 : Class := { plain "[B" (some 0) with kind := .array 11 .byte, interfaces := #[10, 3], accessFlags := 1041 }

/-- the primitive char -/
def k13 : Class := { plain "char" none with kind := .primitive 'C', accessFlags := 0x411 }
/-- [C -/
def k14 : Class := { plain "[C" (some 0) with kind := .array 13 .char, interfaces := #[10, 3], accessFlags := 1041 }

/-- the primitive int -/
def k15 : Class := { plain "int" none with kind := .primitive 'I', accessFlags := 0x411 }
/-- [I -/
def k16 : Class := { plain "[I" (some 0) with kind := .array 15 .int, interfaces := #[10, 3], accessFlags := 1041 }

def heap : Heap := #[]
def classes : Array Class := #[k0, k1, k2, k3, k4, k5, k6, k7, k8, k9, k10, k11, k12, k13, k14, k15, k16]
def interned : List (Array UInt16 × Addr) := []
def slotsUsed : Nat := 0
def theMethod : MethodId := ⟨1, 1⟩
def args0 : Array Value := #[.int 4, .int 5, .int 6, .int 7]
def aboutOver (below : List Frame) : State where
  vm := { classes := classes, interned := interned.toArray }
  heap := heap
  slotsUsed := slotsUsed
  threads := #[{ frames := .invoking theMethod args0 :: below }]
def below0 : List Frame := [.native { method := ⟨0, 0⟩, args := #[] }]
def about1 : State := aboutOver below0
def p0 : Program := .bare "" "" ""
def e0 : Env := launch0.env 0 0 0
theorem w_frames : about1.frames = Frame.invoking theMethod args0 :: below0 := rfl
set_option maxRecDepth 65536 in
theorem w_args : argsFit about1.vm theMethod args0 = true := by decide +kernel
set_option maxRecDepth 65536 in
theorem w_heap : heapFits about1 = true := by decide +kernel
set_option maxRecDepth 65536 in
theorem w_runnable : about1.curStatus? = some .runnable := by decide +kernel
set_option maxRecDepth 65536 in
theorem w_alone : about1.alone = true := by decide +kernel
set_option maxRecDepth 65536 in
theorem w_named : about1.methodNamed? x = some theMethod := by decide +kernel
set_option maxRecDepth 65536 in
theorem w_hears : about1.hears theMethod below0 = true := by decide +kernel
set_option maxRecDepth 65536 in
theorem w_ripe : about1.ripe theMethod args0 below0 = true := by decide +kernel
theorem w_running : about1.status = .running := rfl
set_option maxRecDepth 65536 in
theorem w_room : about1.hasRoom e0.platform room_1 = true :=
  launch0.hasRoom_least _ room_1 (by decide +kernel) (by decide +kernel) (by decide +kernel) (by decide +kernel) (by decide +kernel) (by decide +kernel)
theorem allAtoms_all (ts : List Jvm.Cond) (a : Array Jvm.Value) (st : Jvm.State) : (allAtoms ts).before a st = ts.all (fun c => c.before a st) := by
  induction ts with
  | nil => rfl
  | cons c t ih =>
    show (Jvm.Cond.and c (allAtoms t)).before a st = _
    rw [Jvm.Cond.before_and, ih, List.all_cons]
def words1 : List Jvm.Cond := Jvm.Cond.code x code maxLocals ret :: tables_1
/-- a 'code' word, met by the world's own term for the bytes: nothing is compared byte by byte -/
theorem code_word {y : MethodName} {bytes : ByteArray} {mx : Nat} {rt : Option FieldType} {a : Array Value} {s : State} {m : MethodId} {meth : Method} {c : Code} (h1 : s.methodNamed? y = some m) (h2 : s.vm.method? m = some meth) (h3 : meth.code = some c) (h4 : c.code = bytes)
    (h5 : (c.maxLocals == mx && c.exceptionTable.isEmpty && decide (c.maxStack ≤ mostOperands) && decide (meth.sig.returnType = rt) && !meth.locks && decide (parseMethodDescriptor y.desc = some meth.sig)) = true) : (Jvm.Cond.code y bytes mx rt).before a s = true := by
  simp only [Bool.and_eq_true, beq_iff_eq, Bool.not_eq_true', decide_eq_true_eq] at h5
  obtain ⟨⟨⟨⟨⟨g1, g2⟩, g3⟩, g4⟩, g5⟩, g6⟩ := h5
  simp [Cond.before, Cond.holds, Cond.value, h1, h2, h3, h4, g1, g2, g3, g4, g5, g6]
def isCode : Jvm.Cond → Bool
  | .code _ _ _ _ => true
  | _ => false
theorem all_split {L : List Jvm.Cond} {P : Jvm.Cond → Bool} (h1 : L.all (fun c => isCode c || P c) = true) (h2 : ∀ c ∈ L.filter isCode, P c = true) : L.all P = true := by
  refine List.all_eq_true.mpr fun c hc => ?_
  have h := List.all_eq_true.mp h1 c hc
  rcases Bool.eq_false_or_eq_true (isCode c) with hi | hi
  · exact h2 c (List.mem_filter.mpr ⟨hc, hi⟩)
  · simpa [hi] using h
set_option maxRecDepth 65536 in
theorem w_c0 : (Jvm.Cond.code x code maxLocals ret).before args0 about1 = true := code_word (m := ⟨1, 1⟩) (meth := k1m1) (c := k1c1) (by decide +kernel) rfl rfl rfl (by decide +kernel)
set_option maxRecDepth 65536 in
theorem w_c1 : (Jvm.Cond.code ({ cls := "com/example/emu/emu/PrefixTable", name := "of", desc := "([C)[I" } : Jvm.MethodName) prog_15_method_2_code (5 : Nat) (Option.some (Jvm.ClassFile.FieldType.array Jvm.ClassFile.FieldType.int))).before args0 about1 = true := code_word (m := ⟨2, 1⟩) (meth := k2m1) (c := k2c1) (by decide +kernel) rfl rfl rfl (by decide +kernel)
set_option maxRecDepth 65536 in
theorem w_c2 : (Jvm.Cond.code ({ cls := "java/util/Objects", name := "requireNonNull", desc := "(Ljava/lang/Object;Ljava/lang/String;)Ljava/lang/Object;" } : Jvm.MethodName) jdk_31_method_11_code (2 : Nat) (Option.some (Jvm.ClassFile.FieldType.object "java/lang/Object"))).before args0 about1 = true := code_word (m := ⟨9, 1⟩) (meth := k9m1) (c := k9c1) (by decide +kernel) rfl rfl rfl (by decide +kernel)
set_option maxRecDepth 65536 in
theorem w_c3 : (Jvm.Cond.code ({ cls := "com/example/emu/emu/PrefixTableOfPinLaw", name := "ok", desc := "([I[CII)Z" } : Jvm.MethodName) method_3_code (4 : Nat) (Option.some Jvm.ClassFile.FieldType.boolean)).before args0 about1 = true := code_word (m := ⟨1, 2⟩) (meth := k1m2) (c := k1c2) (by decide +kernel) rfl rfl rfl (by decide +kernel)
set_option maxRecDepth 65536 in
theorem w_c4 : (Jvm.Cond.code ({ cls := "com/example/emu/emu/PrefixTableOfPinLaw", name := "ref", desc := "([CI)I" } : Jvm.MethodName) method_4_code (2 : Nat) (Option.some Jvm.ClassFile.FieldType.int)).before args0 about1 = true := code_word (m := ⟨1, 3⟩) (meth := k1m3) (c := k1c3) (by decide +kernel) rfl rfl rfl (by decide +kernel)
set_option maxRecDepth 65536 in
theorem w_c5 : (Jvm.Cond.code ({ cls := "com/example/emu/emu/PrefixTableOfPinLaw", name := "eq", desc := "([CII)Z" } : Jvm.MethodName) method_5_code (3 : Nat) (Option.some Jvm.ClassFile.FieldType.boolean)).before args0 about1 = true := code_word (m := ⟨1, 4⟩) (meth := k1m4) (c := k1c4) (by decide +kernel) rfl rfl rfl (by decide +kernel)
def codes1 : List Jvm.Cond := [Jvm.Cond.code x code maxLocals ret, Jvm.Cond.code ({ cls := "com/example/emu/emu/PrefixTable", name := "of", desc := "([C)[I" } : Jvm.MethodName) prog_15_method_2_code (5 : Nat) (Option.some (Jvm.ClassFile.FieldType.array Jvm.ClassFile.FieldType.int)), Jvm.Cond.code ({ cls := "java/util/Objects", name := "requireNonNull", desc := "(Ljava/lang/Object;Ljava/lang/String;)Ljava/lang/Object;" } : Jvm.MethodName) jdk_31_method_11_code (2 : Nat) (Option.some (Jvm.ClassFile.FieldType.object "java/lang/Object")), Jvm.Cond.code ({ cls := "com/example/emu/emu/PrefixTableOfPinLaw", name := "ok", desc := "([I[CII)Z" } : Jvm.MethodName) method_3_code (4 : Nat) (Option.some Jvm.ClassFile.FieldType.boolean), Jvm.Cond.code ({ cls := "com/example/emu/emu/PrefixTableOfPinLaw", name := "ref", desc := "([CI)I" } : Jvm.MethodName) method_4_code (2 : Nat) (Option.some Jvm.ClassFile.FieldType.int), Jvm.Cond.code ({ cls := "com/example/emu/emu/PrefixTableOfPinLaw", name := "eq", desc := "([CII)Z" } : Jvm.MethodName) method_5_code (3 : Nat) (Option.some Jvm.ClassFile.FieldType.boolean)]
set_option maxRecDepth 65536 in
theorem codes_eq : words1.filter isCode = codes1 := rfl
theorem w_codes : ∀ c ∈ words1.filter isCode, c.before args0 about1 = true := by
  rw [codes_eq]
  intro c hc
  simp only [codes1, List.mem_cons, List.not_mem_nil, or_false] at hc
  rcases hc with rfl | rfl | rfl | rfl | rfl | rfl
  · exact w_c0
  · exact w_c1
  · exact w_c2
  · exact w_c3
  · exact w_c4
  · exact w_c5
set_option maxRecDepth 65536 in
theorem w_t1 : (words1.take 24).all (fun c => isCode c || c.before args0 about1) = true := by decide +kernel
set_option maxRecDepth 65536 in
theorem w_t2 : (words1.drop 24).all (fun c => isCode c || c.before args0 about1) = true := by decide +kernel
theorem w_tables : (allAtoms (Jvm.Cond.code x code maxLocals ret :: tables_1)).before args0 about1 = true := by
  rw [allAtoms_all]
  show words1.all (fun c => c.before args0 about1) = true
  refine all_split ?_ w_codes
  rw [← List.take_append_drop 24 words1, List.all_append, w_t1, w_t2]
  rfl
set_option maxRecDepth 65536 in
theorem w_case : (Jvm.Cond.and given_1 narrow_1).before args0 about1 = true := by decide +kernel
theorem w_applies : (headSpec (Jvm.Cond.code x code maxLocals ret :: tables_1) room_1).applies x e0.platform about1 = true :=
  (Spec.applies_iff w_frames).mpr ⟨w_running, w_runnable, w_alone, w_named, w_hears, w_ripe, w_room, w_tables⟩
theorem atStart : AtStart classFile x code maxLocals ret World_1 tables_1 room_1 Calls_1 rest_1 Pre_1 launch0 p0 e0 about1 theMethod args0 below0 :=
  ⟨lists_1, trivial, launch0.admits_env _ _ _, launch0.least_env, fairChoices_fair.cas, fairChoices_fair.clock, w_frames, w_args, w_heap, w_applies, trivial, trivial, w_case⟩
end start1
theorem witness_1 : WitnessClaimed_1 := ⟨start1.p0, start1.e0, start1.about1, start1.theMethod, start1.args0, start1.below0, start1.atStart⟩
end Jvm.Pilot.@@N@@
