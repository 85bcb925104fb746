import JvmDerived
import JvmDerived.Pilot.@@N@@Statement
import JvmDerived.Pilot.@@N@@Code
set_option linter.unusedVariables false
set_option linter.unusedSimpArgs false
namespace Jvm.RoadKit
open Sem ClassFile Op Lib Jvm.Stand Jvm.Free Jvm.LawKit
section New
variable {p : Program} {l : Launch} {e : Env} {R : Room} {s : State} {m : MethodId} {args : Array Value} {below : List Frame} {meth : Method} {c : Code} {T : State} {locs : List Loc} {cells slots : Nat}
theorem retI (X : Stand p l e R s m args below meth c T locs cells slots) (hx : p.tables.exec = Jvm.exec) {pc : Nat} {Ls : Array Slot} {z : Int32} {rest : List Value} (hret : meth.sig.returnType = some .int) (hd : decode c.code pc = .ok (.ireturn, 1)) {fs : List Frame}
    (hl : ∀ (f : JFrame) (acts : List Action), f.method = m → f.locked = none → f.entered = [] → (doReturn e (T.setTop f) acts (some (.int z))).1 = T.setFrames fs) : Steps p.tables e below (T.setTop (mkF m pc Ls (.int z :: rest))) (T.setFrames fs) := by
  have hm' : T.vm.method? m = some meth := X.method'
  have hn : narrow .int (.int z) = .int z := rfl
  show Steps p.tables e below (T.setTop { method := m, pc := pc, locals := Ls, stack := _ :: rest, locked := none }) _
  jvm_step X.here [X.here.top, hx, hd, hm', hret, hn]
  first | (intro acts; rw [hl _ acts rfl rfl rfl]) | rw [hl _ _ rfl rfl rfl]
  exact Steps.refl _
end New
end Jvm.RoadKit
namespace Jvm.Pilot.@@N@@
open Jvm Jvm.ClassFile Sem Op Lib Jvm.Free Jvm.Stand Jvm.LawKit Jvm.RoadKit Bundle Jvm.Pilot.@@N@@.Jvm.D
theorem own_le {a b : Nat} (h : a = b) : 2 * 0 + a ≤ b := by omega
theorem own_m (i : Nat) {d : Jvm.Cond} (h : tables_1[i]? = some d) : d ∈ tables_1 := List.mem_of_getElem? h
/-- from the state T at the frame g the method comes to its return, with Q of what it returns -/
def own_Goes (tb : Tables) (e : Env) (below : List Frame) (s : State) (Q : Option Value → Heap → List Loc → Prop) (rc rs : Nat) (T : State) (g : JFrame) : Prop :=
  ∃ s₂ o, Steps tb e below (T.setTop g) s₂ ∧ s₂.status = .running ∧ Ended s₂ below o ∧ ∃ v L, o = .returned v ∧ Q v s₂.heap L ∧ FrameEnd s o s₂ L rc rs
theorem own_by {tb : Tables} {e : Env} {below : List Frame} {s : State} {Q : Option Value → Heap → List Loc → Prop} {rc rs : Nat} {T T' : State} {g g' : JFrame} (h : ∀ t, Steps tb e below (T'.setTop g') t → Steps tb e below (T.setTop g) t) (k : own_Goes tb e below s Q rc rs T' g') : own_Goes tb e below s Q rc rs T g := by
  obtain ⟨s₂, o, h1, h2⟩ := k
  exact ⟨s₂, o, h _ h1, h2⟩
section OwnRet
variable {p : Program} {l : Launch} {e : Env} {R : Room} {s : State} {m : MethodId} {args : Array Value} {below : List Frame} {meth : Method} {c : Code} {T : State} {locs : List Loc} {cells slots : Nat} {Q : Option Value → Heap → List Loc → Prop} {rc rs : Nat} {pc : Nat} {Ls : Array Slot} {rest : List Value}
theorem own_retI (X : Stand p l e R s m args below meth c T locs cells slots) (hx : p.tables.exec = Jvm.exec) {z : Int32} (hlk : meth.locks = false) (hret : meth.sig.returnType = some .int) (hd : decode c.code pc = .ok (.ireturn, 1)) (hc : cells ≤ rc) (hs : slots ≤ rs)
    (hQ : Q (some (.int z)) T.heap locs) : own_Goes p.tables e below s Q rc rs T (mkF m pc Ls (.int z :: rest)) := by
  obtain ⟨fs, hr, hrun, hended, hW, hsame⟩ := X.leave (v := some (.int z)) (fun h => by rw [hret] at h; cases h)
  exact ⟨_, _, retI X hx hret hd hr, hrun, hended, _, _, rfl, hQ, ⟨_, rfl⟩, hW, hsame.mono hc hs⟩
theorem own_retN (X : Stand p l e R s m args below meth c T locs cells slots) (hx : p.tables.exec = Jvm.exec) {z : Int32} {t : FieldType} (hlk : meth.locks = false) (hret : meth.sig.returnType = some t) (ht : t = .boolean ∨ t = .byte ∨ t = .char ∨ t = .short) (hd : decode c.code pc = .ok (.ireturn, 1)) (hc : cells ≤ rc) (hs : slots ≤ rs)
    (hQ : Q (some (.int (nar t z))) T.heap locs) : own_Goes p.tables e below s Q rc rs T (mkF m pc Ls (.int z :: rest)) := by
  obtain ⟨fs, hr, hrun, hended, hW, hsame⟩ := X.leave (v := some (.int (nar t z))) (fun h => by rw [hret] at h; cases h)
  exact ⟨_, _, retN X hx hret ht hd hr, hrun, hended, _, _, rfl, hQ, ⟨_, rfl⟩, hW, hsame.mono hc hs⟩
theorem own_retV (X : Stand p l e R s m args below meth c T locs cells slots) (hx : p.tables.exec = Jvm.exec) (hlk : meth.locks = false) (hret : meth.sig.returnType = none) (hd : decode c.code pc = .ok (.return_, 1)) (hc : cells ≤ rc) (hs : slots ≤ rs)
    (hQ : Q none T.heap locs) : own_Goes p.tables e below s Q rc rs T (mkF m pc Ls []) := by
  obtain ⟨fs, hr, hrun, hended, hW, hsame⟩ := X.leave (v := none) (fun _ => rfl)
  exact ⟨_, _, X.returnOut hx hret hd hr, hrun, hended, _, _, rfl, hQ, ⟨_, rfl⟩, hW, hsame.mono hc hs⟩
theorem own_retJ (X : Stand p l e R s m args below meth c T locs cells slots) (hx : p.tables.exec = Jvm.exec) {z : Int64} (hlk : meth.locks = false) (hret : meth.sig.returnType = some .long) (hd : decode c.code pc = .ok (.lreturn, 1)) (hc : cells ≤ rc) (hs : slots ≤ rs)
    (hQ : Q (some (.long z)) T.heap locs) : own_Goes p.tables e below s Q rc rs T (mkF m pc Ls (.long z :: rest)) := by
  obtain ⟨fs, hr, hrun, hended, hW, hsame⟩ := X.leave (v := some (.long z)) (fun h => by rw [hret] at h; cases h)
  exact ⟨_, _, retOut X hx hret rfl (Or.inr (Or.inl ⟨rfl, rfl, _, rfl⟩)) hd hr, hrun, hended, _, _, rfl, hQ, ⟨_, rfl⟩, hW, hsame.mono hc hs⟩
theorem own_retA (X : Stand p l e R s m args below meth c T locs cells slots) (hx : p.tables.exec = Jvm.exec) {w : Value} {t : FieldType} (hlk : meth.locks = false) (hret : meth.sig.returnType = some t) (ht : t.isReference = true) (hw : w.isRef = true) (hn : narrow t w = w) (hd : decode c.code pc = .ok (.areturn, 1)) (hc : cells ≤ rc) (hs : slots ≤ rs)
    (hQ : Q (some w) T.heap locs) : own_Goes p.tables e below s Q rc rs T (mkF m pc Ls (w :: rest)) := by
  obtain ⟨fs, hr, hrun, hended, hW, hsame⟩ := X.leave (v := some w) (fun h => by rw [hret] at h; cases h)
  exact ⟨_, _, retOut X hx hret hn (Or.inr (Or.inr (Or.inr (Or.inr ⟨rfl, ht, hw⟩)))) hd hr, hrun, hended, _, _, rfl, hQ, ⟨_, rfl⟩, hW, hsame.mono hc hs⟩
end OwnRet
theorem own_nsE {Z : State} {h : Heap} {a : Addr} {C : String} (E : Exa Z h a C) : ∃ c : Cell, h[a]? = some c ∧ c.vm.isStatics = false := by
  obtain ⟨c, k, h1, -, -, h4, -⟩ := E
  exact ⟨c, h1, h4⟩
theorem own_nsV {Z : State} {h : Heap} {a : Addr} {k : ClassId} {ty : FieldType} {n : Int32} {vs : List Value} {d : Value} (F : Arv Z h a k ty n vs d) : ∃ c : Cell, h[a]? = some c ∧ c.vm.isStatics = false := by
  obtain ⟨c, A, -⟩ := F
  exact ⟨c, A.1, A.plain⟩
theorem own_staKeep {Z : State} {h h' : Heap} {C n d : String} {v : Value} {ws : List Addr} (S : Sta Z h C n d v) (K : Keep h h' ws) (q : ∀ x ∈ ws, ∃ c : Cell, h[x]? = some c ∧ c.vm.isStatics = false) : Sta Z h' C n d v := by
  obtain ⟨cf, i, k, f, st, cell, h1, h2, h3, h4, h5, h6, h7⟩ := S
  refine ⟨cf, i, k, f, st, cell, h1, h2, h3, h4, K.2.1 st cell h5 (fun hin => ?_), h6, h7⟩
  obtain ⟨c, hc, hs⟩ := q st hin
  rw [h5] at hc
  cases hc
  rw [h6] at hs
  cases hs
theorem own_arrKeep {Z : State} {h h' : Heap} {a : Addr} {c : Cell} {ty : FieldType} {ws : List Addr} (A : Arr Z h a c ty) (K : Keep h h' ws) (q : a ∉ ws) : Arr Z h' a c ty := ⟨K.2.1 a c A.1 q, A.2⟩
abbrev vI (x : Int32) : Slot := .val (.int x)
abbrev vJ (x : Int64) : Slot := .val (.long x)
abbrev vR (x : Addr) : Slot := .val (.ref x)
abbrev vN : Slot := .val .null

theorem own_selfsel {s : State} {args : Array Value} {y z : MethodName} (hz : (Jvm.Cond.selects z.cls z z).before args s = true) (hyz : y.cls = z.cls) (hpriv : s.PrivateAt y) (hinst : (Jvm.Cond.instanceMethod y).before args s = true) (hy : y.cls ≠ "java/lang/invoke/MethodHandle" ∧ y.cls ≠ "java/lang/invoke/VarHandle") : (Jvm.Cond.selects y.cls y y).before args s = true := by
  obtain ⟨c, r, m, h1, -, h3, -, k, h4, h5⟩ := Cond.selects_spec hz
  have e : m.cls = c := Option.some.inj ((findClass_of_methodNamed h3).symm.trans h1)
  exact selects_self_of_private (c := c) (k := k) (by rw [hyz]; exact h1) (by rw [← e]; exact h4) h5 hpriv hinst hy
theorem own_eq_int {args : Array Value} {s : State} {t : Term} {k : Int32} (h : (Jvm.Cond.eq t (.int k)).value args s none s [] = some true) : t.eval args s none [] s = some (.int k) := by
  obtain ⟨x, y, h1, h2, k1, k2⟩ := cmp_v (Or.inl h)
  cases h2
  obtain ⟨z, rfl⟩ := k2
  have : z = k := by simpa [Jvm.Cond.value, h1, Term.eval] using h
  rw [h1, this]
theorem own_eq_ref {args : Array Value} {s : State} {t u : Term} {b : Addr} (h : (Jvm.Cond.eq t u).value args s none s [] = some true) (hu : u.eval args s none [] s = some (.ref b)) : t.eval args s none [] s = some (.ref b) := by
  obtain ⟨x, y, h1, h2, k1, k2⟩ := cmp_v (Or.inl h)
  cases hu.symm.trans h2
  have hr : x.isRef = true := k2.2
  rcases ref_cases hr with rfl | ⟨z, rfl⟩
  · simp [Jvm.Cond.value, h1, h2] at h
  · have : z = b := by simpa [Jvm.Cond.value, h1, h2] using h
    rw [h1, this]
def own_B1 (c0 c1 tt : Int32) : Prop := (tt = 0 ∧ ¬ (c0 = c1)) ∨ (tt = 1 ∧ (c0 = c1))
def own_B2 (c0 c1 c2 tt : Int32) : Prop := (tt = 0 ∧ ¬ (c0 = c2) ∧ ¬ (c0 = c1 ∧ c1 = c2)) ∨ (tt = 1 ∧ (c0 = c2) ∧ ¬ (c0 = c1 ∧ c1 = c2)) ∨ (tt = 2 ∧ (c0 = c1 ∧ c1 = c2))
def own_B3 (c0 c1 c2 c3 tt : Int32) : Prop := (tt = 0 ∧ ¬ (c0 = c3) ∧ ¬ (c0 = c2 ∧ c1 = c3) ∧ ¬ (c0 = c1 ∧ c1 = c2 ∧ c2 = c3)) ∨ (tt = 1 ∧ (c0 = c3) ∧ ¬ (c0 = c2 ∧ c1 = c3) ∧ ¬ (c0 = c1 ∧ c1 = c2 ∧ c2 = c3)) ∨ (tt = 2 ∧ (c0 = c2 ∧ c1 = c3) ∧ ¬ (c0 = c1 ∧ c1 = c2 ∧ c2 = c3)) ∨ (tt = 3 ∧ (c0 = c1 ∧ c1 = c2 ∧ c2 = c3))
def own_B4 (c0 c1 c2 c3 c4 tt : Int32) : Prop := (tt = 0 ∧ ¬ (c0 = c4) ∧ ¬ (c0 = c3 ∧ c1 = c4) ∧ ¬ (c0 = c2 ∧ c1 = c3 ∧ c2 = c4) ∧ ¬ (c0 = c1 ∧ c1 = c2 ∧ c2 = c3 ∧ c3 = c4)) ∨ (tt = 1 ∧ (c0 = c4) ∧ ¬ (c0 = c3 ∧ c1 = c4) ∧ ¬ (c0 = c2 ∧ c1 = c3 ∧ c2 = c4) ∧ ¬ (c0 = c1 ∧ c1 = c2 ∧ c2 = c3 ∧ c3 = c4)) ∨ (tt = 2 ∧ (c0 = c3 ∧ c1 = c4) ∧ ¬ (c0 = c2 ∧ c1 = c3 ∧ c2 = c4) ∧ ¬ (c0 = c1 ∧ c1 = c2 ∧ c2 = c3 ∧ c3 = c4)) ∨ (tt = 3 ∧ (c0 = c2 ∧ c1 = c3 ∧ c2 = c4) ∧ ¬ (c0 = c1 ∧ c1 = c2 ∧ c2 = c3 ∧ c3 = c4)) ∨ (tt = 4 ∧ (c0 = c1 ∧ c1 = c2 ∧ c2 = c3 ∧ c3 = c4))
def own_ix (kk a0 a1 a2 a3 a4 : Int32) : Int32 := if kk = 0 then a0 else if kk = 1 then a1 else if kk = 2 then a2 else if kk = 3 then a3 else a4
def own_nvs (sj kk s0 s1 s2 s3 s4 u0 u1 u2 u3 u4 : Int32) : Int32 := if sj = own_ix kk s0 s1 s2 s3 s4 then own_ix kk u0 u1 u2 u3 u4 else kk
def own_gvs (pj kk g0 g1 g2 g3 g4 : Int32) : Int32 := if pj = kk + 1 then own_ix kk g0 g1 g2 g3 g4 else kk
def own_eq1_1 (c0 c1 c2 c3 c4 : Int32) : Int32 := if c0 = c1 then (1 : Int32) else (0 : Int32)
theorem own_eq1_1_iff (c0 c1 c2 c3 c4 : Int32) : own_eq1_1 c0 c1 c2 c3 c4 = 0 ↔ ¬ (c0 = c1) := by
  unfold own_eq1_1
  repeat' split
  all_goals simp_all
def own_eq2_1 (c0 c1 c2 c3 c4 : Int32) : Int32 := if c0 = c2 then (1 : Int32) else (0 : Int32)
theorem own_eq2_1_iff (c0 c1 c2 c3 c4 : Int32) : own_eq2_1 c0 c1 c2 c3 c4 = 0 ↔ ¬ (c0 = c2) := by
  unfold own_eq2_1
  repeat' split
  all_goals simp_all
def own_eq1_2 (c0 c1 c2 c3 c4 : Int32) : Int32 := if c0 = c1 then (if c1 = c2 then (1 : Int32) else (0 : Int32)) else (0 : Int32)
theorem own_eq1_2_iff (c0 c1 c2 c3 c4 : Int32) : own_eq1_2 c0 c1 c2 c3 c4 = 0 ↔ ¬ (c0 = c1 ∧ c1 = c2) := by
  unfold own_eq1_2
  repeat' split
  all_goals simp_all
def own_eq3_1 (c0 c1 c2 c3 c4 : Int32) : Int32 := if c0 = c3 then (1 : Int32) else (0 : Int32)
theorem own_eq3_1_iff (c0 c1 c2 c3 c4 : Int32) : own_eq3_1 c0 c1 c2 c3 c4 = 0 ↔ ¬ (c0 = c3) := by
  unfold own_eq3_1
  repeat' split
  all_goals simp_all
def own_eq2_2 (c0 c1 c2 c3 c4 : Int32) : Int32 := if c0 = c2 then (if c1 = c3 then (1 : Int32) else (0 : Int32)) else (0 : Int32)
theorem own_eq2_2_iff (c0 c1 c2 c3 c4 : Int32) : own_eq2_2 c0 c1 c2 c3 c4 = 0 ↔ ¬ (c0 = c2 ∧ c1 = c3) := by
  unfold own_eq2_2
  repeat' split
  all_goals simp_all
def own_eq1_3 (c0 c1 c2 c3 c4 : Int32) : Int32 := if c0 = c1 then (if c1 = c2 then (if c2 = c3 then (1 : Int32) else (0 : Int32)) else (0 : Int32)) else (0 : Int32)
theorem own_eq1_3_iff (c0 c1 c2 c3 c4 : Int32) : own_eq1_3 c0 c1 c2 c3 c4 = 0 ↔ ¬ (c0 = c1 ∧ c1 = c2 ∧ c2 = c3) := by
  unfold own_eq1_3
  repeat' split
  all_goals simp_all
def own_eq4_1 (c0 c1 c2 c3 c4 : Int32) : Int32 := if c0 = c4 then (1 : Int32) else (0 : Int32)
theorem own_eq4_1_iff (c0 c1 c2 c3 c4 : Int32) : own_eq4_1 c0 c1 c2 c3 c4 = 0 ↔ ¬ (c0 = c4) := by
  unfold own_eq4_1
  repeat' split
  all_goals simp_all
def own_eq3_2 (c0 c1 c2 c3 c4 : Int32) : Int32 := if c0 = c3 then (if c1 = c4 then (1 : Int32) else (0 : Int32)) else (0 : Int32)
theorem own_eq3_2_iff (c0 c1 c2 c3 c4 : Int32) : own_eq3_2 c0 c1 c2 c3 c4 = 0 ↔ ¬ (c0 = c3 ∧ c1 = c4) := by
  unfold own_eq3_2
  repeat' split
  all_goals simp_all
def own_eq2_3 (c0 c1 c2 c3 c4 : Int32) : Int32 := if c0 = c2 then (if c1 = c3 then (if c2 = c4 then (1 : Int32) else (0 : Int32)) else (0 : Int32)) else (0 : Int32)
theorem own_eq2_3_iff (c0 c1 c2 c3 c4 : Int32) : own_eq2_3 c0 c1 c2 c3 c4 = 0 ↔ ¬ (c0 = c2 ∧ c1 = c3 ∧ c2 = c4) := by
  unfold own_eq2_3
  repeat' split
  all_goals simp_all
def own_eq1_4 (c0 c1 c2 c3 c4 : Int32) : Int32 := if c0 = c1 then (if c1 = c2 then (if c2 = c3 then (if c3 = c4 then (1 : Int32) else (0 : Int32)) else (0 : Int32)) else (0 : Int32)) else (0 : Int32)
theorem own_eq1_4_iff (c0 c1 c2 c3 c4 : Int32) : own_eq1_4 c0 c1 c2 c3 c4 = 0 ↔ ¬ (c0 = c1 ∧ c1 = c2 ∧ c2 = c3 ∧ c3 = c4) := by
  unfold own_eq1_4
  repeat' split
  all_goals simp_all
def own_bd0 (c0 c1 c2 c3 c4 : Int32) : Int32 := (0 : Int32)
def own_bd1 (c0 c1 c2 c3 c4 : Int32) : Int32 := if (own_eq1_1 c0 c1 c2 c3 c4) = (0 : Int32) then (0 : Int32) else (1 : Int32)
theorem own_hasB1 (c0 c1 c2 c3 c4 : Int32) : own_B1 c0 c1 (own_bd1 c0 c1 c2 c3 c4) := by
  unfold own_bd1 own_B1
  have e1 := own_eq1_1_iff c0 c1 c2 c3 c4
  by_cases q1 : own_eq1_1 c0 c1 c2 c3 c4 = 0
  · rw [if_pos q1]
    exact Or.inl ⟨rfl, e1.mp q1⟩
  · rw [if_neg q1]
    exact Or.inr (⟨rfl, Decidable.of_not_not (fun z => q1 (e1.mpr z))⟩)
def own_bd2 (c0 c1 c2 c3 c4 : Int32) : Int32 := if (own_eq1_2 c0 c1 c2 c3 c4) = (0 : Int32) then (if (own_eq2_1 c0 c1 c2 c3 c4) = (0 : Int32) then (0 : Int32) else (1 : Int32)) else (2 : Int32)
theorem own_hasB2 (c0 c1 c2 c3 c4 : Int32) : own_B2 c0 c1 c2 (own_bd2 c0 c1 c2 c3 c4) := by
  unfold own_bd2 own_B2
  have e2 := own_eq1_2_iff c0 c1 c2 c3 c4
  have e1 := own_eq2_1_iff c0 c1 c2 c3 c4
  by_cases q2 : own_eq1_2 c0 c1 c2 c3 c4 = 0
  · by_cases q1 : own_eq2_1 c0 c1 c2 c3 c4 = 0
    · rw [if_pos q2, if_pos q1]
      exact Or.inl ⟨rfl, e1.mp q1, e2.mp q2⟩
    · rw [if_pos q2, if_neg q1]
      exact Or.inr (Or.inl ⟨rfl, Decidable.of_not_not (fun z => q1 (e1.mpr z)), e2.mp q2⟩)
  · rw [if_neg q2]
    exact Or.inr (Or.inr (⟨rfl, Decidable.of_not_not (fun z => q2 (e2.mpr z))⟩))
def own_bd3 (c0 c1 c2 c3 c4 : Int32) : Int32 := if (own_eq1_3 c0 c1 c2 c3 c4) = (0 : Int32) then (if (own_eq2_2 c0 c1 c2 c3 c4) = (0 : Int32) then (if (own_eq3_1 c0 c1 c2 c3 c4) = (0 : Int32) then (0 : Int32) else (1 : Int32)) else (2 : Int32)) else (3 : Int32)
theorem own_hasB3 (c0 c1 c2 c3 c4 : Int32) : own_B3 c0 c1 c2 c3 (own_bd3 c0 c1 c2 c3 c4) := by
  unfold own_bd3 own_B3
  have e3 := own_eq1_3_iff c0 c1 c2 c3 c4
  have e2 := own_eq2_2_iff c0 c1 c2 c3 c4
  have e1 := own_eq3_1_iff c0 c1 c2 c3 c4
  by_cases q3 : own_eq1_3 c0 c1 c2 c3 c4 = 0
  · by_cases q2 : own_eq2_2 c0 c1 c2 c3 c4 = 0
    · by_cases q1 : own_eq3_1 c0 c1 c2 c3 c4 = 0
      · rw [if_pos q3, if_pos q2, if_pos q1]
        exact Or.inl ⟨rfl, e1.mp q1, e2.mp q2, e3.mp q3⟩
      · rw [if_pos q3, if_pos q2, if_neg q1]
        exact Or.inr (Or.inl ⟨rfl, Decidable.of_not_not (fun z => q1 (e1.mpr z)), e2.mp q2, e3.mp q3⟩)
    · rw [if_pos q3, if_neg q2]
      exact Or.inr (Or.inr (Or.inl ⟨rfl, Decidable.of_not_not (fun z => q2 (e2.mpr z)), e3.mp q3⟩))
  · rw [if_neg q3]
    exact Or.inr (Or.inr (Or.inr (⟨rfl, Decidable.of_not_not (fun z => q3 (e3.mpr z))⟩)))
def own_bd4 (c0 c1 c2 c3 c4 : Int32) : Int32 := if (own_eq1_4 c0 c1 c2 c3 c4) = (0 : Int32) then (if (own_eq2_3 c0 c1 c2 c3 c4) = (0 : Int32) then (if (own_eq3_2 c0 c1 c2 c3 c4) = (0 : Int32) then (if (own_eq4_1 c0 c1 c2 c3 c4) = (0 : Int32) then (0 : Int32) else (1 : Int32)) else (2 : Int32)) else (3 : Int32)) else (4 : Int32)
theorem own_hasB4 (c0 c1 c2 c3 c4 : Int32) : own_B4 c0 c1 c2 c3 c4 (own_bd4 c0 c1 c2 c3 c4) := by
  unfold own_bd4 own_B4
  have e4 := own_eq1_4_iff c0 c1 c2 c3 c4
  have e3 := own_eq2_3_iff c0 c1 c2 c3 c4
  have e2 := own_eq3_2_iff c0 c1 c2 c3 c4
  have e1 := own_eq4_1_iff c0 c1 c2 c3 c4
  by_cases q4 : own_eq1_4 c0 c1 c2 c3 c4 = 0
  · by_cases q3 : own_eq2_3 c0 c1 c2 c3 c4 = 0
    · by_cases q2 : own_eq3_2 c0 c1 c2 c3 c4 = 0
      · by_cases q1 : own_eq4_1 c0 c1 c2 c3 c4 = 0
        · rw [if_pos q4, if_pos q3, if_pos q2, if_pos q1]
          exact Or.inl ⟨rfl, e1.mp q1, e2.mp q2, e3.mp q3, e4.mp q4⟩
        · rw [if_pos q4, if_pos q3, if_pos q2, if_neg q1]
          exact Or.inr (Or.inl ⟨rfl, Decidable.of_not_not (fun z => q1 (e1.mpr z)), e2.mp q2, e3.mp q3, e4.mp q4⟩)
      · rw [if_pos q4, if_pos q3, if_neg q2]
        exact Or.inr (Or.inr (Or.inl ⟨rfl, Decidable.of_not_not (fun z => q2 (e2.mpr z)), e3.mp q3, e4.mp q4⟩))
    · rw [if_pos q4, if_neg q3]
      exact Or.inr (Or.inr (Or.inr (Or.inl ⟨rfl, Decidable.of_not_not (fun z => q3 (e3.mpr z)), e4.mp q4⟩)))
  · rw [if_neg q4]
    exact Or.inr (Or.inr (Or.inr (Or.inr (⟨rfl, Decidable.of_not_not (fun z => q4 (e4.mpr z))⟩))))
def own_pick (ff pj yj uj : Int32) : Int32 := if ff = 0 then pj else if ff = 1 then yj else if ff = 2 then (yj + (1 : Int32)) else uj
def own_ev (kk pj pm g0 g1 g2 g3 g4 : Int32) : Int32 := if kk = 0 then pj else if kk = 1 then pm else if kk = 2 then (pm + (1 : Int32)) else own_gvs pj pm g0 g1 g2 g3 g4
def own_ss (pj y : Int32) : Int32 := if pj = y then 1 else 0
theorem own_ss0 (pj y : Int32) : own_ss pj y = 0 ↔ ¬ pj = y := by
  unfold own_ss
  split <;> simp_all
def own_ev0 (kk pj : Int32) : Int32 := if kk = 0 then pj else if kk = 1 then (-1) else if kk = 2 then 0 else (-1)
theorem own_lt {a b d : Int32} (h : ¬ b < a) (g : b < d) : a < d := by
  rw [Int32.lt_iff_toInt_lt] at *
  omega
theorem own_no5 {d : Int32} (h : d < 6) : ¬ (5 : Int32) < d := by
  rw [Int32.lt_iff_toInt_lt] at *
  have e5 : (5 : Int32).toInt = 5 := by decide
  have e6 : (6 : Int32).toInt = 6 := by decide
  omega
theorem own_n (x : Int32) : ¬ (x &&& (7 : Int32)) % (6 : Int32) < 0 ∧ ((x &&& (7 : Int32)) % (6 : Int32)).toNatClampNeg ≤ 5 ∧ (x &&& (7 : Int32)) % (6 : Int32) < 6 := by
  have h1 := c_mask x 7 3 (by decide) (by decide)
  have h2 := (c_irem (x &&& (7 : Int32)) 6 6 (by decide)).1 (by omega)
  have e0 : (0 : Int32).toInt = 0 := by decide
  have e6 : (6 : Int32).toInt = 6 := by decide
  rw [Int32.lt_iff_toInt_lt, Int32.lt_iff_toInt_lt, e0, e6]
  simp only [Int32.toNatClampNeg]
  omega
theorem own_and3 (x : Int32) : x &&& (3 : Int32) = 0 ∨ x &&& (3 : Int32) = 1 ∨ x &&& (3 : Int32) = 2 ∨ x &&& (3 : Int32) = 3 := by
  have h := c_mask x 3 2 (by decide) (by decide)
  have h2 : (x &&& (3 : Int32)).toInt = 0 ∨ (x &&& (3 : Int32)).toInt = 1 ∨ (x &&& (3 : Int32)).toInt = 2 ∨ (x &&& (3 : Int32)).toInt = 3 := by omega
  rcases h2 with h | h | h | h
  · exact Or.inl (Int32.toInt_inj.mp h)
  · exact Or.inr (Or.inl (Int32.toInt_inj.mp h))
  · exact Or.inr (Or.inr (Or.inl (Int32.toInt_inj.mp h)))
  · exact Or.inr (Or.inr (Or.inr (Int32.toInt_inj.mp h)))
/-- a place behind the end may be told any value -/
theorem own_far {Z : State} {h : Heap} {a : Addr} {k : ClassId} {nn : Int32} {vs vs' : List Value} {d : Value} (F : Arv Z h a k .int nn vs d) (i : Int32) (h0 : ¬ i < 0) (hn : ¬ i < nn) {n : Nat} (hi : i.toNatClampNeg = n) (hv : vs'.take n = vs.take n) : Arv Z h a k .int nn vs' d := by
  obtain ⟨c, A, r1, r2, r3, H, G⟩ := F
  have hle : c.slots.size ≤ n := by
    rw [r2, ← hi]
    rw [Int32.lt_iff_toInt_lt] at hn
    simp only [Int32.toNatClampNeg]
    omega
  have key : ∀ j, j < c.slots.size → vs'.getD j d = vs.getD j d := by
    intro j hj
    have hj' : j < n := Nat.lt_of_lt_of_le hj hle
    have e1 : (vs'.take n)[j]? = vs'[j]? := List.getElem?_take_of_lt hj'
    have e2 : (vs.take n)[j]? = vs[j]? := List.getElem?_take_of_lt hj'
    simp only [List.getD_eq_getElem?_getD]
    rw [← e1, ← e2, hv]
  exact ⟨c, A, r1, r2, r3, fun j hj => by rw [key j hj]; exact H j hj, fun j hj => by rw [key j hj]; exact G j hj⟩
theorem own_rg1 {c0 c1 tt : Int32} (h : own_B1 c0 c1 tt) : tt = 0 ∨ tt = 1 := by
  unfold own_B1 at h
  rcases h with ⟨h, -⟩ | ⟨h, -⟩
  · simp [h]
  · simp [h]
theorem own_rg2 {c0 c1 c2 tt : Int32} (h : own_B2 c0 c1 c2 tt) : tt = 0 ∨ tt = 1 ∨ tt = 2 := by
  unfold own_B2 at h
  rcases h with ⟨h, -⟩ | ⟨h, -⟩ | ⟨h, -⟩
  · simp [h]
  · simp [h]
  · simp [h]
theorem own_rg3 {c0 c1 c2 c3 tt : Int32} (h : own_B3 c0 c1 c2 c3 tt) : tt = 0 ∨ tt = 1 ∨ tt = 2 ∨ tt = 3 := by
  unfold own_B3 at h
  rcases h with ⟨h, -⟩ | ⟨h, -⟩ | ⟨h, -⟩ | ⟨h, -⟩
  · simp [h]
  · simp [h]
  · simp [h]
  · simp [h]
theorem own_rg4 {c0 c1 c2 c3 c4 tt : Int32} (h : own_B4 c0 c1 c2 c3 c4 tt) : tt = 0 ∨ tt = 1 ∨ tt = 2 ∨ tt = 3 ∨ tt = 4 := by
  unfold own_B4 at h
  rcases h with ⟨h, -⟩ | ⟨h, -⟩ | ⟨h, -⟩ | ⟨h, -⟩ | ⟨h, -⟩
  · simp [h]
  · simp [h]
  · simp [h]
  · simp [h]
  · simp [h]
theorem own_same1 {c0 c1 c2 c3 c4 t1 : Int32} (h1 : own_B1 c0 c1 t1) : t1 = 0 + 1 ↔ c1 = own_ix 0 c0 c1 c2 c3 c4 := by
  rcases h1 with ⟨rfl, f⟩ | ⟨rfl, f⟩
  · show ((0 : Int32) = 0 + 1) ↔ c1 = c0
    rw [show ((0 : Int32) = 0 + 1) ↔ False from ⟨fun q => absurd q (by decide), fun q => q.elim⟩]
    grind
  · show ((1 : Int32) = 0 + 1) ↔ c1 = c0
    rw [show ((1 : Int32) = 0 + 1) ↔ True from ⟨fun _ => trivial, fun _ => by decide⟩]
    grind
theorem own_same2 {c0 c1 c2 c3 c4 t1 t2 : Int32} (h0 : own_B1 c0 c1 t1) (h1 : own_B2 c0 c1 c2 t2) : t2 = t1 + 1 ↔ c2 = own_ix t1 c0 c1 c2 c3 c4 := by
  rcases h0 with ⟨rfl, g⟩ | ⟨rfl, g⟩
  · rcases h1 with ⟨rfl, f⟩ | ⟨rfl, f⟩ | ⟨rfl, f⟩
    · show ((0 : Int32) = 0 + 1) ↔ c2 = c0
      rw [show ((0 : Int32) = 0 + 1) ↔ False from ⟨fun q => absurd q (by decide), fun q => q.elim⟩]
      grind
    · show ((1 : Int32) = 0 + 1) ↔ c2 = c0
      rw [show ((1 : Int32) = 0 + 1) ↔ True from ⟨fun _ => trivial, fun _ => by decide⟩]
      grind
    · show ((2 : Int32) = 0 + 1) ↔ c2 = c0
      rw [show ((2 : Int32) = 0 + 1) ↔ False from ⟨fun q => absurd q (by decide), fun q => q.elim⟩]
      grind
  · rcases h1 with ⟨rfl, f⟩ | ⟨rfl, f⟩ | ⟨rfl, f⟩
    · show ((0 : Int32) = 1 + 1) ↔ c2 = c1
      rw [show ((0 : Int32) = 1 + 1) ↔ False from ⟨fun q => absurd q (by decide), fun q => q.elim⟩]
      grind
    · show ((1 : Int32) = 1 + 1) ↔ c2 = c1
      rw [show ((1 : Int32) = 1 + 1) ↔ False from ⟨fun q => absurd q (by decide), fun q => q.elim⟩]
      grind
    · show ((2 : Int32) = 1 + 1) ↔ c2 = c1
      rw [show ((2 : Int32) = 1 + 1) ↔ True from ⟨fun _ => trivial, fun _ => by decide⟩]
      grind
theorem own_same3 {c0 c1 c2 c3 c4 t2 t3 : Int32} (h0 : own_B2 c0 c1 c2 t2) (h1 : own_B3 c0 c1 c2 c3 t3) : t3 = t2 + 1 ↔ c3 = own_ix t2 c0 c1 c2 c3 c4 := by
  rcases h0 with ⟨rfl, g⟩ | ⟨rfl, g⟩ | ⟨rfl, g⟩
  · rcases h1 with ⟨rfl, f⟩ | ⟨rfl, f⟩ | ⟨rfl, f⟩ | ⟨rfl, f⟩
    · show ((0 : Int32) = 0 + 1) ↔ c3 = c0
      rw [show ((0 : Int32) = 0 + 1) ↔ False from ⟨fun q => absurd q (by decide), fun q => q.elim⟩]
      grind
    · show ((1 : Int32) = 0 + 1) ↔ c3 = c0
      rw [show ((1 : Int32) = 0 + 1) ↔ True from ⟨fun _ => trivial, fun _ => by decide⟩]
      grind
    · show ((2 : Int32) = 0 + 1) ↔ c3 = c0
      rw [show ((2 : Int32) = 0 + 1) ↔ False from ⟨fun q => absurd q (by decide), fun q => q.elim⟩]
      grind
    · show ((3 : Int32) = 0 + 1) ↔ c3 = c0
      rw [show ((3 : Int32) = 0 + 1) ↔ False from ⟨fun q => absurd q (by decide), fun q => q.elim⟩]
      grind
  · rcases h1 with ⟨rfl, f⟩ | ⟨rfl, f⟩ | ⟨rfl, f⟩ | ⟨rfl, f⟩
    · show ((0 : Int32) = 1 + 1) ↔ c3 = c1
      rw [show ((0 : Int32) = 1 + 1) ↔ False from ⟨fun q => absurd q (by decide), fun q => q.elim⟩]
      grind
    · show ((1 : Int32) = 1 + 1) ↔ c3 = c1
      rw [show ((1 : Int32) = 1 + 1) ↔ False from ⟨fun q => absurd q (by decide), fun q => q.elim⟩]
      grind
    · show ((2 : Int32) = 1 + 1) ↔ c3 = c1
      rw [show ((2 : Int32) = 1 + 1) ↔ True from ⟨fun _ => trivial, fun _ => by decide⟩]
      grind
    · show ((3 : Int32) = 1 + 1) ↔ c3 = c1
      rw [show ((3 : Int32) = 1 + 1) ↔ False from ⟨fun q => absurd q (by decide), fun q => q.elim⟩]
      grind
  · rcases h1 with ⟨rfl, f⟩ | ⟨rfl, f⟩ | ⟨rfl, f⟩ | ⟨rfl, f⟩
    · show ((0 : Int32) = 2 + 1) ↔ c3 = c2
      rw [show ((0 : Int32) = 2 + 1) ↔ False from ⟨fun q => absurd q (by decide), fun q => q.elim⟩]
      grind
    · show ((1 : Int32) = 2 + 1) ↔ c3 = c2
      rw [show ((1 : Int32) = 2 + 1) ↔ False from ⟨fun q => absurd q (by decide), fun q => q.elim⟩]
      grind
    · show ((2 : Int32) = 2 + 1) ↔ c3 = c2
      rw [show ((2 : Int32) = 2 + 1) ↔ False from ⟨fun q => absurd q (by decide), fun q => q.elim⟩]
      grind
    · show ((3 : Int32) = 2 + 1) ↔ c3 = c2
      rw [show ((3 : Int32) = 2 + 1) ↔ True from ⟨fun _ => trivial, fun _ => by decide⟩]
      grind
theorem own_same4 {c0 c1 c2 c3 c4 t3 t4 : Int32} (h0 : own_B3 c0 c1 c2 c3 t3) (h1 : own_B4 c0 c1 c2 c3 c4 t4) : t4 = t3 + 1 ↔ c4 = own_ix t3 c0 c1 c2 c3 c4 := by
  rcases h0 with ⟨rfl, g⟩ | ⟨rfl, g⟩ | ⟨rfl, g⟩ | ⟨rfl, g⟩
  · rcases h1 with ⟨rfl, f⟩ | ⟨rfl, f⟩ | ⟨rfl, f⟩ | ⟨rfl, f⟩ | ⟨rfl, f⟩
    · show ((0 : Int32) = 0 + 1) ↔ c4 = c0
      rw [show ((0 : Int32) = 0 + 1) ↔ False from ⟨fun q => absurd q (by decide), fun q => q.elim⟩]
      grind
    · show ((1 : Int32) = 0 + 1) ↔ c4 = c0
      rw [show ((1 : Int32) = 0 + 1) ↔ True from ⟨fun _ => trivial, fun _ => by decide⟩]
      grind
    · show ((2 : Int32) = 0 + 1) ↔ c4 = c0
      rw [show ((2 : Int32) = 0 + 1) ↔ False from ⟨fun q => absurd q (by decide), fun q => q.elim⟩]
      grind
    · show ((3 : Int32) = 0 + 1) ↔ c4 = c0
      rw [show ((3 : Int32) = 0 + 1) ↔ False from ⟨fun q => absurd q (by decide), fun q => q.elim⟩]
      grind
    · show ((4 : Int32) = 0 + 1) ↔ c4 = c0
      rw [show ((4 : Int32) = 0 + 1) ↔ False from ⟨fun q => absurd q (by decide), fun q => q.elim⟩]
      grind
  · rcases h1 with ⟨rfl, f⟩ | ⟨rfl, f⟩ | ⟨rfl, f⟩ | ⟨rfl, f⟩ | ⟨rfl, f⟩
    · show ((0 : Int32) = 1 + 1) ↔ c4 = c1
      rw [show ((0 : Int32) = 1 + 1) ↔ False from ⟨fun q => absurd q (by decide), fun q => q.elim⟩]
      grind
    · show ((1 : Int32) = 1 + 1) ↔ c4 = c1
      rw [show ((1 : Int32) = 1 + 1) ↔ False from ⟨fun q => absurd q (by decide), fun q => q.elim⟩]
      grind
    · show ((2 : Int32) = 1 + 1) ↔ c4 = c1
      rw [show ((2 : Int32) = 1 + 1) ↔ True from ⟨fun _ => trivial, fun _ => by decide⟩]
      grind
    · show ((3 : Int32) = 1 + 1) ↔ c4 = c1
      rw [show ((3 : Int32) = 1 + 1) ↔ False from ⟨fun q => absurd q (by decide), fun q => q.elim⟩]
      grind
    · show ((4 : Int32) = 1 + 1) ↔ c4 = c1
      rw [show ((4 : Int32) = 1 + 1) ↔ False from ⟨fun q => absurd q (by decide), fun q => q.elim⟩]
      grind
  · rcases h1 with ⟨rfl, f⟩ | ⟨rfl, f⟩ | ⟨rfl, f⟩ | ⟨rfl, f⟩ | ⟨rfl, f⟩
    · show ((0 : Int32) = 2 + 1) ↔ c4 = c2
      rw [show ((0 : Int32) = 2 + 1) ↔ False from ⟨fun q => absurd q (by decide), fun q => q.elim⟩]
      grind
    · show ((1 : Int32) = 2 + 1) ↔ c4 = c2
      rw [show ((1 : Int32) = 2 + 1) ↔ False from ⟨fun q => absurd q (by decide), fun q => q.elim⟩]
      grind
    · show ((2 : Int32) = 2 + 1) ↔ c4 = c2
      rw [show ((2 : Int32) = 2 + 1) ↔ False from ⟨fun q => absurd q (by decide), fun q => q.elim⟩]
      grind
    · show ((3 : Int32) = 2 + 1) ↔ c4 = c2
      rw [show ((3 : Int32) = 2 + 1) ↔ True from ⟨fun _ => trivial, fun _ => by decide⟩]
      grind
    · show ((4 : Int32) = 2 + 1) ↔ c4 = c2
      rw [show ((4 : Int32) = 2 + 1) ↔ False from ⟨fun q => absurd q (by decide), fun q => q.elim⟩]
      grind
  · rcases h1 with ⟨rfl, f⟩ | ⟨rfl, f⟩ | ⟨rfl, f⟩ | ⟨rfl, f⟩ | ⟨rfl, f⟩
    · show ((0 : Int32) = 3 + 1) ↔ c4 = c3
      rw [show ((0 : Int32) = 3 + 1) ↔ False from ⟨fun q => absurd q (by decide), fun q => q.elim⟩]
      grind
    · show ((1 : Int32) = 3 + 1) ↔ c4 = c3
      rw [show ((1 : Int32) = 3 + 1) ↔ False from ⟨fun q => absurd q (by decide), fun q => q.elim⟩]
      grind
    · show ((2 : Int32) = 3 + 1) ↔ c4 = c3
      rw [show ((2 : Int32) = 3 + 1) ↔ False from ⟨fun q => absurd q (by decide), fun q => q.elim⟩]
      grind
    · show ((3 : Int32) = 3 + 1) ↔ c4 = c3
      rw [show ((3 : Int32) = 3 + 1) ↔ False from ⟨fun q => absurd q (by decide), fun q => q.elim⟩]
      grind
    · show ((4 : Int32) = 3 + 1) ↔ c4 = c3
      rw [show ((4 : Int32) = 3 + 1) ↔ True from ⟨fun _ => trivial, fun _ => by decide⟩]
      grind
theorem own_gu1 {c0 c1 c2 c3 c4 t1 kk g0 u0 u1 u2 u3 u4 : Int32} (hs : t1 = kk + 1 ↔ c1 = own_ix kk c0 c1 c2 c3 c4) (hk : kk = 0) (i0 : g0 = u0) : own_gvs t1 kk g0 0 0 0 0 = own_nvs c1 kk c0 c1 c2 c3 c4 u0 u1 u2 u3 u4 := by
  unfold own_gvs own_nvs
  have e : own_ix kk g0 0 0 0 0 = own_ix kk u0 u1 u2 u3 u4 := by
    rcases hk with rfl
    · exact i0
  by_cases q : t1 = kk + 1
  · rw [if_pos q, if_pos (hs.mp q), e]
  · rw [if_neg q, if_neg (fun z => q (hs.mpr z))]
theorem own_gu2 {c0 c1 c2 c3 c4 t2 kk g0 g1 u0 u1 u2 u3 u4 : Int32} (hs : t2 = kk + 1 ↔ c2 = own_ix kk c0 c1 c2 c3 c4) (hk : kk = 0 ∨ kk = 1) (i0 : g0 = u0) (i1 : g1 = u1) : own_gvs t2 kk g0 g1 0 0 0 = own_nvs c2 kk c0 c1 c2 c3 c4 u0 u1 u2 u3 u4 := by
  unfold own_gvs own_nvs
  have e : own_ix kk g0 g1 0 0 0 = own_ix kk u0 u1 u2 u3 u4 := by
    rcases hk with rfl | rfl
    · exact i0
    · exact i1
  by_cases q : t2 = kk + 1
  · rw [if_pos q, if_pos (hs.mp q), e]
  · rw [if_neg q, if_neg (fun z => q (hs.mpr z))]
theorem own_gu3 {c0 c1 c2 c3 c4 t3 kk g0 g1 g2 u0 u1 u2 u3 u4 : Int32} (hs : t3 = kk + 1 ↔ c3 = own_ix kk c0 c1 c2 c3 c4) (hk : kk = 0 ∨ kk = 1 ∨ kk = 2) (i0 : g0 = u0) (i1 : g1 = u1) (i2 : g2 = u2) : own_gvs t3 kk g0 g1 g2 0 0 = own_nvs c3 kk c0 c1 c2 c3 c4 u0 u1 u2 u3 u4 := by
  unfold own_gvs own_nvs
  have e : own_ix kk g0 g1 g2 0 0 = own_ix kk u0 u1 u2 u3 u4 := by
    rcases hk with rfl | rfl | rfl
    · exact i0
    · exact i1
    · exact i2
  by_cases q : t3 = kk + 1
  · rw [if_pos q, if_pos (hs.mp q), e]
  · rw [if_neg q, if_neg (fun z => q (hs.mpr z))]
theorem own_gu4 {c0 c1 c2 c3 c4 t4 kk g0 g1 g2 g3 u0 u1 u2 u3 u4 : Int32} (hs : t4 = kk + 1 ↔ c4 = own_ix kk c0 c1 c2 c3 c4) (hk : kk = 0 ∨ kk = 1 ∨ kk = 2 ∨ kk = 3) (i0 : g0 = u0) (i1 : g1 = u1) (i2 : g2 = u2) (i3 : g3 = u3) : own_gvs t4 kk g0 g1 g2 g3 0 = own_nvs c4 kk c0 c1 c2 c3 c4 u0 u1 u2 u3 u4 := by
  unfold own_gvs own_nvs
  have e : own_ix kk g0 g1 g2 g3 0 = own_ix kk u0 u1 u2 u3 u4 := by
    rcases hk with rfl | rfl | rfl | rfl
    · exact i0
    · exact i1
    · exact i2
    · exact i3
  by_cases q : t4 = kk + 1
  · rw [if_pos q, if_pos (hs.mp q), e]
  · rw [if_neg q, if_neg (fun z => q (hs.mpr z))]

def Q2_1_1 (Z : State) (sa : Addr) (ks : ClassId) (c0 : Int32) (c1 : Int32) (c2 : Int32) (c3 : Int32) (c4 : Int32) (h0 : Heap) (n0 : Nat) (v : Option Value) (h : Heap) (L : List Loc) : Prop := v = some (.int (own_eq1_1 c0 c1 c2 c3 c4)) ∧ Fr n0 L ∧ h = h0
theorem pn_com_example_emu_emu_TableFormFromPrefixPinLaw : plainName "com/example/emu/emu/TableFormFromPrefixPinLaw" = true := by first | (simp [plainName, overriddenIn]; done) | decide +kernel
theorem ef_2_1_1 (m : MethodId) (sa : Addr) : entryFrame m #[(.ref sa), (.int 1), (.int 1)] 3 = mkF m 0 #[vR sa, vI 1, vI 1] [] := by first | (simp [entryFrame, mkF, argsToLocals, Value.category]; done) | rfl
theorem d2_0 : decode method_6_code 0 = .ok (.iload_n 2, 1) := by decide +kernel
theorem d2_1 : decode method_6_code 1 = .ok (.iconst 1, 1) := by decide +kernel
theorem d2_2 : decode method_6_code 2 = .ok (.if_icmp .lt 12, 3) := by decide +kernel
theorem d2_5 : decode method_6_code 5 = .ok (.aload_n 0, 1) := by decide +kernel
theorem d2_6 : decode method_6_code 6 = .ok (.iconst 0, 1) := by decide +kernel
theorem d2_7 : decode method_6_code 7 = .ok (.iaload, 1) := by decide +kernel
theorem d2_8 : decode method_6_code 8 = .ok (.aload_n 0, 1) := by decide +kernel
theorem d2_9 : decode method_6_code 9 = .ok (.iload_n 1, 1) := by decide +kernel
theorem d2_10 : decode method_6_code 10 = .ok (.iaload, 1) := by decide +kernel
theorem d2_11 : decode method_6_code 11 = .ok (.if_icmp .ne 55, 3) := by decide +kernel
theorem d2_14 : decode method_6_code 14 = .ok (.iload_n 2, 1) := by decide +kernel
theorem d2_15 : decode method_6_code 15 = .ok (.iconst 2, 1) := by decide +kernel
theorem d2_16 : decode method_6_code 16 = .ok (.if_icmp .lt 14, 3) := by decide +kernel
theorem d2_30 : decode method_6_code 30 = .ok (.iload_n 2, 1) := by decide +kernel
theorem d2_31 : decode method_6_code 31 = .ok (.iconst 3, 1) := by decide +kernel
theorem d2_32 : decode method_6_code 32 = .ok (.if_icmp .lt 14, 3) := by decide +kernel
theorem d2_46 : decode method_6_code 46 = .ok (.iload_n 2, 1) := by decide +kernel
theorem d2_47 : decode method_6_code 47 = .ok (.iconst 4, 1) := by decide +kernel
theorem d2_48 : decode method_6_code 48 = .ok (.if_icmp .lt 14, 3) := by decide +kernel
theorem d2_62 : decode method_6_code 62 = .ok (.iconst 1, 1) := by decide +kernel
theorem d2_63 : decode method_6_code 63 = .ok (.goto 4, 3) := by decide +kernel
theorem d2_67 : decode method_6_code 67 = .ok (.ireturn, 1) := by decide +kernel
theorem d2_66 : decode method_6_code 66 = .ok (.iconst 0, 1) := by decide +kernel
set_option maxRecDepth 65536 in
set_option maxHeartbeats 40000000 in
theorem rm2_1_1 (l : Launch) (Z : State) (a0 : Array Value) (hw : ∀ d ∈ tables_1, d.before a0 Z = true) (ws : List Jvm.Cond) (sa : Addr) (ks : ClassId) (c0 : Int32) (c1 : Int32) (c2 : Int32) (c3 : Int32) (c4 : Int32) (h0 : Heap) (n0 : Nat) (Zle : n0 ≤ h0.size) (V_sa : Arv Z h0 sa ks .int (5 : Int32) [(.int c0), (.int c1), (.int c2), (.int c3), (.int c4)] (.int 0)) :
    MetFree l (⟨"com/example/emu/emu/TableFormFromPrefixPinLaw", "match", "([III)Z"⟩ : MethodName) (head1 (Jvm.Cond.code (⟨"com/example/emu/emu/TableFormFromPrefixPinLaw", "match", "([III)Z"⟩ : MethodName) method_6_code 3 (some .boolean) :: ws) ({ frames := 0, cells := 0, slots := 0, locals := 0 } : Room)) (fun a U => a = #[(.ref sa), (.int 1), (.int 1)] ∧ Z.Warmed39 U.vm ∧ U.heap = h0) (fun _ _ _ _ _ => True) (fun _ U o U' => ∃ v L, o = .returned v ∧ Q2_1_1 Z sa ks c0 c1 c2 c3 c4 h0 n0 v U'.heap L ∧ FrameEnd U o U' L ({ frames := 0, cells := 0, slots := 0, locals := 0 } : Room).cells ({ frames := 0, cells := 0, slots := 0, locals := 0 } : Room).slots) := by
  refine MetFree.of_bodySF (plainFor_of_name pn_com_example_emu_emu_TableFormFromPrefixPinLaw) hisR ?_
  intro p e s m args below meth c s₁ Bd hml0 hP hK
  obtain ⟨rfl, hZ, hh⟩ := hP
  have hx := Bd.exec
  have hby := Bd.bytes
  have hml : c.maxLocals = 3 := hml0
  have hown : s.vm.findClass "com/example/emu/emu/TableFormFromPrefixPinLaw" = some m.cls := findClass_of_methodNamed Bd.named
  have hnm := (name_of_methodNamed Bd.named Bd.method).1
  have X0 : Stand p l e ({ frames := 0, cells := 0, slots := 0, locals := 0 } : Room) s m #[(.ref sa), (.int 1), (.int 1)] below meth c s₁ [] 0 0 := Stand.of_body Bd
  have e0 : s₁.heap = h0 := by rw [← hh, Bd.state]; rfl
  have N_ := Fr.nil n0
  show own_Goes p.tables e below s (Q2_1_1 Z sa ks c0 c1 c2 c3 c4 h0 n0) ({ frames := 0, cells := 0, slots := 0, locals := 0 } : Room).cells ({ frames := 0, cells := 0, slots := 0, locals := 0 } : Room).slots s₁ (entryFrame m #[(.ref sa), (.int 1), (.int 1)] 3)
  refine own_by (T' := s₁) (g' := (mkF m 0 #[vR sa, vI 1, vI 1] [])) (fun t k => castTop (ef_2_1_1 m sa) k) ?_
  refine own_by (T' := s₁) (g' := (mkF m 1 #[vR sa, vI 1, vI 1] [(.int 1)])) (fun t k => XS.iloadN X0.here hx rfl (hb hby d2_0) rfl k) ?_
  refine own_by (T' := s₁) (g' := (mkF m 2 #[vR sa, vI 1, vI 1] [(.int 1), (.int 1)])) (fun t k => XS.iconst X0.here hx rfl (hb hby d2_1) k) ?_
  refine own_by (T' := s₁) (g' := (mkF m 5 #[vR sa, vI 1, vI 1] [])) (fun t k => XS.icmpNo X0.here hx rfl (hb hby d2_2) rfl (flt (by decide)).1 k) ?_
  refine own_by (T' := s₁) (g' := (mkF m 6 #[vR sa, vI 1, vI 1] [(.ref sa)])) (fun t k => XS.aloadN X0.here hx rfl (hb hby d2_5) rfl rfl k) ?_
  refine own_by (T' := s₁) (g' := (mkF m 7 #[vR sa, vI 1, vI 1] [(.int 0), (.ref sa)])) (fun t k => XS.iconst X0.here hx rfl (hb hby d2_6) k) ?_
  obtain ⟨cl1, Ar1, q1, S1, N1, Hs1, G1⟩ := id V_sa
  have hin1 : ¬ ((0 : Int32) < 0 ∨ cl1.slots.size ≤ ((0 : Int32)).toNatClampNeg) := inb_of S1 ⟨by decide, by decide⟩
  have hat1 : cl1.slots[((0 : Int32)).toNatClampNeg]? = some (.int c0) := Hs1.at hin1 rfl
  refine own_by (T' := s₁) (g' := (mkF m 8 #[vR sa, vI 1, vI 1] [(.int c0)])) (fun t k => X0.iaload hx (j := (0 : Int32)) (v := (.int c0)) (by rw [e0]; exact Ar1.1) (State.isArrayOf_alike hZ.alike Ar1.2.1) Ar1.2.2 hin1 hat1 (g := (mkF m 7 #[vR sa, vI 1, vI 1] [(.int 0), (.ref sa)])) rfl rfl (hb hby d2_7) _ k) ?_
  clear hat1 hin1 G1 Hs1 N1 S1 q1 Ar1 cl1
  refine own_by (T' := s₁) (g' := (mkF m 9 #[vR sa, vI 1, vI 1] [(.ref sa), (.int c0)])) (fun t k => XS.aloadN X0.here hx rfl (hb hby d2_8) rfl rfl k) ?_
  refine own_by (T' := s₁) (g' := (mkF m 10 #[vR sa, vI 1, vI 1] [(.int 1), (.ref sa), (.int c0)])) (fun t k => XS.iloadN X0.here hx rfl (hb hby d2_9) rfl k) ?_
  obtain ⟨cl2, Ar2, q2, S2, N2, Hs2, G2⟩ := id V_sa
  have hin2 : ¬ ((1 : Int32) < 0 ∨ cl2.slots.size ≤ ((1 : Int32)).toNatClampNeg) := inb_of S2 ⟨by decide, by decide⟩
  have hat2 : cl2.slots[((1 : Int32)).toNatClampNeg]? = some (.int c1) := Hs2.at hin2 rfl
  refine own_by (T' := s₁) (g' := (mkF m 11 #[vR sa, vI 1, vI 1] [(.int c1), (.int c0)])) (fun t k => X0.iaload hx (j := (1 : Int32)) (v := (.int c1)) (by rw [e0]; exact Ar2.1) (State.isArrayOf_alike hZ.alike Ar2.2.1) Ar2.2.2 hin2 hat2 (g := (mkF m 10 #[vR sa, vI 1, vI 1] [(.int 1), (.ref sa), (.int c0)])) rfl rfl (hb hby d2_10) _ k) ?_
  clear hat2 hin2 G2 Hs2 N2 S2 q2 Ar2 cl2
  by_cases hc11_3 : c0 = c1
  · refine own_by (T' := s₁) (g' := (mkF m 14 #[vR sa, vI 1, vI 1] [])) (fun t k => XS.icmpNo X0.here hx rfl (hb hby d2_11) rfl (teq hc11_3).2 k) ?_
    refine own_by (T' := s₁) (g' := (mkF m 15 #[vR sa, vI 1, vI 1] [(.int 1)])) (fun t k => XS.iloadN X0.here hx rfl (hb hby d2_14) rfl k) ?_
    refine own_by (T' := s₁) (g' := (mkF m 16 #[vR sa, vI 1, vI 1] [(.int 2), (.int 1)])) (fun t k => XS.iconst X0.here hx rfl (hb hby d2_15) k) ?_
    refine own_by (T' := s₁) (g' := (mkF m 30 #[vR sa, vI 1, vI 1] [])) (fun t k => XS.icmpYes X0.here hx rfl (pc0 := 16) (pc' := 30) rfl (hb hby d2_16) rfl (tlt (by decide)).1 (by decide) (by decide) k) ?_
    refine own_by (T' := s₁) (g' := (mkF m 31 #[vR sa, vI 1, vI 1] [(.int 1)])) (fun t k => XS.iloadN X0.here hx rfl (hb hby d2_30) rfl k) ?_
    refine own_by (T' := s₁) (g' := (mkF m 32 #[vR sa, vI 1, vI 1] [(.int 3), (.int 1)])) (fun t k => XS.iconst X0.here hx rfl (hb hby d2_31) k) ?_
    refine own_by (T' := s₁) (g' := (mkF m 46 #[vR sa, vI 1, vI 1] [])) (fun t k => XS.icmpYes X0.here hx rfl (pc0 := 32) (pc' := 46) rfl (hb hby d2_32) rfl (tlt (by decide)).1 (by decide) (by decide) k) ?_
    refine own_by (T' := s₁) (g' := (mkF m 47 #[vR sa, vI 1, vI 1] [(.int 1)])) (fun t k => XS.iloadN X0.here hx rfl (hb hby d2_46) rfl k) ?_
    refine own_by (T' := s₁) (g' := (mkF m 48 #[vR sa, vI 1, vI 1] [(.int 4), (.int 1)])) (fun t k => XS.iconst X0.here hx rfl (hb hby d2_47) k) ?_
    refine own_by (T' := s₁) (g' := (mkF m 62 #[vR sa, vI 1, vI 1] [])) (fun t k => XS.icmpYes X0.here hx rfl (pc0 := 48) (pc' := 62) rfl (hb hby d2_48) rfl (tlt (by decide)).1 (by decide) (by decide) k) ?_
    refine own_by (T' := s₁) (g' := (mkF m 63 #[vR sa, vI 1, vI 1] [(.int 1)])) (fun t k => XS.iconst X0.here hx rfl (hb hby d2_62) k) ?_
    refine own_by (T' := s₁) (g' := (mkF m 67 #[vR sa, vI 1, vI 1] [(.int 1)])) (fun t k => XS.goto X0.here hx rfl (pc0 := 63) (pc' := 67) rfl (hb hby d2_63) (by decide) (by decide) k) ?_
    exact own_retN X0 hx (t := .boolean) Bd.notSynchronized Bd.returns (by simp) (hb hby d2_67) (by decide) (by decide) (by rw [e0]; exact ⟨by unfold own_eq1_1; rw [if_pos hc11_3]; rfl, N_, rfl⟩)
  · refine own_by (T' := s₁) (g' := (mkF m 66 #[vR sa, vI 1, vI 1] [])) (fun t k => XS.icmpYes X0.here hx rfl (pc0 := 11) (pc' := 66) rfl (hb hby d2_11) rfl (feq hc11_3).2 (by decide) (by decide) k) ?_
    refine own_by (T' := s₁) (g' := (mkF m 67 #[vR sa, vI 1, vI 1] [(.int 0)])) (fun t k => XS.iconst X0.here hx rfl (hb hby d2_66) k) ?_
    exact own_retN X0 hx (t := .boolean) Bd.notSynchronized Bd.returns (by simp) (hb hby d2_67) (by decide) (by decide) (by rw [e0]; exact ⟨by unfold own_eq1_1; rw [if_neg hc11_3]; rfl, N_, rfl⟩)

def Q2_1_2 (Z : State) (sa : Addr) (ks : ClassId) (c0 : Int32) (c1 : Int32) (c2 : Int32) (c3 : Int32) (c4 : Int32) (h0 : Heap) (n0 : Nat) (v : Option Value) (h : Heap) (L : List Loc) : Prop := v = some (.int (own_eq1_2 c0 c1 c2 c3 c4)) ∧ Fr n0 L ∧ h = h0
theorem ef_2_1_2 (m : MethodId) (sa : Addr) : entryFrame m #[(.ref sa), (.int 1), (.int 2)] 3 = mkF m 0 #[vR sa, vI 1, vI 2] [] := by first | (simp [entryFrame, mkF, argsToLocals, Value.category]; done) | rfl
theorem d2_19 : decode method_6_code 19 = .ok (.aload_n 0, 1) := by decide +kernel
theorem d2_20 : decode method_6_code 20 = .ok (.iconst 1, 1) := by decide +kernel
theorem d2_21 : decode method_6_code 21 = .ok (.iaload, 1) := by decide +kernel
theorem d2_22 : decode method_6_code 22 = .ok (.aload_n 0, 1) := by decide +kernel
theorem d2_23 : decode method_6_code 23 = .ok (.iload_n 1, 1) := by decide +kernel
theorem d2_24 : decode method_6_code 24 = .ok (.iconst 1, 1) := by decide +kernel
theorem d2_25 : decode method_6_code 25 = .ok (.iadd, 1) := by decide +kernel
theorem d2_26 : decode method_6_code 26 = .ok (.iaload, 1) := by decide +kernel
theorem d2_27 : decode method_6_code 27 = .ok (.if_icmp .ne 39, 3) := by decide +kernel
set_option maxRecDepth 65536 in
set_option maxHeartbeats 40000000 in
theorem rm2_1_2 (l : Launch) (Z : State) (a0 : Array Value) (hw : ∀ d ∈ tables_1, d.before a0 Z = true) (ws : List Jvm.Cond) (sa : Addr) (ks : ClassId) (c0 : Int32) (c1 : Int32) (c2 : Int32) (c3 : Int32) (c4 : Int32) (h0 : Heap) (n0 : Nat) (Zle : n0 ≤ h0.size) (V_sa : Arv Z h0 sa ks .int (5 : Int32) [(.int c0), (.int c1), (.int c2), (.int c3), (.int c4)] (.int 0)) :
    MetFree l (⟨"com/example/emu/emu/TableFormFromPrefixPinLaw", "match", "([III)Z"⟩ : MethodName) (head1 (Jvm.Cond.code (⟨"com/example/emu/emu/TableFormFromPrefixPinLaw", "match", "([III)Z"⟩ : MethodName) method_6_code 3 (some .boolean) :: ws) ({ frames := 0, cells := 0, slots := 0, locals := 0 } : Room)) (fun a U => a = #[(.ref sa), (.int 1), (.int 2)] ∧ Z.Warmed39 U.vm ∧ U.heap = h0) (fun _ _ _ _ _ => True) (fun _ U o U' => ∃ v L, o = .returned v ∧ Q2_1_2 Z sa ks c0 c1 c2 c3 c4 h0 n0 v U'.heap L ∧ FrameEnd U o U' L ({ frames := 0, cells := 0, slots := 0, locals := 0 } : Room).cells ({ frames := 0, cells := 0, slots := 0, locals := 0 } : Room).slots) := by
  refine MetFree.of_bodySF (plainFor_of_name pn_com_example_emu_emu_TableFormFromPrefixPinLaw) hisR ?_
  intro p e s m args below meth c s₁ Bd hml0 hP hK
  obtain ⟨rfl, hZ, hh⟩ := hP
  have hx := Bd.exec
  have hby := Bd.bytes
  have hml : c.maxLocals = 3 := hml0
  have hown : s.vm.findClass "com/example/emu/emu/TableFormFromPrefixPinLaw" = some m.cls := findClass_of_methodNamed Bd.named
  have hnm := (name_of_methodNamed Bd.named Bd.method).1
  have X0 : Stand p l e ({ frames := 0, cells := 0, slots := 0, locals := 0 } : Room) s m #[(.ref sa), (.int 1), (.int 2)] below meth c s₁ [] 0 0 := Stand.of_body Bd
  have e0 : s₁.heap = h0 := by rw [← hh, Bd.state]; rfl
  have N_ := Fr.nil n0
  show own_Goes p.tables e below s (Q2_1_2 Z sa ks c0 c1 c2 c3 c4 h0 n0) ({ frames := 0, cells := 0, slots := 0, locals := 0 } : Room).cells ({ frames := 0, cells := 0, slots := 0, locals := 0 } : Room).slots s₁ (entryFrame m #[(.ref sa), (.int 1), (.int 2)] 3)
  refine own_by (T' := s₁) (g' := (mkF m 0 #[vR sa, vI 1, vI 2] [])) (fun t k => castTop (ef_2_1_2 m sa) k) ?_
  refine own_by (T' := s₁) (g' := (mkF m 1 #[vR sa, vI 1, vI 2] [(.int 2)])) (fun t k => XS.iloadN X0.here hx rfl (hb hby d2_0) rfl k) ?_
  refine own_by (T' := s₁) (g' := (mkF m 2 #[vR sa, vI 1, vI 2] [(.int 1), (.int 2)])) (fun t k => XS.iconst X0.here hx rfl (hb hby d2_1) k) ?_
  refine own_by (T' := s₁) (g' := (mkF m 5 #[vR sa, vI 1, vI 2] [])) (fun t k => XS.icmpNo X0.here hx rfl (hb hby d2_2) rfl (flt (by decide)).1 k) ?_
  refine own_by (T' := s₁) (g' := (mkF m 6 #[vR sa, vI 1, vI 2] [(.ref sa)])) (fun t k => XS.aloadN X0.here hx rfl (hb hby d2_5) rfl rfl k) ?_
  refine own_by (T' := s₁) (g' := (mkF m 7 #[vR sa, vI 1, vI 2] [(.int 0), (.ref sa)])) (fun t k => XS.iconst X0.here hx rfl (hb hby d2_6) k) ?_
  obtain ⟨cl1, Ar1, q1, S1, N1, Hs1, G1⟩ := id V_sa
  have hin1 : ¬ ((0 : Int32) < 0 ∨ cl1.slots.size ≤ ((0 : Int32)).toNatClampNeg) := inb_of S1 ⟨by decide, by decide⟩
  have hat1 : cl1.slots[((0 : Int32)).toNatClampNeg]? = some (.int c0) := Hs1.at hin1 rfl
  refine own_by (T' := s₁) (g' := (mkF m 8 #[vR sa, vI 1, vI 2] [(.int c0)])) (fun t k => X0.iaload hx (j := (0 : Int32)) (v := (.int c0)) (by rw [e0]; exact Ar1.1) (State.isArrayOf_alike hZ.alike Ar1.2.1) Ar1.2.2 hin1 hat1 (g := (mkF m 7 #[vR sa, vI 1, vI 2] [(.int 0), (.ref sa)])) rfl rfl (hb hby d2_7) _ k) ?_
  clear hat1 hin1 G1 Hs1 N1 S1 q1 Ar1 cl1
  refine own_by (T' := s₁) (g' := (mkF m 9 #[vR sa, vI 1, vI 2] [(.ref sa), (.int c0)])) (fun t k => XS.aloadN X0.here hx rfl (hb hby d2_8) rfl rfl k) ?_
  refine own_by (T' := s₁) (g' := (mkF m 10 #[vR sa, vI 1, vI 2] [(.int 1), (.ref sa), (.int c0)])) (fun t k => XS.iloadN X0.here hx rfl (hb hby d2_9) rfl k) ?_
  obtain ⟨cl2, Ar2, q2, S2, N2, Hs2, G2⟩ := id V_sa
  have hin2 : ¬ ((1 : Int32) < 0 ∨ cl2.slots.size ≤ ((1 : Int32)).toNatClampNeg) := inb_of S2 ⟨by decide, by decide⟩
  have hat2 : cl2.slots[((1 : Int32)).toNatClampNeg]? = some (.int c1) := Hs2.at hin2 rfl
  refine own_by (T' := s₁) (g' := (mkF m 11 #[vR sa, vI 1, vI 2] [(.int c1), (.int c0)])) (fun t k => X0.iaload hx (j := (1 : Int32)) (v := (.int c1)) (by rw [e0]; exact Ar2.1) (State.isArrayOf_alike hZ.alike Ar2.2.1) Ar2.2.2 hin2 hat2 (g := (mkF m 10 #[vR sa, vI 1, vI 2] [(.int 1), (.ref sa), (.int c0)])) rfl rfl (hb hby d2_10) _ k) ?_
  clear hat2 hin2 G2 Hs2 N2 S2 q2 Ar2 cl2
  by_cases hc11_3 : c0 = c1
  · refine own_by (T' := s₁) (g' := (mkF m 14 #[vR sa, vI 1, vI 2] [])) (fun t k => XS.icmpNo X0.here hx rfl (hb hby d2_11) rfl (teq hc11_3).2 k) ?_
    refine own_by (T' := s₁) (g' := (mkF m 15 #[vR sa, vI 1, vI 2] [(.int 2)])) (fun t k => XS.iloadN X0.here hx rfl (hb hby d2_14) rfl k) ?_
    refine own_by (T' := s₁) (g' := (mkF m 16 #[vR sa, vI 1, vI 2] [(.int 2), (.int 2)])) (fun t k => XS.iconst X0.here hx rfl (hb hby d2_15) k) ?_
    refine own_by (T' := s₁) (g' := (mkF m 19 #[vR sa, vI 1, vI 2] [])) (fun t k => XS.icmpNo X0.here hx rfl (hb hby d2_16) rfl (flt (by decide)).1 k) ?_
    refine own_by (T' := s₁) (g' := (mkF m 20 #[vR sa, vI 1, vI 2] [(.ref sa)])) (fun t k => XS.aloadN X0.here hx rfl (hb hby d2_19) rfl rfl k) ?_
    refine own_by (T' := s₁) (g' := (mkF m 21 #[vR sa, vI 1, vI 2] [(.int 1), (.ref sa)])) (fun t k => XS.iconst X0.here hx rfl (hb hby d2_20) k) ?_
    obtain ⟨cl4, Ar4, q4, S4, N4, Hs4, G4⟩ := id V_sa
    have hin4 : ¬ ((1 : Int32) < 0 ∨ cl4.slots.size ≤ ((1 : Int32)).toNatClampNeg) := inb_of S4 ⟨by decide, by decide⟩
    have hat4 : cl4.slots[((1 : Int32)).toNatClampNeg]? = some (.int c1) := Hs4.at hin4 rfl
    refine own_by (T' := s₁) (g' := (mkF m 22 #[vR sa, vI 1, vI 2] [(.int c1)])) (fun t k => X0.iaload hx (j := (1 : Int32)) (v := (.int c1)) (by rw [e0]; exact Ar4.1) (State.isArrayOf_alike hZ.alike Ar4.2.1) Ar4.2.2 hin4 hat4 (g := (mkF m 21 #[vR sa, vI 1, vI 2] [(.int 1), (.ref sa)])) rfl rfl (hb hby d2_21) _ k) ?_
    clear hat4 hin4 G4 Hs4 N4 S4 q4 Ar4 cl4
    refine own_by (T' := s₁) (g' := (mkF m 23 #[vR sa, vI 1, vI 2] [(.ref sa), (.int c1)])) (fun t k => XS.aloadN X0.here hx rfl (hb hby d2_22) rfl rfl k) ?_
    refine own_by (T' := s₁) (g' := (mkF m 24 #[vR sa, vI 1, vI 2] [(.int 1), (.ref sa), (.int c1)])) (fun t k => XS.iloadN X0.here hx rfl (hb hby d2_23) rfl k) ?_
    refine own_by (T' := s₁) (g' := (mkF m 25 #[vR sa, vI 1, vI 2] [(.int 1), (.int 1), (.ref sa), (.int c1)])) (fun t k => XS.iconst X0.here hx rfl (hb hby d2_24) k) ?_
    refine own_by (T' := s₁) (g' := (mkF m 26 #[vR sa, vI 1, vI 2] [(.int 2), (.ref sa), (.int c1)])) (fun t k => XS.iadd X0.here hx rfl (hb hby d2_25) rfl k) ?_
    obtain ⟨cl5, Ar5, q5, S5, N5, Hs5, G5⟩ := id V_sa
    have hin5 : ¬ ((2 : Int32) < 0 ∨ cl5.slots.size ≤ ((2 : Int32)).toNatClampNeg) := inb_of S5 ⟨by decide, by decide⟩
    have hat5 : cl5.slots[((2 : Int32)).toNatClampNeg]? = some (.int c2) := Hs5.at hin5 rfl
    refine own_by (T' := s₁) (g' := (mkF m 27 #[vR sa, vI 1, vI 2] [(.int c2), (.int c1)])) (fun t k => X0.iaload hx (j := (2 : Int32)) (v := (.int c2)) (by rw [e0]; exact Ar5.1) (State.isArrayOf_alike hZ.alike Ar5.2.1) Ar5.2.2 hin5 hat5 (g := (mkF m 26 #[vR sa, vI 1, vI 2] [(.int 2), (.ref sa), (.int c1)])) rfl rfl (hb hby d2_26) _ k) ?_
    clear hat5 hin5 G5 Hs5 N5 S5 q5 Ar5 cl5
    by_cases hc27_6 : c1 = c2
    · refine own_by (T' := s₁) (g' := (mkF m 30 #[vR sa, vI 1, vI 2] [])) (fun t k => XS.icmpNo X0.here hx rfl (hb hby d2_27) rfl (teq hc27_6).2 k) ?_
      refine own_by (T' := s₁) (g' := (mkF m 31 #[vR sa, vI 1, vI 2] [(.int 2)])) (fun t k => XS.iloadN X0.here hx rfl (hb hby d2_30) rfl k) ?_
      refine own_by (T' := s₁) (g' := (mkF m 32 #[vR sa, vI 1, vI 2] [(.int 3), (.int 2)])) (fun t k => XS.iconst X0.here hx rfl (hb hby d2_31) k) ?_
      refine own_by (T' := s₁) (g' := (mkF m 46 #[vR sa, vI 1, vI 2] [])) (fun t k => XS.icmpYes X0.here hx rfl (pc0 := 32) (pc' := 46) rfl (hb hby d2_32) rfl (tlt (by decide)).1 (by decide) (by decide) k) ?_
      refine own_by (T' := s₁) (g' := (mkF m 47 #[vR sa, vI 1, vI 2] [(.int 2)])) (fun t k => XS.iloadN X0.here hx rfl (hb hby d2_46) rfl k) ?_
      refine own_by (T' := s₁) (g' := (mkF m 48 #[vR sa, vI 1, vI 2] [(.int 4), (.int 2)])) (fun t k => XS.iconst X0.here hx rfl (hb hby d2_47) k) ?_
      refine own_by (T' := s₁) (g' := (mkF m 62 #[vR sa, vI 1, vI 2] [])) (fun t k => XS.icmpYes X0.here hx rfl (pc0 := 48) (pc' := 62) rfl (hb hby d2_48) rfl (tlt (by decide)).1 (by decide) (by decide) k) ?_
      refine own_by (T' := s₁) (g' := (mkF m 63 #[vR sa, vI 1, vI 2] [(.int 1)])) (fun t k => XS.iconst X0.here hx rfl (hb hby d2_62) k) ?_
      refine own_by (T' := s₁) (g' := (mkF m 67 #[vR sa, vI 1, vI 2] [(.int 1)])) (fun t k => XS.goto X0.here hx rfl (pc0 := 63) (pc' := 67) rfl (hb hby d2_63) (by decide) (by decide) k) ?_
      exact own_retN X0 hx (t := .boolean) Bd.notSynchronized Bd.returns (by simp) (hb hby d2_67) (by decide) (by decide) (by rw [e0]; exact ⟨by unfold own_eq1_2; rw [if_pos hc11_3, if_pos hc27_6]; rfl, N_, rfl⟩)
    · refine own_by (T' := s₁) (g' := (mkF m 66 #[vR sa, vI 1, vI 2] [])) (fun t k => XS.icmpYes X0.here hx rfl (pc0 := 27) (pc' := 66) rfl (hb hby d2_27) rfl (feq hc27_6).2 (by decide) (by decide) k) ?_
      refine own_by (T' := s₁) (g' := (mkF m 67 #[vR sa, vI 1, vI 2] [(.int 0)])) (fun t k => XS.iconst X0.here hx rfl (hb hby d2_66) k) ?_
      exact own_retN X0 hx (t := .boolean) Bd.notSynchronized Bd.returns (by simp) (hb hby d2_67) (by decide) (by decide) (by rw [e0]; exact ⟨by unfold own_eq1_2; rw [if_pos hc11_3, if_neg hc27_6]; rfl, N_, rfl⟩)
  · refine own_by (T' := s₁) (g' := (mkF m 66 #[vR sa, vI 1, vI 2] [])) (fun t k => XS.icmpYes X0.here hx rfl (pc0 := 11) (pc' := 66) rfl (hb hby d2_11) rfl (feq hc11_3).2 (by decide) (by decide) k) ?_
    refine own_by (T' := s₁) (g' := (mkF m 67 #[vR sa, vI 1, vI 2] [(.int 0)])) (fun t k => XS.iconst X0.here hx rfl (hb hby d2_66) k) ?_
    exact own_retN X0 hx (t := .boolean) Bd.notSynchronized Bd.returns (by simp) (hb hby d2_67) (by decide) (by decide) (by rw [e0]; exact ⟨by unfold own_eq1_2; rw [if_neg hc11_3]; rfl, N_, rfl⟩)

def Q2_1_3 (Z : State) (sa : Addr) (ks : ClassId) (c0 : Int32) (c1 : Int32) (c2 : Int32) (c3 : Int32) (c4 : Int32) (h0 : Heap) (n0 : Nat) (v : Option Value) (h : Heap) (L : List Loc) : Prop := v = some (.int (own_eq1_3 c0 c1 c2 c3 c4)) ∧ Fr n0 L ∧ h = h0
theorem ef_2_1_3 (m : MethodId) (sa : Addr) : entryFrame m #[(.ref sa), (.int 1), (.int 3)] 3 = mkF m 0 #[vR sa, vI 1, vI 3] [] := by first | (simp [entryFrame, mkF, argsToLocals, Value.category]; done) | rfl
theorem d2_35 : decode method_6_code 35 = .ok (.aload_n 0, 1) := by decide +kernel
theorem d2_36 : decode method_6_code 36 = .ok (.iconst 2, 1) := by decide +kernel
theorem d2_37 : decode method_6_code 37 = .ok (.iaload, 1) := by decide +kernel
theorem d2_38 : decode method_6_code 38 = .ok (.aload_n 0, 1) := by decide +kernel
theorem d2_39 : decode method_6_code 39 = .ok (.iload_n 1, 1) := by decide +kernel
theorem d2_40 : decode method_6_code 40 = .ok (.iconst 2, 1) := by decide +kernel
theorem d2_41 : decode method_6_code 41 = .ok (.iadd, 1) := by decide +kernel
theorem d2_42 : decode method_6_code 42 = .ok (.iaload, 1) := by decide +kernel
theorem d2_43 : decode method_6_code 43 = .ok (.if_icmp .ne 23, 3) := by decide +kernel
set_option maxRecDepth 65536 in
set_option maxHeartbeats 40000000 in
theorem rm2_1_3 (l : Launch) (Z : State) (a0 : Array Value) (hw : ∀ d ∈ tables_1, d.before a0 Z = true) (ws : List Jvm.Cond) (sa : Addr) (ks : ClassId) (c0 : Int32) (c1 : Int32) (c2 : Int32) (c3 : Int32) (c4 : Int32) (h0 : Heap) (n0 : Nat) (Zle : n0 ≤ h0.size) (V_sa : Arv Z h0 sa ks .int (5 : Int32) [(.int c0), (.int c1), (.int c2), (.int c3), (.int c4)] (.int 0)) :
    MetFree l (⟨"com/example/emu/emu/TableFormFromPrefixPinLaw", "match", "([III)Z"⟩ : MethodName) (head1 (Jvm.Cond.code (⟨"com/example/emu/emu/TableFormFromPrefixPinLaw", "match", "([III)Z"⟩ : MethodName) method_6_code 3 (some .boolean) :: ws) ({ frames := 0, cells := 0, slots := 0, locals := 0 } : Room)) (fun a U => a = #[(.ref sa), (.int 1), (.int 3)] ∧ Z.Warmed39 U.vm ∧ U.heap = h0) (fun _ _ _ _ _ => True) (fun _ U o U' => ∃ v L, o = .returned v ∧ Q2_1_3 Z sa ks c0 c1 c2 c3 c4 h0 n0 v U'.heap L ∧ FrameEnd U o U' L ({ frames := 0, cells := 0, slots := 0, locals := 0 } : Room).cells ({ frames := 0, cells := 0, slots := 0, locals := 0 } : Room).slots) := by
  refine MetFree.of_bodySF (plainFor_of_name pn_com_example_emu_emu_TableFormFromPrefixPinLaw) hisR ?_
  intro p e s m args below meth c s₁ Bd hml0 hP hK
  obtain ⟨rfl, hZ, hh⟩ := hP
  have hx := Bd.exec
  have hby := Bd.bytes
  have hml : c.maxLocals = 3 := hml0
  have hown : s.vm.findClass "com/example/emu/emu/TableFormFromPrefixPinLaw" = some m.cls := findClass_of_methodNamed Bd.named
  have hnm := (name_of_methodNamed Bd.named Bd.method).1
  have X0 : Stand p l e ({ frames := 0, cells := 0, slots := 0, locals := 0 } : Room) s m #[(.ref sa), (.int 1), (.int 3)] below meth c s₁ [] 0 0 := Stand.of_body Bd
  have e0 : s₁.heap = h0 := by rw [← hh, Bd.state]; rfl
  have N_ := Fr.nil n0
  show own_Goes p.tables e below s (Q2_1_3 Z sa ks c0 c1 c2 c3 c4 h0 n0) ({ frames := 0, cells := 0, slots := 0, locals := 0 } : Room).cells ({ frames := 0, cells := 0, slots := 0, locals := 0 } : Room).slots s₁ (entryFrame m #[(.ref sa), (.int 1), (.int 3)] 3)
  refine own_by (T' := s₁) (g' := (mkF m 0 #[vR sa, vI 1, vI 3] [])) (fun t k => castTop (ef_2_1_3 m sa) k) ?_
  refine own_by (T' := s₁) (g' := (mkF m 1 #[vR sa, vI 1, vI 3] [(.int 3)])) (fun t k => XS.iloadN X0.here hx rfl (hb hby d2_0) rfl k) ?_
  refine own_by (T' := s₁) (g' := (mkF m 2 #[vR sa, vI 1, vI 3] [(.int 1), (.int 3)])) (fun t k => XS.iconst X0.here hx rfl (hb hby d2_1) k) ?_
  refine own_by (T' := s₁) (g' := (mkF m 5 #[vR sa, vI 1, vI 3] [])) (fun t k => XS.icmpNo X0.here hx rfl (hb hby d2_2) rfl (flt (by decide)).1 k) ?_
  refine own_by (T' := s₁) (g' := (mkF m 6 #[vR sa, vI 1, vI 3] [(.ref sa)])) (fun t k => XS.aloadN X0.here hx rfl (hb hby d2_5) rfl rfl k) ?_
  refine own_by (T' := s₁) (g' := (mkF m 7 #[vR sa, vI 1, vI 3] [(.int 0), (.ref sa)])) (fun t k => XS.iconst X0.here hx rfl (hb hby d2_6) k) ?_
  obtain ⟨cl1, Ar1, q1, S1, N1, Hs1, G1⟩ := id V_sa
  have hin1 : ¬ ((0 : Int32) < 0 ∨ cl1.slots.size ≤ ((0 : Int32)).toNatClampNeg) := inb_of S1 ⟨by decide, by decide⟩
  have hat1 : cl1.slots[((0 : Int32)).toNatClampNeg]? = some (.int c0) := Hs1.at hin1 rfl
  refine own_by (T' := s₁) (g' := (mkF m 8 #[vR sa, vI 1, vI 3] [(.int c0)])) (fun t k => X0.iaload hx (j := (0 : Int32)) (v := (.int c0)) (by rw [e0]; exact Ar1.1) (State.isArrayOf_alike hZ.alike Ar1.2.1) Ar1.2.2 hin1 hat1 (g := (mkF m 7 #[vR sa, vI 1, vI 3] [(.int 0), (.ref sa)])) rfl rfl (hb hby d2_7) _ k) ?_
  clear hat1 hin1 G1 Hs1 N1 S1 q1 Ar1 cl1
  refine own_by (T' := s₁) (g' := (mkF m 9 #[vR sa, vI 1, vI 3] [(.ref sa), (.int c0)])) (fun t k => XS.aloadN X0.here hx rfl (hb hby d2_8) rfl rfl k) ?_
  refine own_by (T' := s₁) (g' := (mkF m 10 #[vR sa, vI 1, vI 3] [(.int 1), (.ref sa), (.int c0)])) (fun t k => XS.iloadN X0.here hx rfl (hb hby d2_9) rfl k) ?_
  obtain ⟨cl2, Ar2, q2, S2, N2, Hs2, G2⟩ := id V_sa
  have hin2 : ¬ ((1 : Int32) < 0 ∨ cl2.slots.size ≤ ((1 : Int32)).toNatClampNeg) := inb_of S2 ⟨by decide, by decide⟩
  have hat2 : cl2.slots[((1 : Int32)).toNatClampNeg]? = some (.int c1) := Hs2.at hin2 rfl
  refine own_by (T' := s₁) (g' := (mkF m 11 #[vR sa, vI 1, vI 3] [(.int c1), (.int c0)])) (fun t k => X0.iaload hx (j := (1 : Int32)) (v := (.int c1)) (by rw [e0]; exact Ar2.1) (State.isArrayOf_alike hZ.alike Ar2.2.1) Ar2.2.2 hin2 hat2 (g := (mkF m 10 #[vR sa, vI 1, vI 3] [(.int 1), (.ref sa), (.int c0)])) rfl rfl (hb hby d2_10) _ k) ?_
  clear hat2 hin2 G2 Hs2 N2 S2 q2 Ar2 cl2
  by_cases hc11_3 : c0 = c1
  · refine own_by (T' := s₁) (g' := (mkF m 14 #[vR sa, vI 1, vI 3] [])) (fun t k => XS.icmpNo X0.here hx rfl (hb hby d2_11) rfl (teq hc11_3).2 k) ?_
    refine own_by (T' := s₁) (g' := (mkF m 15 #[vR sa, vI 1, vI 3] [(.int 3)])) (fun t k => XS.iloadN X0.here hx rfl (hb hby d2_14) rfl k) ?_
    refine own_by (T' := s₁) (g' := (mkF m 16 #[vR sa, vI 1, vI 3] [(.int 2), (.int 3)])) (fun t k => XS.iconst X0.here hx rfl (hb hby d2_15) k) ?_
    refine own_by (T' := s₁) (g' := (mkF m 19 #[vR sa, vI 1, vI 3] [])) (fun t k => XS.icmpNo X0.here hx rfl (hb hby d2_16) rfl (flt (by decide)).1 k) ?_
    refine own_by (T' := s₁) (g' := (mkF m 20 #[vR sa, vI 1, vI 3] [(.ref sa)])) (fun t k => XS.aloadN X0.here hx rfl (hb hby d2_19) rfl rfl k) ?_
    refine own_by (T' := s₁) (g' := (mkF m 21 #[vR sa, vI 1, vI 3] [(.int 1), (.ref sa)])) (fun t k => XS.iconst X0.here hx rfl (hb hby d2_20) k) ?_
    obtain ⟨cl4, Ar4, q4, S4, N4, Hs4, G4⟩ := id V_sa
    have hin4 : ¬ ((1 : Int32) < 0 ∨ cl4.slots.size ≤ ((1 : Int32)).toNatClampNeg) := inb_of S4 ⟨by decide, by decide⟩
    have hat4 : cl4.slots[((1 : Int32)).toNatClampNeg]? = some (.int c1) := Hs4.at hin4 rfl
    refine own_by (T' := s₁) (g' := (mkF m 22 #[vR sa, vI 1, vI 3] [(.int c1)])) (fun t k => X0.iaload hx (j := (1 : Int32)) (v := (.int c1)) (by rw [e0]; exact Ar4.1) (State.isArrayOf_alike hZ.alike Ar4.2.1) Ar4.2.2 hin4 hat4 (g := (mkF m 21 #[vR sa, vI 1, vI 3] [(.int 1), (.ref sa)])) rfl rfl (hb hby d2_21) _ k) ?_
    clear hat4 hin4 G4 Hs4 N4 S4 q4 Ar4 cl4
    refine own_by (T' := s₁) (g' := (mkF m 23 #[vR sa, vI 1, vI 3] [(.ref sa), (.int c1)])) (fun t k => XS.aloadN X0.here hx rfl (hb hby d2_22) rfl rfl k) ?_
    refine own_by (T' := s₁) (g' := (mkF m 24 #[vR sa, vI 1, vI 3] [(.int 1), (.ref sa), (.int c1)])) (fun t k => XS.iloadN X0.here hx rfl (hb hby d2_23) rfl k) ?_
    refine own_by (T' := s₁) (g' := (mkF m 25 #[vR sa, vI 1, vI 3] [(.int 1), (.int 1), (.ref sa), (.int c1)])) (fun t k => XS.iconst X0.here hx rfl (hb hby d2_24) k) ?_
    refine own_by (T' := s₁) (g' := (mkF m 26 #[vR sa, vI 1, vI 3] [(.int 2), (.ref sa), (.int c1)])) (fun t k => XS.iadd X0.here hx rfl (hb hby d2_25) rfl k) ?_
    obtain ⟨cl5, Ar5, q5, S5, N5, Hs5, G5⟩ := id V_sa
    have hin5 : ¬ ((2 : Int32) < 0 ∨ cl5.slots.size ≤ ((2 : Int32)).toNatClampNeg) := inb_of S5 ⟨by decide, by decide⟩
    have hat5 : cl5.slots[((2 : Int32)).toNatClampNeg]? = some (.int c2) := Hs5.at hin5 rfl
    refine own_by (T' := s₁) (g' := (mkF m 27 #[vR sa, vI 1, vI 3] [(.int c2), (.int c1)])) (fun t k => X0.iaload hx (j := (2 : Int32)) (v := (.int c2)) (by rw [e0]; exact Ar5.1) (State.isArrayOf_alike hZ.alike Ar5.2.1) Ar5.2.2 hin5 hat5 (g := (mkF m 26 #[vR sa, vI 1, vI 3] [(.int 2), (.ref sa), (.int c1)])) rfl rfl (hb hby d2_26) _ k) ?_
    clear hat5 hin5 G5 Hs5 N5 S5 q5 Ar5 cl5
    by_cases hc27_6 : c1 = c2
    · refine own_by (T' := s₁) (g' := (mkF m 30 #[vR sa, vI 1, vI 3] [])) (fun t k => XS.icmpNo X0.here hx rfl (hb hby d2_27) rfl (teq hc27_6).2 k) ?_
      refine own_by (T' := s₁) (g' := (mkF m 31 #[vR sa, vI 1, vI 3] [(.int 3)])) (fun t k => XS.iloadN X0.here hx rfl (hb hby d2_30) rfl k) ?_
      refine own_by (T' := s₁) (g' := (mkF m 32 #[vR sa, vI 1, vI 3] [(.int 3), (.int 3)])) (fun t k => XS.iconst X0.here hx rfl (hb hby d2_31) k) ?_
      refine own_by (T' := s₁) (g' := (mkF m 35 #[vR sa, vI 1, vI 3] [])) (fun t k => XS.icmpNo X0.here hx rfl (hb hby d2_32) rfl (flt (by decide)).1 k) ?_
      refine own_by (T' := s₁) (g' := (mkF m 36 #[vR sa, vI 1, vI 3] [(.ref sa)])) (fun t k => XS.aloadN X0.here hx rfl (hb hby d2_35) rfl rfl k) ?_
      refine own_by (T' := s₁) (g' := (mkF m 37 #[vR sa, vI 1, vI 3] [(.int 2), (.ref sa)])) (fun t k => XS.iconst X0.here hx rfl (hb hby d2_36) k) ?_
      obtain ⟨cl7, Ar7, q7, S7, N7, Hs7, G7⟩ := id V_sa
      have hin7 : ¬ ((2 : Int32) < 0 ∨ cl7.slots.size ≤ ((2 : Int32)).toNatClampNeg) := inb_of S7 ⟨by decide, by decide⟩
      have hat7 : cl7.slots[((2 : Int32)).toNatClampNeg]? = some (.int c2) := Hs7.at hin7 rfl
      refine own_by (T' := s₁) (g' := (mkF m 38 #[vR sa, vI 1, vI 3] [(.int c2)])) (fun t k => X0.iaload hx (j := (2 : Int32)) (v := (.int c2)) (by rw [e0]; exact Ar7.1) (State.isArrayOf_alike hZ.alike Ar7.2.1) Ar7.2.2 hin7 hat7 (g := (mkF m 37 #[vR sa, vI 1, vI 3] [(.int 2), (.ref sa)])) rfl rfl (hb hby d2_37) _ k) ?_
      clear hat7 hin7 G7 Hs7 N7 S7 q7 Ar7 cl7
      refine own_by (T' := s₁) (g' := (mkF m 39 #[vR sa, vI 1, vI 3] [(.ref sa), (.int c2)])) (fun t k => XS.aloadN X0.here hx rfl (hb hby d2_38) rfl rfl k) ?_
      refine own_by (T' := s₁) (g' := (mkF m 40 #[vR sa, vI 1, vI 3] [(.int 1), (.ref sa), (.int c2)])) (fun t k => XS.iloadN X0.here hx rfl (hb hby d2_39) rfl k) ?_
      refine own_by (T' := s₁) (g' := (mkF m 41 #[vR sa, vI 1, vI 3] [(.int 2), (.int 1), (.ref sa), (.int c2)])) (fun t k => XS.iconst X0.here hx rfl (hb hby d2_40) k) ?_
      refine own_by (T' := s₁) (g' := (mkF m 42 #[vR sa, vI 1, vI 3] [(.int 3), (.ref sa), (.int c2)])) (fun t k => XS.iadd X0.here hx rfl (hb hby d2_41) rfl k) ?_
      obtain ⟨cl8, Ar8, q8, S8, N8, Hs8, G8⟩ := id V_sa
      have hin8 : ¬ ((3 : Int32) < 0 ∨ cl8.slots.size ≤ ((3 : Int32)).toNatClampNeg) := inb_of S8 ⟨by decide, by decide⟩
      have hat8 : cl8.slots[((3 : Int32)).toNatClampNeg]? = some (.int c3) := Hs8.at hin8 rfl
      refine own_by (T' := s₁) (g' := (mkF m 43 #[vR sa, vI 1, vI 3] [(.int c3), (.int c2)])) (fun t k => X0.iaload hx (j := (3 : Int32)) (v := (.int c3)) (by rw [e0]; exact Ar8.1) (State.isArrayOf_alike hZ.alike Ar8.2.1) Ar8.2.2 hin8 hat8 (g := (mkF m 42 #[vR sa, vI 1, vI 3] [(.int 3), (.ref sa), (.int c2)])) rfl rfl (hb hby d2_42) _ k) ?_
      clear hat8 hin8 G8 Hs8 N8 S8 q8 Ar8 cl8
      by_cases hc43_9 : c2 = c3
      · refine own_by (T' := s₁) (g' := (mkF m 46 #[vR sa, vI 1, vI 3] [])) (fun t k => XS.icmpNo X0.here hx rfl (hb hby d2_43) rfl (teq hc43_9).2 k) ?_
        refine own_by (T' := s₁) (g' := (mkF m 47 #[vR sa, vI 1, vI 3] [(.int 3)])) (fun t k => XS.iloadN X0.here hx rfl (hb hby d2_46) rfl k) ?_
        refine own_by (T' := s₁) (g' := (mkF m 48 #[vR sa, vI 1, vI 3] [(.int 4), (.int 3)])) (fun t k => XS.iconst X0.here hx rfl (hb hby d2_47) k) ?_
        refine own_by (T' := s₁) (g' := (mkF m 62 #[vR sa, vI 1, vI 3] [])) (fun t k => XS.icmpYes X0.here hx rfl (pc0 := 48) (pc' := 62) rfl (hb hby d2_48) rfl (tlt (by decide)).1 (by decide) (by decide) k) ?_
        refine own_by (T' := s₁) (g' := (mkF m 63 #[vR sa, vI 1, vI 3] [(.int 1)])) (fun t k => XS.iconst X0.here hx rfl (hb hby d2_62) k) ?_
        refine own_by (T' := s₁) (g' := (mkF m 67 #[vR sa, vI 1, vI 3] [(.int 1)])) (fun t k => XS.goto X0.here hx rfl (pc0 := 63) (pc' := 67) rfl (hb hby d2_63) (by decide) (by decide) k) ?_
        exact own_retN X0 hx (t := .boolean) Bd.notSynchronized Bd.returns (by simp) (hb hby d2_67) (by decide) (by decide) (by rw [e0]; exact ⟨by unfold own_eq1_3; rw [if_pos hc11_3, if_pos hc27_6, if_pos hc43_9]; rfl, N_, rfl⟩)
      · refine own_by (T' := s₁) (g' := (mkF m 66 #[vR sa, vI 1, vI 3] [])) (fun t k => XS.icmpYes X0.here hx rfl (pc0 := 43) (pc' := 66) rfl (hb hby d2_43) rfl (feq hc43_9).2 (by decide) (by decide) k) ?_
        refine own_by (T' := s₁) (g' := (mkF m 67 #[vR sa, vI 1, vI 3] [(.int 0)])) (fun t k => XS.iconst X0.here hx rfl (hb hby d2_66) k) ?_
        exact own_retN X0 hx (t := .boolean) Bd.notSynchronized Bd.returns (by simp) (hb hby d2_67) (by decide) (by decide) (by rw [e0]; exact ⟨by unfold own_eq1_3; rw [if_pos hc11_3, if_pos hc27_6, if_neg hc43_9]; rfl, N_, rfl⟩)
    · refine own_by (T' := s₁) (g' := (mkF m 66 #[vR sa, vI 1, vI 3] [])) (fun t k => XS.icmpYes X0.here hx rfl (pc0 := 27) (pc' := 66) rfl (hb hby d2_27) rfl (feq hc27_6).2 (by decide) (by decide) k) ?_
      refine own_by (T' := s₁) (g' := (mkF m 67 #[vR sa, vI 1, vI 3] [(.int 0)])) (fun t k => XS.iconst X0.here hx rfl (hb hby d2_66) k) ?_
      exact own_retN X0 hx (t := .boolean) Bd.notSynchronized Bd.returns (by simp) (hb hby d2_67) (by decide) (by decide) (by rw [e0]; exact ⟨by unfold own_eq1_3; rw [if_pos hc11_3, if_neg hc27_6]; rfl, N_, rfl⟩)
  · refine own_by (T' := s₁) (g' := (mkF m 66 #[vR sa, vI 1, vI 3] [])) (fun t k => XS.icmpYes X0.here hx rfl (pc0 := 11) (pc' := 66) rfl (hb hby d2_11) rfl (feq hc11_3).2 (by decide) (by decide) k) ?_
    refine own_by (T' := s₁) (g' := (mkF m 67 #[vR sa, vI 1, vI 3] [(.int 0)])) (fun t k => XS.iconst X0.here hx rfl (hb hby d2_66) k) ?_
    exact own_retN X0 hx (t := .boolean) Bd.notSynchronized Bd.returns (by simp) (hb hby d2_67) (by decide) (by decide) (by rw [e0]; exact ⟨by unfold own_eq1_3; rw [if_neg hc11_3]; rfl, N_, rfl⟩)

def Q2_1_4 (Z : State) (sa : Addr) (ks : ClassId) (c0 : Int32) (c1 : Int32) (c2 : Int32) (c3 : Int32) (c4 : Int32) (h0 : Heap) (n0 : Nat) (v : Option Value) (h : Heap) (L : List Loc) : Prop := v = some (.int (own_eq1_4 c0 c1 c2 c3 c4)) ∧ Fr n0 L ∧ h = h0
theorem ef_2_1_4 (m : MethodId) (sa : Addr) : entryFrame m #[(.ref sa), (.int 1), (.int 4)] 3 = mkF m 0 #[vR sa, vI 1, vI 4] [] := by first | (simp [entryFrame, mkF, argsToLocals, Value.category]; done) | rfl
theorem d2_51 : decode method_6_code 51 = .ok (.aload_n 0, 1) := by decide +kernel
theorem d2_52 : decode method_6_code 52 = .ok (.iconst 3, 1) := by decide +kernel
theorem d2_53 : decode method_6_code 53 = .ok (.iaload, 1) := by decide +kernel
theorem d2_54 : decode method_6_code 54 = .ok (.aload_n 0, 1) := by decide +kernel
theorem d2_55 : decode method_6_code 55 = .ok (.iload_n 1, 1) := by decide +kernel
theorem d2_56 : decode method_6_code 56 = .ok (.iconst 3, 1) := by decide +kernel
theorem d2_57 : decode method_6_code 57 = .ok (.iadd, 1) := by decide +kernel
theorem d2_58 : decode method_6_code 58 = .ok (.iaload, 1) := by decide +kernel
theorem d2_59 : decode method_6_code 59 = .ok (.if_icmp .ne 7, 3) := by decide +kernel
set_option maxRecDepth 65536 in
set_option maxHeartbeats 40000000 in
theorem rm2_1_4 (l : Launch) (Z : State) (a0 : Array Value) (hw : ∀ d ∈ tables_1, d.before a0 Z = true) (ws : List Jvm.Cond) (sa : Addr) (ks : ClassId) (c0 : Int32) (c1 : Int32) (c2 : Int32) (c3 : Int32) (c4 : Int32) (h0 : Heap) (n0 : Nat) (Zle : n0 ≤ h0.size) (V_sa : Arv Z h0 sa ks .int (5 : Int32) [(.int c0), (.int c1), (.int c2), (.int c3), (.int c4)] (.int 0)) :
    MetFree l (⟨"com/example/emu/emu/TableFormFromPrefixPinLaw", "match", "([III)Z"⟩ : MethodName) (head1 (Jvm.Cond.code (⟨"com/example/emu/emu/TableFormFromPrefixPinLaw", "match", "([III)Z"⟩ : MethodName) method_6_code 3 (some .boolean) :: ws) ({ frames := 0, cells := 0, slots := 0, locals := 0 } : Room)) (fun a U => a = #[(.ref sa), (.int 1), (.int 4)] ∧ Z.Warmed39 U.vm ∧ U.heap = h0) (fun _ _ _ _ _ => True) (fun _ U o U' => ∃ v L, o = .returned v ∧ Q2_1_4 Z sa ks c0 c1 c2 c3 c4 h0 n0 v U'.heap L ∧ FrameEnd U o U' L ({ frames := 0, cells := 0, slots := 0, locals := 0 } : Room).cells ({ frames := 0, cells := 0, slots := 0, locals := 0 } : Room).slots) := by
  refine MetFree.of_bodySF (plainFor_of_name pn_com_example_emu_emu_TableFormFromPrefixPinLaw) hisR ?_
  intro p e s m args below meth c s₁ Bd hml0 hP hK
  obtain ⟨rfl, hZ, hh⟩ := hP
  have hx := Bd.exec
  have hby := Bd.bytes
  have hml : c.maxLocals = 3 := hml0
  have hown : s.vm.findClass "com/example/emu/emu/TableFormFromPrefixPinLaw" = some m.cls := findClass_of_methodNamed Bd.named
  have hnm := (name_of_methodNamed Bd.named Bd.method).1
  have X0 : Stand p l e ({ frames := 0, cells := 0, slots := 0, locals := 0 } : Room) s m #[(.ref sa), (.int 1), (.int 4)] below meth c s₁ [] 0 0 := Stand.of_body Bd
  have e0 : s₁.heap = h0 := by rw [← hh, Bd.state]; rfl
  have N_ := Fr.nil n0
  show own_Goes p.tables e below s (Q2_1_4 Z sa ks c0 c1 c2 c3 c4 h0 n0) ({ frames := 0, cells := 0, slots := 0, locals := 0 } : Room).cells ({ frames := 0, cells := 0, slots := 0, locals := 0 } : Room).slots s₁ (entryFrame m #[(.ref sa), (.int 1), (.int 4)] 3)
  refine own_by (T' := s₁) (g' := (mkF m 0 #[vR sa, vI 1, vI 4] [])) (fun t k => castTop (ef_2_1_4 m sa) k) ?_
  refine own_by (T' := s₁) (g' := (mkF m 1 #[vR sa, vI 1, vI 4] [(.int 4)])) (fun t k => XS.iloadN X0.here hx rfl (hb hby d2_0) rfl k) ?_
  refine own_by (T' := s₁) (g' := (mkF m 2 #[vR sa, vI 1, vI 4] [(.int 1), (.int 4)])) (fun t k => XS.iconst X0.here hx rfl (hb hby d2_1) k) ?_
  refine own_by (T' := s₁) (g' := (mkF m 5 #[vR sa, vI 1, vI 4] [])) (fun t k => XS.icmpNo X0.here hx rfl (hb hby d2_2) rfl (flt (by decide)).1 k) ?_
  refine own_by (T' := s₁) (g' := (mkF m 6 #[vR sa, vI 1, vI 4] [(.ref sa)])) (fun t k => XS.aloadN X0.here hx rfl (hb hby d2_5) rfl rfl k) ?_
  refine own_by (T' := s₁) (g' := (mkF m 7 #[vR sa, vI 1, vI 4] [(.int 0), (.ref sa)])) (fun t k => XS.iconst X0.here hx rfl (hb hby d2_6) k) ?_
  obtain ⟨cl1, Ar1, q1, S1, N1, Hs1, G1⟩ := id V_sa
  have hin1 : ¬ ((0 : Int32) < 0 ∨ cl1.slots.size ≤ ((0 : Int32)).toNatClampNeg) := inb_of S1 ⟨by decide, by decide⟩
  have hat1 : cl1.slots[((0 : Int32)).toNatClampNeg]? = some (.int c0) := Hs1.at hin1 rfl
  refine own_by (T' := s₁) (g' := (mkF m 8 #[vR sa, vI 1, vI 4] [(.int c0)])) (fun t k => X0.iaload hx (j := (0 : Int32)) (v := (.int c0)) (by rw [e0]; exact Ar1.1) (State.isArrayOf_alike hZ.alike Ar1.2.1) Ar1.2.2 hin1 hat1 (g := (mkF m 7 #[vR sa, vI 1, vI 4] [(.int 0), (.ref sa)])) rfl rfl (hb hby d2_7) _ k) ?_
  clear hat1 hin1 G1 Hs1 N1 S1 q1 Ar1 cl1
  refine own_by (T' := s₁) (g' := (mkF m 9 #[vR sa, vI 1, vI 4] [(.ref sa), (.int c0)])) (fun t k => XS.aloadN X0.here hx rfl (hb hby d2_8) rfl rfl k) ?_
  refine own_by (T' := s₁) (g' := (mkF m 10 #[vR sa, vI 1, vI 4] [(.int 1), (.ref sa), (.int c0)])) (fun t k => XS.iloadN X0.here hx rfl (hb hby d2_9) rfl k) ?_
  obtain ⟨cl2, Ar2, q2, S2, N2, Hs2, G2⟩ := id V_sa
  have hin2 : ¬ ((1 : Int32) < 0 ∨ cl2.slots.size ≤ ((1 : Int32)).toNatClampNeg) := inb_of S2 ⟨by decide, by decide⟩
  have hat2 : cl2.slots[((1 : Int32)).toNatClampNeg]? = some (.int c1) := Hs2.at hin2 rfl
  refine own_by (T' := s₁) (g' := (mkF m 11 #[vR sa, vI 1, vI 4] [(.int c1), (.int c0)])) (fun t k => X0.iaload hx (j := (1 : Int32)) (v := (.int c1)) (by rw [e0]; exact Ar2.1) (State.isArrayOf_alike hZ.alike Ar2.2.1) Ar2.2.2 hin2 hat2 (g := (mkF m 10 #[vR sa, vI 1, vI 4] [(.int 1), (.ref sa), (.int c0)])) rfl rfl (hb hby d2_10) _ k) ?_
  clear hat2 hin2 G2 Hs2 N2 S2 q2 Ar2 cl2
  by_cases hc11_3 : c0 = c1
  · refine own_by (T' := s₁) (g' := (mkF m 14 #[vR sa, vI 1, vI 4] [])) (fun t k => XS.icmpNo X0.here hx rfl (hb hby d2_11) rfl (teq hc11_3).2 k) ?_
    refine own_by (T' := s₁) (g' := (mkF m 15 #[vR sa, vI 1, vI 4] [(.int 4)])) (fun t k => XS.iloadN X0.here hx rfl (hb hby d2_14) rfl k) ?_
    refine own_by (T' := s₁) (g' := (mkF m 16 #[vR sa, vI 1, vI 4] [(.int 2), (.int 4)])) (fun t k => XS.iconst X0.here hx rfl (hb hby d2_15) k) ?_
    refine own_by (T' := s₁) (g' := (mkF m 19 #[vR sa, vI 1, vI 4] [])) (fun t k => XS.icmpNo X0.here hx rfl (hb hby d2_16) rfl (flt (by decide)).1 k) ?_
    refine own_by (T' := s₁) (g' := (mkF m 20 #[vR sa, vI 1, vI 4] [(.ref sa)])) (fun t k => XS.aloadN X0.here hx rfl (hb hby d2_19) rfl rfl k) ?_
    refine own_by (T' := s₁) (g' := (mkF m 21 #[vR sa, vI 1, vI 4] [(.int 1), (.ref sa)])) (fun t k => XS.iconst X0.here hx rfl (hb hby d2_20) k) ?_
    obtain ⟨cl4, Ar4, q4, S4, N4, Hs4, G4⟩ := id V_sa
    have hin4 : ¬ ((1 : Int32) < 0 ∨ cl4.slots.size ≤ ((1 : Int32)).toNatClampNeg) := inb_of S4 ⟨by decide, by decide⟩
    have hat4 : cl4.slots[((1 : Int32)).toNatClampNeg]? = some (.int c1) := Hs4.at hin4 rfl
    refine own_by (T' := s₁) (g' := (mkF m 22 #[vR sa, vI 1, vI 4] [(.int c1)])) (fun t k => X0.iaload hx (j := (1 : Int32)) (v := (.int c1)) (by rw [e0]; exact Ar4.1) (State.isArrayOf_alike hZ.alike Ar4.2.1) Ar4.2.2 hin4 hat4 (g := (mkF m 21 #[vR sa, vI 1, vI 4] [(.int 1), (.ref sa)])) rfl rfl (hb hby d2_21) _ k) ?_
    clear hat4 hin4 G4 Hs4 N4 S4 q4 Ar4 cl4
    refine own_by (T' := s₁) (g' := (mkF m 23 #[vR sa, vI 1, vI 4] [(.ref sa), (.int c1)])) (fun t k => XS.aloadN X0.here hx rfl (hb hby d2_22) rfl rfl k) ?_
    refine own_by (T' := s₁) (g' := (mkF m 24 #[vR sa, vI 1, vI 4] [(.int 1), (.ref sa), (.int c1)])) (fun t k => XS.iloadN X0.here hx rfl (hb hby d2_23) rfl k) ?_
    refine own_by (T' := s₁) (g' := (mkF m 25 #[vR sa, vI 1, vI 4] [(.int 1), (.int 1), (.ref sa), (.int c1)])) (fun t k => XS.iconst X0.here hx rfl (hb hby d2_24) k) ?_
    refine own_by (T' := s₁) (g' := (mkF m 26 #[vR sa, vI 1, vI 4] [(.int 2), (.ref sa), (.int c1)])) (fun t k => XS.iadd X0.here hx rfl (hb hby d2_25) rfl k) ?_
    obtain ⟨cl5, Ar5, q5, S5, N5, Hs5, G5⟩ := id V_sa
    have hin5 : ¬ ((2 : Int32) < 0 ∨ cl5.slots.size ≤ ((2 : Int32)).toNatClampNeg) := inb_of S5 ⟨by decide, by decide⟩
    have hat5 : cl5.slots[((2 : Int32)).toNatClampNeg]? = some (.int c2) := Hs5.at hin5 rfl
    refine own_by (T' := s₁) (g' := (mkF m 27 #[vR sa, vI 1, vI 4] [(.int c2), (.int c1)])) (fun t k => X0.iaload hx (j := (2 : Int32)) (v := (.int c2)) (by rw [e0]; exact Ar5.1) (State.isArrayOf_alike hZ.alike Ar5.2.1) Ar5.2.2 hin5 hat5 (g := (mkF m 26 #[vR sa, vI 1, vI 4] [(.int 2), (.ref sa), (.int c1)])) rfl rfl (hb hby d2_26) _ k) ?_
    clear hat5 hin5 G5 Hs5 N5 S5 q5 Ar5 cl5
    by_cases hc27_6 : c1 = c2
    · refine own_by (T' := s₁) (g' := (mkF m 30 #[vR sa, vI 1, vI 4] [])) (fun t k => XS.icmpNo X0.here hx rfl (hb hby d2_27) rfl (teq hc27_6).2 k) ?_
      refine own_by (T' := s₁) (g' := (mkF m 31 #[vR sa, vI 1, vI 4] [(.int 4)])) (fun t k => XS.iloadN X0.here hx rfl (hb hby d2_30) rfl k) ?_
      refine own_by (T' := s₁) (g' := (mkF m 32 #[vR sa, vI 1, vI 4] [(.int 3), (.int 4)])) (fun t k => XS.iconst X0.here hx rfl (hb hby d2_31) k) ?_
      refine own_by (T' := s₁) (g' := (mkF m 35 #[vR sa, vI 1, vI 4] [])) (fun t k => XS.icmpNo X0.here hx rfl (hb hby d2_32) rfl (flt (by decide)).1 k) ?_
      refine own_by (T' := s₁) (g' := (mkF m 36 #[vR sa, vI 1, vI 4] [(.ref sa)])) (fun t k => XS.aloadN X0.here hx rfl (hb hby d2_35) rfl rfl k) ?_
      refine own_by (T' := s₁) (g' := (mkF m 37 #[vR sa, vI 1, vI 4] [(.int 2), (.ref sa)])) (fun t k => XS.iconst X0.here hx rfl (hb hby d2_36) k) ?_
      obtain ⟨cl7, Ar7, q7, S7, N7, Hs7, G7⟩ := id V_sa
      have hin7 : ¬ ((2 : Int32) < 0 ∨ cl7.slots.size ≤ ((2 : Int32)).toNatClampNeg) := inb_of S7 ⟨by decide, by decide⟩
      have hat7 : cl7.slots[((2 : Int32)).toNatClampNeg]? = some (.int c2) := Hs7.at hin7 rfl
      refine own_by (T' := s₁) (g' := (mkF m 38 #[vR sa, vI 1, vI 4] [(.int c2)])) (fun t k => X0.iaload hx (j := (2 : Int32)) (v := (.int c2)) (by rw [e0]; exact Ar7.1) (State.isArrayOf_alike hZ.alike Ar7.2.1) Ar7.2.2 hin7 hat7 (g := (mkF m 37 #[vR sa, vI 1, vI 4] [(.int 2), (.ref sa)])) rfl rfl (hb hby d2_37) _ k) ?_
      clear hat7 hin7 G7 Hs7 N7 S7 q7 Ar7 cl7
      refine own_by (T' := s₁) (g' := (mkF m 39 #[vR sa, vI 1, vI 4] [(.ref sa), (.int c2)])) (fun t k => XS.aloadN X0.here hx rfl (hb hby d2_38) rfl rfl k) ?_
      refine own_by (T' := s₁) (g' := (mkF m 40 #[vR sa, vI 1, vI 4] [(.int 1), (.ref sa), (.int c2)])) (fun t k => XS.iloadN X0.here hx rfl (hb hby d2_39) rfl k) ?_
      refine own_by (T' := s₁) (g' := (mkF m 41 #[vR sa, vI 1, vI 4] [(.int 2), (.int 1), (.ref sa), (.int c2)])) (fun t k => XS.iconst X0.here hx rfl (hb hby d2_40) k) ?_
      refine own_by (T' := s₁) (g' := (mkF m 42 #[vR sa, vI 1, vI 4] [(.int 3), (.ref sa), (.int c2)])) (fun t k => XS.iadd X0.here hx rfl (hb hby d2_41) rfl k) ?_
      obtain ⟨cl8, Ar8, q8, S8, N8, Hs8, G8⟩ := id V_sa
      have hin8 : ¬ ((3 : Int32) < 0 ∨ cl8.slots.size ≤ ((3 : Int32)).toNatClampNeg) := inb_of S8 ⟨by decide, by decide⟩
      have hat8 : cl8.slots[((3 : Int32)).toNatClampNeg]? = some (.int c3) := Hs8.at hin8 rfl
      refine own_by (T' := s₁) (g' := (mkF m 43 #[vR sa, vI 1, vI 4] [(.int c3), (.int c2)])) (fun t k => X0.iaload hx (j := (3 : Int32)) (v := (.int c3)) (by rw [e0]; exact Ar8.1) (State.isArrayOf_alike hZ.alike Ar8.2.1) Ar8.2.2 hin8 hat8 (g := (mkF m 42 #[vR sa, vI 1, vI 4] [(.int 3), (.ref sa), (.int c2)])) rfl rfl (hb hby d2_42) _ k) ?_
      clear hat8 hin8 G8 Hs8 N8 S8 q8 Ar8 cl8
      by_cases hc43_9 : c2 = c3
      · refine own_by (T' := s₁) (g' := (mkF m 46 #[vR sa, vI 1, vI 4] [])) (fun t k => XS.icmpNo X0.here hx rfl (hb hby d2_43) rfl (teq hc43_9).2 k) ?_
        refine own_by (T' := s₁) (g' := (mkF m 47 #[vR sa, vI 1, vI 4] [(.int 4)])) (fun t k => XS.iloadN X0.here hx rfl (hb hby d2_46) rfl k) ?_
        refine own_by (T' := s₁) (g' := (mkF m 48 #[vR sa, vI 1, vI 4] [(.int 4), (.int 4)])) (fun t k => XS.iconst X0.here hx rfl (hb hby d2_47) k) ?_
        refine own_by (T' := s₁) (g' := (mkF m 51 #[vR sa, vI 1, vI 4] [])) (fun t k => XS.icmpNo X0.here hx rfl (hb hby d2_48) rfl (flt (by decide)).1 k) ?_
        refine own_by (T' := s₁) (g' := (mkF m 52 #[vR sa, vI 1, vI 4] [(.ref sa)])) (fun t k => XS.aloadN X0.here hx rfl (hb hby d2_51) rfl rfl k) ?_
        refine own_by (T' := s₁) (g' := (mkF m 53 #[vR sa, vI 1, vI 4] [(.int 3), (.ref sa)])) (fun t k => XS.iconst X0.here hx rfl (hb hby d2_52) k) ?_
        obtain ⟨cl10, Ar10, q10, S10, N10, Hs10, G10⟩ := id V_sa
        have hin10 : ¬ ((3 : Int32) < 0 ∨ cl10.slots.size ≤ ((3 : Int32)).toNatClampNeg) := inb_of S10 ⟨by decide, by decide⟩
        have hat10 : cl10.slots[((3 : Int32)).toNatClampNeg]? = some (.int c3) := Hs10.at hin10 rfl
        refine own_by (T' := s₁) (g' := (mkF m 54 #[vR sa, vI 1, vI 4] [(.int c3)])) (fun t k => X0.iaload hx (j := (3 : Int32)) (v := (.int c3)) (by rw [e0]; exact Ar10.1) (State.isArrayOf_alike hZ.alike Ar10.2.1) Ar10.2.2 hin10 hat10 (g := (mkF m 53 #[vR sa, vI 1, vI 4] [(.int 3), (.ref sa)])) rfl rfl (hb hby d2_53) _ k) ?_
        clear hat10 hin10 G10 Hs10 N10 S10 q10 Ar10 cl10
        refine own_by (T' := s₁) (g' := (mkF m 55 #[vR sa, vI 1, vI 4] [(.ref sa), (.int c3)])) (fun t k => XS.aloadN X0.here hx rfl (hb hby d2_54) rfl rfl k) ?_
        refine own_by (T' := s₁) (g' := (mkF m 56 #[vR sa, vI 1, vI 4] [(.int 1), (.ref sa), (.int c3)])) (fun t k => XS.iloadN X0.here hx rfl (hb hby d2_55) rfl k) ?_
        refine own_by (T' := s₁) (g' := (mkF m 57 #[vR sa, vI 1, vI 4] [(.int 3), (.int 1), (.ref sa), (.int c3)])) (fun t k => XS.iconst X0.here hx rfl (hb hby d2_56) k) ?_
        refine own_by (T' := s₁) (g' := (mkF m 58 #[vR sa, vI 1, vI 4] [(.int 4), (.ref sa), (.int c3)])) (fun t k => XS.iadd X0.here hx rfl (hb hby d2_57) rfl k) ?_
        obtain ⟨cl11, Ar11, q11, S11, N11, Hs11, G11⟩ := id V_sa
        have hin11 : ¬ ((4 : Int32) < 0 ∨ cl11.slots.size ≤ ((4 : Int32)).toNatClampNeg) := inb_of S11 ⟨by decide, by decide⟩
        have hat11 : cl11.slots[((4 : Int32)).toNatClampNeg]? = some (.int c4) := Hs11.at hin11 rfl
        refine own_by (T' := s₁) (g' := (mkF m 59 #[vR sa, vI 1, vI 4] [(.int c4), (.int c3)])) (fun t k => X0.iaload hx (j := (4 : Int32)) (v := (.int c4)) (by rw [e0]; exact Ar11.1) (State.isArrayOf_alike hZ.alike Ar11.2.1) Ar11.2.2 hin11 hat11 (g := (mkF m 58 #[vR sa, vI 1, vI 4] [(.int 4), (.ref sa), (.int c3)])) rfl rfl (hb hby d2_58) _ k) ?_
        clear hat11 hin11 G11 Hs11 N11 S11 q11 Ar11 cl11
        by_cases hc59_12 : c3 = c4
        · refine own_by (T' := s₁) (g' := (mkF m 62 #[vR sa, vI 1, vI 4] [])) (fun t k => XS.icmpNo X0.here hx rfl (hb hby d2_59) rfl (teq hc59_12).2 k) ?_
          refine own_by (T' := s₁) (g' := (mkF m 63 #[vR sa, vI 1, vI 4] [(.int 1)])) (fun t k => XS.iconst X0.here hx rfl (hb hby d2_62) k) ?_
          refine own_by (T' := s₁) (g' := (mkF m 67 #[vR sa, vI 1, vI 4] [(.int 1)])) (fun t k => XS.goto X0.here hx rfl (pc0 := 63) (pc' := 67) rfl (hb hby d2_63) (by decide) (by decide) k) ?_
          exact own_retN X0 hx (t := .boolean) Bd.notSynchronized Bd.returns (by simp) (hb hby d2_67) (by decide) (by decide) (by rw [e0]; exact ⟨by unfold own_eq1_4; rw [if_pos hc11_3, if_pos hc27_6, if_pos hc43_9, if_pos hc59_12]; rfl, N_, rfl⟩)
        · refine own_by (T' := s₁) (g' := (mkF m 66 #[vR sa, vI 1, vI 4] [])) (fun t k => XS.icmpYes X0.here hx rfl (pc0 := 59) (pc' := 66) rfl (hb hby d2_59) rfl (feq hc59_12).2 (by decide) (by decide) k) ?_
          refine own_by (T' := s₁) (g' := (mkF m 67 #[vR sa, vI 1, vI 4] [(.int 0)])) (fun t k => XS.iconst X0.here hx rfl (hb hby d2_66) k) ?_
          exact own_retN X0 hx (t := .boolean) Bd.notSynchronized Bd.returns (by simp) (hb hby d2_67) (by decide) (by decide) (by rw [e0]; exact ⟨by unfold own_eq1_4; rw [if_pos hc11_3, if_pos hc27_6, if_pos hc43_9, if_neg hc59_12]; rfl, N_, rfl⟩)
      · refine own_by (T' := s₁) (g' := (mkF m 66 #[vR sa, vI 1, vI 4] [])) (fun t k => XS.icmpYes X0.here hx rfl (pc0 := 43) (pc' := 66) rfl (hb hby d2_43) rfl (feq hc43_9).2 (by decide) (by decide) k) ?_
        refine own_by (T' := s₁) (g' := (mkF m 67 #[vR sa, vI 1, vI 4] [(.int 0)])) (fun t k => XS.iconst X0.here hx rfl (hb hby d2_66) k) ?_
        exact own_retN X0 hx (t := .boolean) Bd.notSynchronized Bd.returns (by simp) (hb hby d2_67) (by decide) (by decide) (by rw [e0]; exact ⟨by unfold own_eq1_4; rw [if_pos hc11_3, if_pos hc27_6, if_neg hc43_9]; rfl, N_, rfl⟩)
    · refine own_by (T' := s₁) (g' := (mkF m 66 #[vR sa, vI 1, vI 4] [])) (fun t k => XS.icmpYes X0.here hx rfl (pc0 := 27) (pc' := 66) rfl (hb hby d2_27) rfl (feq hc27_6).2 (by decide) (by decide) k) ?_
      refine own_by (T' := s₁) (g' := (mkF m 67 #[vR sa, vI 1, vI 4] [(.int 0)])) (fun t k => XS.iconst X0.here hx rfl (hb hby d2_66) k) ?_
      exact own_retN X0 hx (t := .boolean) Bd.notSynchronized Bd.returns (by simp) (hb hby d2_67) (by decide) (by decide) (by rw [e0]; exact ⟨by unfold own_eq1_4; rw [if_pos hc11_3, if_neg hc27_6]; rfl, N_, rfl⟩)
  · refine own_by (T' := s₁) (g' := (mkF m 66 #[vR sa, vI 1, vI 4] [])) (fun t k => XS.icmpYes X0.here hx rfl (pc0 := 11) (pc' := 66) rfl (hb hby d2_11) rfl (feq hc11_3).2 (by decide) (by decide) k) ?_
    refine own_by (T' := s₁) (g' := (mkF m 67 #[vR sa, vI 1, vI 4] [(.int 0)])) (fun t k => XS.iconst X0.here hx rfl (hb hby d2_66) k) ?_
    exact own_retN X0 hx (t := .boolean) Bd.notSynchronized Bd.returns (by simp) (hb hby d2_67) (by decide) (by decide) (by rw [e0]; exact ⟨by unfold own_eq1_4; rw [if_neg hc11_3]; rfl, N_, rfl⟩)

def Q2_2_1 (Z : State) (sa : Addr) (ks : ClassId) (c0 : Int32) (c1 : Int32) (c2 : Int32) (c3 : Int32) (c4 : Int32) (h0 : Heap) (n0 : Nat) (v : Option Value) (h : Heap) (L : List Loc) : Prop := v = some (.int (own_eq2_1 c0 c1 c2 c3 c4)) ∧ Fr n0 L ∧ h = h0
theorem ef_2_2_1 (m : MethodId) (sa : Addr) : entryFrame m #[(.ref sa), (.int 2), (.int 1)] 3 = mkF m 0 #[vR sa, vI 2, vI 1] [] := by first | (simp [entryFrame, mkF, argsToLocals, Value.category]; done) | rfl
set_option maxRecDepth 65536 in
set_option maxHeartbeats 40000000 in
theorem rm2_2_1 (l : Launch) (Z : State) (a0 : Array Value) (hw : ∀ d ∈ tables_1, d.before a0 Z = true) (ws : List Jvm.Cond) (sa : Addr) (ks : ClassId) (c0 : Int32) (c1 : Int32) (c2 : Int32) (c3 : Int32) (c4 : Int32) (h0 : Heap) (n0 : Nat) (Zle : n0 ≤ h0.size) (V_sa : Arv Z h0 sa ks .int (5 : Int32) [(.int c0), (.int c1), (.int c2), (.int c3), (.int c4)] (.int 0)) :
    MetFree l (⟨"com/example/emu/emu/TableFormFromPrefixPinLaw", "match", "([III)Z"⟩ : MethodName) (head1 (Jvm.Cond.code (⟨"com/example/emu/emu/TableFormFromPrefixPinLaw", "match", "([III)Z"⟩ : MethodName) method_6_code 3 (some .boolean) :: ws) ({ frames := 0, cells := 0, slots := 0, locals := 0 } : Room)) (fun a U => a = #[(.ref sa), (.int 2), (.int 1)] ∧ Z.Warmed39 U.vm ∧ U.heap = h0) (fun _ _ _ _ _ => True) (fun _ U o U' => ∃ v L, o = .returned v ∧ Q2_2_1 Z sa ks c0 c1 c2 c3 c4 h0 n0 v U'.heap L ∧ FrameEnd U o U' L ({ frames := 0, cells := 0, slots := 0, locals := 0 } : Room).cells ({ frames := 0, cells := 0, slots := 0, locals := 0 } : Room).slots) := by
  refine MetFree.of_bodySF (plainFor_of_name pn_com_example_emu_emu_TableFormFromPrefixPinLaw) hisR ?_
  intro p e s m args below meth c s₁ Bd hml0 hP hK
  obtain ⟨rfl, hZ, hh⟩ := hP
  have hx := Bd.exec
  have hby := Bd.bytes
  have hml : c.maxLocals = 3 := hml0
  have hown : s.vm.findClass "com/example/emu/emu/TableFormFromPrefixPinLaw" = some m.cls := findClass_of_methodNamed Bd.named
  have hnm := (name_of_methodNamed Bd.named Bd.method).1
  have X0 : Stand p l e ({ frames := 0, cells := 0, slots := 0, locals := 0 } : Room) s m #[(.ref sa), (.int 2), (.int 1)] below meth c s₁ [] 0 0 := Stand.of_body Bd
  have e0 : s₁.heap = h0 := by rw [← hh, Bd.state]; rfl
  have N_ := Fr.nil n0
  show own_Goes p.tables e below s (Q2_2_1 Z sa ks c0 c1 c2 c3 c4 h0 n0) ({ frames := 0, cells := 0, slots := 0, locals := 0 } : Room).cells ({ frames := 0, cells := 0, slots := 0, locals := 0 } : Room).slots s₁ (entryFrame m #[(.ref sa), (.int 2), (.int 1)] 3)
  refine own_by (T' := s₁) (g' := (mkF m 0 #[vR sa, vI 2, vI 1] [])) (fun t k => castTop (ef_2_2_1 m sa) k) ?_
  refine own_by (T' := s₁) (g' := (mkF m 1 #[vR sa, vI 2, vI 1] [(.int 1)])) (fun t k => XS.iloadN X0.here hx rfl (hb hby d2_0) rfl k) ?_
  refine own_by (T' := s₁) (g' := (mkF m 2 #[vR sa, vI 2, vI 1] [(.int 1), (.int 1)])) (fun t k => XS.iconst X0.here hx rfl (hb hby d2_1) k) ?_
  refine own_by (T' := s₁) (g' := (mkF m 5 #[vR sa, vI 2, vI 1] [])) (fun t k => XS.icmpNo X0.here hx rfl (hb hby d2_2) rfl (flt (by decide)).1 k) ?_
  refine own_by (T' := s₁) (g' := (mkF m 6 #[vR sa, vI 2, vI 1] [(.ref sa)])) (fun t k => XS.aloadN X0.here hx rfl (hb hby d2_5) rfl rfl k) ?_
  refine own_by (T' := s₁) (g' := (mkF m 7 #[vR sa, vI 2, vI 1] [(.int 0), (.ref sa)])) (fun t k => XS.iconst X0.here hx rfl (hb hby d2_6) k) ?_
  obtain ⟨cl1, Ar1, q1, S1, N1, Hs1, G1⟩ := id V_sa
  have hin1 : ¬ ((0 : Int32) < 0 ∨ cl1.slots.size ≤ ((0 : Int32)).toNatClampNeg) := inb_of S1 ⟨by decide, by decide⟩
  have hat1 : cl1.slots[((0 : Int32)).toNatClampNeg]? = some (.int c0) := Hs1.at hin1 rfl
  refine own_by (T' := s₁) (g' := (mkF m 8 #[vR sa, vI 2, vI 1] [(.int c0)])) (fun t k => X0.iaload hx (j := (0 : Int32)) (v := (.int c0)) (by rw [e0]; exact Ar1.1) (State.isArrayOf_alike hZ.alike Ar1.2.1) Ar1.2.2 hin1 hat1 (g := (mkF m 7 #[vR sa, vI 2, vI 1] [(.int 0), (.ref sa)])) rfl rfl (hb hby d2_7) _ k) ?_
  clear hat1 hin1 G1 Hs1 N1 S1 q1 Ar1 cl1
  refine own_by (T' := s₁) (g' := (mkF m 9 #[vR sa, vI 2, vI 1] [(.ref sa), (.int c0)])) (fun t k => XS.aloadN X0.here hx rfl (hb hby d2_8) rfl rfl k) ?_
  refine own_by (T' := s₁) (g' := (mkF m 10 #[vR sa, vI 2, vI 1] [(.int 2), (.ref sa), (.int c0)])) (fun t k => XS.iloadN X0.here hx rfl (hb hby d2_9) rfl k) ?_
  obtain ⟨cl2, Ar2, q2, S2, N2, Hs2, G2⟩ := id V_sa
  have hin2 : ¬ ((2 : Int32) < 0 ∨ cl2.slots.size ≤ ((2 : Int32)).toNatClampNeg) := inb_of S2 ⟨by decide, by decide⟩
  have hat2 : cl2.slots[((2 : Int32)).toNatClampNeg]? = some (.int c2) := Hs2.at hin2 rfl
  refine own_by (T' := s₁) (g' := (mkF m 11 #[vR sa, vI 2, vI 1] [(.int c2), (.int c0)])) (fun t k => X0.iaload hx (j := (2 : Int32)) (v := (.int c2)) (by rw [e0]; exact Ar2.1) (State.isArrayOf_alike hZ.alike Ar2.2.1) Ar2.2.2 hin2 hat2 (g := (mkF m 10 #[vR sa, vI 2, vI 1] [(.int 2), (.ref sa), (.int c0)])) rfl rfl (hb hby d2_10) _ k) ?_
  clear hat2 hin2 G2 Hs2 N2 S2 q2 Ar2 cl2
  by_cases hc11_3 : c0 = c2
  · refine own_by (T' := s₁) (g' := (mkF m 14 #[vR sa, vI 2, vI 1] [])) (fun t k => XS.icmpNo X0.here hx rfl (hb hby d2_11) rfl (teq hc11_3).2 k) ?_
    refine own_by (T' := s₁) (g' := (mkF m 15 #[vR sa, vI 2, vI 1] [(.int 1)])) (fun t k => XS.iloadN X0.here hx rfl (hb hby d2_14) rfl k) ?_
    refine own_by (T' := s₁) (g' := (mkF m 16 #[vR sa, vI 2, vI 1] [(.int 2), (.int 1)])) (fun t k => XS.iconst X0.here hx rfl (hb hby d2_15) k) ?_
    refine own_by (T' := s₁) (g' := (mkF m 30 #[vR sa, vI 2, vI 1] [])) (fun t k => XS.icmpYes X0.here hx rfl (pc0 := 16) (pc' := 30) rfl (hb hby d2_16) rfl (tlt (by decide)).1 (by decide) (by decide) k) ?_
    refine own_by (T' := s₁) (g' := (mkF m 31 #[vR sa, vI 2, vI 1] [(.int 1)])) (fun t k => XS.iloadN X0.here hx rfl (hb hby d2_30) rfl k) ?_
    refine own_by (T' := s₁) (g' := (mkF m 32 #[vR sa, vI 2, vI 1] [(.int 3), (.int 1)])) (fun t k => XS.iconst X0.here hx rfl (hb hby d2_31) k) ?_
    refine own_by (T' := s₁) (g' := (mkF m 46 #[vR sa, vI 2, vI 1] [])) (fun t k => XS.icmpYes X0.here hx rfl (pc0 := 32) (pc' := 46) rfl (hb hby d2_32) rfl (tlt (by decide)).1 (by decide) (by decide) k) ?_
    refine own_by (T' := s₁) (g' := (mkF m 47 #[vR sa, vI 2, vI 1] [(.int 1)])) (fun t k => XS.iloadN X0.here hx rfl (hb hby d2_46) rfl k) ?_
    refine own_by (T' := s₁) (g' := (mkF m 48 #[vR sa, vI 2, vI 1] [(.int 4), (.int 1)])) (fun t k => XS.iconst X0.here hx rfl (hb hby d2_47) k) ?_
    refine own_by (T' := s₁) (g' := (mkF m 62 #[vR sa, vI 2, vI 1] [])) (fun t k => XS.icmpYes X0.here hx rfl (pc0 := 48) (pc' := 62) rfl (hb hby d2_48) rfl (tlt (by decide)).1 (by decide) (by decide) k) ?_
    refine own_by (T' := s₁) (g' := (mkF m 63 #[vR sa, vI 2, vI 1] [(.int 1)])) (fun t k => XS.iconst X0.here hx rfl (hb hby d2_62) k) ?_
    refine own_by (T' := s₁) (g' := (mkF m 67 #[vR sa, vI 2, vI 1] [(.int 1)])) (fun t k => XS.goto X0.here hx rfl (pc0 := 63) (pc' := 67) rfl (hb hby d2_63) (by decide) (by decide) k) ?_
    exact own_retN X0 hx (t := .boolean) Bd.notSynchronized Bd.returns (by simp) (hb hby d2_67) (by decide) (by decide) (by rw [e0]; exact ⟨by unfold own_eq2_1; rw [if_pos hc11_3]; rfl, N_, rfl⟩)
  · refine own_by (T' := s₁) (g' := (mkF m 66 #[vR sa, vI 2, vI 1] [])) (fun t k => XS.icmpYes X0.here hx rfl (pc0 := 11) (pc' := 66) rfl (hb hby d2_11) rfl (feq hc11_3).2 (by decide) (by decide) k) ?_
    refine own_by (T' := s₁) (g' := (mkF m 67 #[vR sa, vI 2, vI 1] [(.int 0)])) (fun t k => XS.iconst X0.here hx rfl (hb hby d2_66) k) ?_
    exact own_retN X0 hx (t := .boolean) Bd.notSynchronized Bd.returns (by simp) (hb hby d2_67) (by decide) (by decide) (by rw [e0]; exact ⟨by unfold own_eq2_1; rw [if_neg hc11_3]; rfl, N_, rfl⟩)

def Q2_2_2 (Z : State) (sa : Addr) (ks : ClassId) (c0 : Int32) (c1 : Int32) (c2 : Int32) (c3 : Int32) (c4 : Int32) (h0 : Heap) (n0 : Nat) (v : Option Value) (h : Heap) (L : List Loc) : Prop := v = some (.int (own_eq2_2 c0 c1 c2 c3 c4)) ∧ Fr n0 L ∧ h = h0
theorem ef_2_2_2 (m : MethodId) (sa : Addr) : entryFrame m #[(.ref sa), (.int 2), (.int 2)] 3 = mkF m 0 #[vR sa, vI 2, vI 2] [] := by first | (simp [entryFrame, mkF, argsToLocals, Value.category]; done) | rfl
set_option maxRecDepth 65536 in
set_option maxHeartbeats 40000000 in
theorem rm2_2_2 (l : Launch) (Z : State) (a0 : Array Value) (hw : ∀ d ∈ tables_1, d.before a0 Z = true) (ws : List Jvm.Cond) (sa : Addr) (ks : ClassId) (c0 : Int32) (c1 : Int32) (c2 : Int32) (c3 : Int32) (c4 : Int32) (h0 : Heap) (n0 : Nat) (Zle : n0 ≤ h0.size) (V_sa : Arv Z h0 sa ks .int (5 : Int32) [(.int c0), (.int c1), (.int c2), (.int c3), (.int c4)] (.int 0)) :
    MetFree l (⟨"com/example/emu/emu/TableFormFromPrefixPinLaw", "match", "([III)Z"⟩ : MethodName) (head1 (Jvm.Cond.code (⟨"com/example/emu/emu/TableFormFromPrefixPinLaw", "match", "([III)Z"⟩ : MethodName) method_6_code 3 (some .boolean) :: ws) ({ frames := 0, cells := 0, slots := 0, locals := 0 } : Room)) (fun a U => a = #[(.ref sa), (.int 2), (.int 2)] ∧ Z.Warmed39 U.vm ∧ U.heap = h0) (fun _ _ _ _ _ => True) (fun _ U o U' => ∃ v L, o = .returned v ∧ Q2_2_2 Z sa ks c0 c1 c2 c3 c4 h0 n0 v U'.heap L ∧ FrameEnd U o U' L ({ frames := 0, cells := 0, slots := 0, locals := 0 } : Room).cells ({ frames := 0, cells := 0, slots := 0, locals := 0 } : Room).slots) := by
  refine MetFree.of_bodySF (plainFor_of_name pn_com_example_emu_emu_TableFormFromPrefixPinLaw) hisR ?_
  intro p e s m args below meth c s₁ Bd hml0 hP hK
  obtain ⟨rfl, hZ, hh⟩ := hP
  have hx := Bd.exec
  have hby := Bd.bytes
  have hml : c.maxLocals = 3 := hml0
  have hown : s.vm.findClass "com/example/emu/emu/TableFormFromPrefixPinLaw" = some m.cls := findClass_of_methodNamed Bd.named
  have hnm := (name_of_methodNamed Bd.named Bd.method).1
  have X0 : Stand p l e ({ frames := 0, cells := 0, slots := 0, locals := 0 } : Room) s m #[(.ref sa), (.int 2), (.int 2)] below meth c s₁ [] 0 0 := Stand.of_body Bd
  have e0 : s₁.heap = h0 := by rw [← hh, Bd.state]; rfl
  have N_ := Fr.nil n0
  show own_Goes p.tables e below s (Q2_2_2 Z sa ks c0 c1 c2 c3 c4 h0 n0) ({ frames := 0, cells := 0, slots := 0, locals := 0 } : Room).cells ({ frames := 0, cells := 0, slots := 0, locals := 0 } : Room).slots s₁ (entryFrame m #[(.ref sa), (.int 2), (.int 2)] 3)
  refine own_by (T' := s₁) (g' := (mkF m 0 #[vR sa, vI 2, vI 2] [])) (fun t k => castTop (ef_2_2_2 m sa) k) ?_
  refine own_by (T' := s₁) (g' := (mkF m 1 #[vR sa, vI 2, vI 2] [(.int 2)])) (fun t k => XS.iloadN X0.here hx rfl (hb hby d2_0) rfl k) ?_
  refine own_by (T' := s₁) (g' := (mkF m 2 #[vR sa, vI 2, vI 2] [(.int 1), (.int 2)])) (fun t k => XS.iconst X0.here hx rfl (hb hby d2_1) k) ?_
  refine own_by (T' := s₁) (g' := (mkF m 5 #[vR sa, vI 2, vI 2] [])) (fun t k => XS.icmpNo X0.here hx rfl (hb hby d2_2) rfl (flt (by decide)).1 k) ?_
  refine own_by (T' := s₁) (g' := (mkF m 6 #[vR sa, vI 2, vI 2] [(.ref sa)])) (fun t k => XS.aloadN X0.here hx rfl (hb hby d2_5) rfl rfl k) ?_
  refine own_by (T' := s₁) (g' := (mkF m 7 #[vR sa, vI 2, vI 2] [(.int 0), (.ref sa)])) (fun t k => XS.iconst X0.here hx rfl (hb hby d2_6) k) ?_
  obtain ⟨cl1, Ar1, q1, S1, N1, Hs1, G1⟩ := id V_sa
  have hin1 : ¬ ((0 : Int32) < 0 ∨ cl1.slots.size ≤ ((0 : Int32)).toNatClampNeg) := inb_of S1 ⟨by decide, by decide⟩
  have hat1 : cl1.slots[((0 : Int32)).toNatClampNeg]? = some (.int c0) := Hs1.at hin1 rfl
  refine own_by (T' := s₁) (g' := (mkF m 8 #[vR sa, vI 2, vI 2] [(.int c0)])) (fun t k => X0.iaload hx (j := (0 : Int32)) (v := (.int c0)) (by rw [e0]; exact Ar1.1) (State.isArrayOf_alike hZ.alike Ar1.2.1) Ar1.2.2 hin1 hat1 (g := (mkF m 7 #[vR sa, vI 2, vI 2] [(.int 0), (.ref sa)])) rfl rfl (hb hby d2_7) _ k) ?_
  clear hat1 hin1 G1 Hs1 N1 S1 q1 Ar1 cl1
  refine own_by (T' := s₁) (g' := (mkF m 9 #[vR sa, vI 2, vI 2] [(.ref sa), (.int c0)])) (fun t k => XS.aloadN X0.here hx rfl (hb hby d2_8) rfl rfl k) ?_
  refine own_by (T' := s₁) (g' := (mkF m 10 #[vR sa, vI 2, vI 2] [(.int 2), (.ref sa), (.int c0)])) (fun t k => XS.iloadN X0.here hx rfl (hb hby d2_9) rfl k) ?_
  obtain ⟨cl2, Ar2, q2, S2, N2, Hs2, G2⟩ := id V_sa
  have hin2 : ¬ ((2 : Int32) < 0 ∨ cl2.slots.size ≤ ((2 : Int32)).toNatClampNeg) := inb_of S2 ⟨by decide, by decide⟩
  have hat2 : cl2.slots[((2 : Int32)).toNatClampNeg]? = some (.int c2) := Hs2.at hin2 rfl
  refine own_by (T' := s₁) (g' := (mkF m 11 #[vR sa, vI 2, vI 2] [(.int c2), (.int c0)])) (fun t k => X0.iaload hx (j := (2 : Int32)) (v := (.int c2)) (by rw [e0]; exact Ar2.1) (State.isArrayOf_alike hZ.alike Ar2.2.1) Ar2.2.2 hin2 hat2 (g := (mkF m 10 #[vR sa, vI 2, vI 2] [(.int 2), (.ref sa), (.int c0)])) rfl rfl (hb hby d2_10) _ k) ?_
  clear hat2 hin2 G2 Hs2 N2 S2 q2 Ar2 cl2
  by_cases hc11_3 : c0 = c2
  · refine own_by (T' := s₁) (g' := (mkF m 14 #[vR sa, vI 2, vI 2] [])) (fun t k => XS.icmpNo X0.here hx rfl (hb hby d2_11) rfl (teq hc11_3).2 k) ?_
    refine own_by (T' := s₁) (g' := (mkF m 15 #[vR sa, vI 2, vI 2] [(.int 2)])) (fun t k => XS.iloadN X0.here hx rfl (hb hby d2_14) rfl k) ?_
    refine own_by (T' := s₁) (g' := (mkF m 16 #[vR sa, vI 2, vI 2] [(.int 2), (.int 2)])) (fun t k => XS.iconst X0.here hx rfl (hb hby d2_15) k) ?_
    refine own_by (T' := s₁) (g' := (mkF m 19 #[vR sa, vI 2, vI 2] [])) (fun t k => XS.icmpNo X0.here hx rfl (hb hby d2_16) rfl (flt (by decide)).1 k) ?_
    refine own_by (T' := s₁) (g' := (mkF m 20 #[vR sa, vI 2, vI 2] [(.ref sa)])) (fun t k => XS.aloadN X0.here hx rfl (hb hby d2_19) rfl rfl k) ?_
    refine own_by (T' := s₁) (g' := (mkF m 21 #[vR sa, vI 2, vI 2] [(.int 1), (.ref sa)])) (fun t k => XS.iconst X0.here hx rfl (hb hby d2_20) k) ?_
    obtain ⟨cl4, Ar4, q4, S4, N4, Hs4, G4⟩ := id V_sa
    have hin4 : ¬ ((1 : Int32) < 0 ∨ cl4.slots.size ≤ ((1 : Int32)).toNatClampNeg) := inb_of S4 ⟨by decide, by decide⟩
    have hat4 : cl4.slots[((1 : Int32)).toNatClampNeg]? = some (.int c1) := Hs4.at hin4 rfl
    refine own_by (T' := s₁) (g' := (mkF m 22 #[vR sa, vI 2, vI 2] [(.int c1)])) (fun t k => X0.iaload hx (j := (1 : Int32)) (v := (.int c1)) (by rw [e0]; exact Ar4.1) (State.isArrayOf_alike hZ.alike Ar4.2.1) Ar4.2.2 hin4 hat4 (g := (mkF m 21 #[vR sa, vI 2, vI 2] [(.int 1), (.ref sa)])) rfl rfl (hb hby d2_21) _ k) ?_
    clear hat4 hin4 G4 Hs4 N4 S4 q4 Ar4 cl4
    refine own_by (T' := s₁) (g' := (mkF m 23 #[vR sa, vI 2, vI 2] [(.ref sa), (.int c1)])) (fun t k => XS.aloadN X0.here hx rfl (hb hby d2_22) rfl rfl k) ?_
    refine own_by (T' := s₁) (g' := (mkF m 24 #[vR sa, vI 2, vI 2] [(.int 2), (.ref sa), (.int c1)])) (fun t k => XS.iloadN X0.here hx rfl (hb hby d2_23) rfl k) ?_
    refine own_by (T' := s₁) (g' := (mkF m 25 #[vR sa, vI 2, vI 2] [(.int 1), (.int 2), (.ref sa), (.int c1)])) (fun t k => XS.iconst X0.here hx rfl (hb hby d2_24) k) ?_
    refine own_by (T' := s₁) (g' := (mkF m 26 #[vR sa, vI 2, vI 2] [(.int 3), (.ref sa), (.int c1)])) (fun t k => XS.iadd X0.here hx rfl (hb hby d2_25) rfl k) ?_
    obtain ⟨cl5, Ar5, q5, S5, N5, Hs5, G5⟩ := id V_sa
    have hin5 : ¬ ((3 : Int32) < 0 ∨ cl5.slots.size ≤ ((3 : Int32)).toNatClampNeg) := inb_of S5 ⟨by decide, by decide⟩
    have hat5 : cl5.slots[((3 : Int32)).toNatClampNeg]? = some (.int c3) := Hs5.at hin5 rfl
    refine own_by (T' := s₁) (g' := (mkF m 27 #[vR sa, vI 2, vI 2] [(.int c3), (.int c1)])) (fun t k => X0.iaload hx (j := (3 : Int32)) (v := (.int c3)) (by rw [e0]; exact Ar5.1) (State.isArrayOf_alike hZ.alike Ar5.2.1) Ar5.2.2 hin5 hat5 (g := (mkF m 26 #[vR sa, vI 2, vI 2] [(.int 3), (.ref sa), (.int c1)])) rfl rfl (hb hby d2_26) _ k) ?_
    clear hat5 hin5 G5 Hs5 N5 S5 q5 Ar5 cl5
    by_cases hc27_6 : c1 = c3
    · refine own_by (T' := s₁) (g' := (mkF m 30 #[vR sa, vI 2, vI 2] [])) (fun t k => XS.icmpNo X0.here hx rfl (hb hby d2_27) rfl (teq hc27_6).2 k) ?_
      refine own_by (T' := s₁) (g' := (mkF m 31 #[vR sa, vI 2, vI 2] [(.int 2)])) (fun t k => XS.iloadN X0.here hx rfl (hb hby d2_30) rfl k) ?_
      refine own_by (T' := s₁) (g' := (mkF m 32 #[vR sa, vI 2, vI 2] [(.int 3), (.int 2)])) (fun t k => XS.iconst X0.here hx rfl (hb hby d2_31) k) ?_
      refine own_by (T' := s₁) (g' := (mkF m 46 #[vR sa, vI 2, vI 2] [])) (fun t k => XS.icmpYes X0.here hx rfl (pc0 := 32) (pc' := 46) rfl (hb hby d2_32) rfl (tlt (by decide)).1 (by decide) (by decide) k) ?_
      refine own_by (T' := s₁) (g' := (mkF m 47 #[vR sa, vI 2, vI 2] [(.int 2)])) (fun t k => XS.iloadN X0.here hx rfl (hb hby d2_46) rfl k) ?_
      refine own_by (T' := s₁) (g' := (mkF m 48 #[vR sa, vI 2, vI 2] [(.int 4), (.int 2)])) (fun t k => XS.iconst X0.here hx rfl (hb hby d2_47) k) ?_
      refine own_by (T' := s₁) (g' := (mkF m 62 #[vR sa, vI 2, vI 2] [])) (fun t k => XS.icmpYes X0.here hx rfl (pc0 := 48) (pc' := 62) rfl (hb hby d2_48) rfl (tlt (by decide)).1 (by decide) (by decide) k) ?_
      refine own_by (T' := s₁) (g' := (mkF m 63 #[vR sa, vI 2, vI 2] [(.int 1)])) (fun t k => XS.iconst X0.here hx rfl (hb hby d2_62) k) ?_
      refine own_by (T' := s₁) (g' := (mkF m 67 #[vR sa, vI 2, vI 2] [(.int 1)])) (fun t k => XS.goto X0.here hx rfl (pc0 := 63) (pc' := 67) rfl (hb hby d2_63) (by decide) (by decide) k) ?_
      exact own_retN X0 hx (t := .boolean) Bd.notSynchronized Bd.returns (by simp) (hb hby d2_67) (by decide) (by decide) (by rw [e0]; exact ⟨by unfold own_eq2_2; rw [if_pos hc11_3, if_pos hc27_6]; rfl, N_, rfl⟩)
    · refine own_by (T' := s₁) (g' := (mkF m 66 #[vR sa, vI 2, vI 2] [])) (fun t k => XS.icmpYes X0.here hx rfl (pc0 := 27) (pc' := 66) rfl (hb hby d2_27) rfl (feq hc27_6).2 (by decide) (by decide) k) ?_
      refine own_by (T' := s₁) (g' := (mkF m 67 #[vR sa, vI 2, vI 2] [(.int 0)])) (fun t k => XS.iconst X0.here hx rfl (hb hby d2_66) k) ?_
      exact own_retN X0 hx (t := .boolean) Bd.notSynchronized Bd.returns (by simp) (hb hby d2_67) (by decide) (by decide) (by rw [e0]; exact ⟨by unfold own_eq2_2; rw [if_pos hc11_3, if_neg hc27_6]; rfl, N_, rfl⟩)
  · refine own_by (T' := s₁) (g' := (mkF m 66 #[vR sa, vI 2, vI 2] [])) (fun t k => XS.icmpYes X0.here hx rfl (pc0 := 11) (pc' := 66) rfl (hb hby d2_11) rfl (feq hc11_3).2 (by decide) (by decide) k) ?_
    refine own_by (T' := s₁) (g' := (mkF m 67 #[vR sa, vI 2, vI 2] [(.int 0)])) (fun t k => XS.iconst X0.here hx rfl (hb hby d2_66) k) ?_
    exact own_retN X0 hx (t := .boolean) Bd.notSynchronized Bd.returns (by simp) (hb hby d2_67) (by decide) (by decide) (by rw [e0]; exact ⟨by unfold own_eq2_2; rw [if_neg hc11_3]; rfl, N_, rfl⟩)

def Q2_2_3 (Z : State) (sa : Addr) (ks : ClassId) (c0 : Int32) (c1 : Int32) (c2 : Int32) (c3 : Int32) (c4 : Int32) (h0 : Heap) (n0 : Nat) (v : Option Value) (h : Heap) (L : List Loc) : Prop := v = some (.int (own_eq2_3 c0 c1 c2 c3 c4)) ∧ Fr n0 L ∧ h = h0
theorem ef_2_2_3 (m : MethodId) (sa : Addr) : entryFrame m #[(.ref sa), (.int 2), (.int 3)] 3 = mkF m 0 #[vR sa, vI 2, vI 3] [] := by first | (simp [entryFrame, mkF, argsToLocals, Value.category]; done) | rfl
set_option maxRecDepth 65536 in
set_option maxHeartbeats 40000000 in
theorem rm2_2_3 (l : Launch) (Z : State) (a0 : Array Value) (hw : ∀ d ∈ tables_1, d.before a0 Z = true) (ws : List Jvm.Cond) (sa : Addr) (ks : ClassId) (c0 : Int32) (c1 : Int32) (c2 : Int32) (c3 : Int32) (c4 : Int32) (h0 : Heap) (n0 : Nat) (Zle : n0 ≤ h0.size) (V_sa : Arv Z h0 sa ks .int (5 : Int32) [(.int c0), (.int c1), (.int c2), (.int c3), (.int c4)] (.int 0)) :
    MetFree l (⟨"com/example/emu/emu/TableFormFromPrefixPinLaw", "match", "([III)Z"⟩ : MethodName) (head1 (Jvm.Cond.code (⟨"com/example/emu/emu/TableFormFromPrefixPinLaw", "match", "([III)Z"⟩ : MethodName) method_6_code 3 (some .boolean) :: ws) ({ frames := 0, cells := 0, slots := 0, locals := 0 } : Room)) (fun a U => a = #[(.ref sa), (.int 2), (.int 3)] ∧ Z.Warmed39 U.vm ∧ U.heap = h0) (fun _ _ _ _ _ => True) (fun _ U o U' => ∃ v L, o = .returned v ∧ Q2_2_3 Z sa ks c0 c1 c2 c3 c4 h0 n0 v U'.heap L ∧ FrameEnd U o U' L ({ frames := 0, cells := 0, slots := 0, locals := 0 } : Room).cells ({ frames := 0, cells := 0, slots := 0, locals := 0 } : Room).slots) := by
  refine MetFree.of_bodySF (plainFor_of_name pn_com_example_emu_emu_TableFormFromPrefixPinLaw) hisR ?_
  intro p e s m args below meth c s₁ Bd hml0 hP hK
  obtain ⟨rfl, hZ, hh⟩ := hP
  have hx := Bd.exec
  have hby := Bd.bytes
  have hml : c.maxLocals = 3 := hml0
  have hown : s.vm.findClass "com/example/emu/emu/TableFormFromPrefixPinLaw" = some m.cls := findClass_of_methodNamed Bd.named
  have hnm := (name_of_methodNamed Bd.named Bd.method).1
  have X0 : Stand p l e ({ frames := 0, cells := 0, slots := 0, locals := 0 } : Room) s m #[(.ref sa), (.int 2), (.int 3)] below meth c s₁ [] 0 0 := Stand.of_body Bd
  have e0 : s₁.heap = h0 := by rw [← hh, Bd.state]; rfl
  have N_ := Fr.nil n0
  show own_Goes p.tables e below s (Q2_2_3 Z sa ks c0 c1 c2 c3 c4 h0 n0) ({ frames := 0, cells := 0, slots := 0, locals := 0 } : Room).cells ({ frames := 0, cells := 0, slots := 0, locals := 0 } : Room).slots s₁ (entryFrame m #[(.ref sa), (.int 2), (.int 3)] 3)
  refine own_by (T' := s₁) (g' := (mkF m 0 #[vR sa, vI 2, vI 3] [])) (fun t k => castTop (ef_2_2_3 m sa) k) ?_
  refine own_by (T' := s₁) (g' := (mkF m 1 #[vR sa, vI 2, vI 3] [(.int 3)])) (fun t k => XS.iloadN X0.here hx rfl (hb hby d2_0) rfl k) ?_
  refine own_by (T' := s₁) (g' := (mkF m 2 #[vR sa, vI 2, vI 3] [(.int 1), (.int 3)])) (fun t k => XS.iconst X0.here hx rfl (hb hby d2_1) k) ?_
  refine own_by (T' := s₁) (g' := (mkF m 5 #[vR sa, vI 2, vI 3] [])) (fun t k => XS.icmpNo X0.here hx rfl (hb hby d2_2) rfl (flt (by decide)).1 k) ?_
  refine own_by (T' := s₁) (g' := (mkF m 6 #[vR sa, vI 2, vI 3] [(.ref sa)])) (fun t k => XS.aloadN X0.here hx rfl (hb hby d2_5) rfl rfl k) ?_
  refine own_by (T' := s₁) (g' := (mkF m 7 #[vR sa, vI 2, vI 3] [(.int 0), (.ref sa)])) (fun t k => XS.iconst X0.here hx rfl (hb hby d2_6) k) ?_
  obtain ⟨cl1, Ar1, q1, S1, N1, Hs1, G1⟩ := id V_sa
  have hin1 : ¬ ((0 : Int32) < 0 ∨ cl1.slots.size ≤ ((0 : Int32)).toNatClampNeg) := inb_of S1 ⟨by decide, by decide⟩
  have hat1 : cl1.slots[((0 : Int32)).toNatClampNeg]? = some (.int c0) := Hs1.at hin1 rfl
  refine own_by (T' := s₁) (g' := (mkF m 8 #[vR sa, vI 2, vI 3] [(.int c0)])) (fun t k => X0.iaload hx (j := (0 : Int32)) (v := (.int c0)) (by rw [e0]; exact Ar1.1) (State.isArrayOf_alike hZ.alike Ar1.2.1) Ar1.2.2 hin1 hat1 (g := (mkF m 7 #[vR sa, vI 2, vI 3] [(.int 0), (.ref sa)])) rfl rfl (hb hby d2_7) _ k) ?_
  clear hat1 hin1 G1 Hs1 N1 S1 q1 Ar1 cl1
  refine own_by (T' := s₁) (g' := (mkF m 9 #[vR sa, vI 2, vI 3] [(.ref sa), (.int c0)])) (fun t k => XS.aloadN X0.here hx rfl (hb hby d2_8) rfl rfl k) ?_
  refine own_by (T' := s₁) (g' := (mkF m 10 #[vR sa, vI 2, vI 3] [(.int 2), (.ref sa), (.int c0)])) (fun t k => XS.iloadN X0.here hx rfl (hb hby d2_9) rfl k) ?_
  obtain ⟨cl2, Ar2, q2, S2, N2, Hs2, G2⟩ := id V_sa
  have hin2 : ¬ ((2 : Int32) < 0 ∨ cl2.slots.size ≤ ((2 : Int32)).toNatClampNeg) := inb_of S2 ⟨by decide, by decide⟩
  have hat2 : cl2.slots[((2 : Int32)).toNatClampNeg]? = some (.int c2) := Hs2.at hin2 rfl
  refine own_by (T' := s₁) (g' := (mkF m 11 #[vR sa, vI 2, vI 3] [(.int c2), (.int c0)])) (fun t k => X0.iaload hx (j := (2 : Int32)) (v := (.int c2)) (by rw [e0]; exact Ar2.1) (State.isArrayOf_alike hZ.alike Ar2.2.1) Ar2.2.2 hin2 hat2 (g := (mkF m 10 #[vR sa, vI 2, vI 3] [(.int 2), (.ref sa), (.int c0)])) rfl rfl (hb hby d2_10) _ k) ?_
  clear hat2 hin2 G2 Hs2 N2 S2 q2 Ar2 cl2
  by_cases hc11_3 : c0 = c2
  · refine own_by (T' := s₁) (g' := (mkF m 14 #[vR sa, vI 2, vI 3] [])) (fun t k => XS.icmpNo X0.here hx rfl (hb hby d2_11) rfl (teq hc11_3).2 k) ?_
    refine own_by (T' := s₁) (g' := (mkF m 15 #[vR sa, vI 2, vI 3] [(.int 3)])) (fun t k => XS.iloadN X0.here hx rfl (hb hby d2_14) rfl k) ?_
    refine own_by (T' := s₁) (g' := (mkF m 16 #[vR sa, vI 2, vI 3] [(.int 2), (.int 3)])) (fun t k => XS.iconst X0.here hx rfl (hb hby d2_15) k) ?_
    refine own_by (T' := s₁) (g' := (mkF m 19 #[vR sa, vI 2, vI 3] [])) (fun t k => XS.icmpNo X0.here hx rfl (hb hby d2_16) rfl (flt (by decide)).1 k) ?_
    refine own_by (T' := s₁) (g' := (mkF m 20 #[vR sa, vI 2, vI 3] [(.ref sa)])) (fun t k => XS.aloadN X0.here hx rfl (hb hby d2_19) rfl rfl k) ?_
    refine own_by (T' := s₁) (g' := (mkF m 21 #[vR sa, vI 2, vI 3] [(.int 1), (.ref sa)])) (fun t k => XS.iconst X0.here hx rfl (hb hby d2_20) k) ?_
    obtain ⟨cl4, Ar4, q4, S4, N4, Hs4, G4⟩ := id V_sa
    have hin4 : ¬ ((1 : Int32) < 0 ∨ cl4.slots.size ≤ ((1 : Int32)).toNatClampNeg) := inb_of S4 ⟨by decide, by decide⟩
    have hat4 : cl4.slots[((1 : Int32)).toNatClampNeg]? = some (.int c1) := Hs4.at hin4 rfl
    refine own_by (T' := s₁) (g' := (mkF m 22 #[vR sa, vI 2, vI 3] [(.int c1)])) (fun t k => X0.iaload hx (j := (1 : Int32)) (v := (.int c1)) (by rw [e0]; exact Ar4.1) (State.isArrayOf_alike hZ.alike Ar4.2.1) Ar4.2.2 hin4 hat4 (g := (mkF m 21 #[vR sa, vI 2, vI 3] [(.int 1), (.ref sa)])) rfl rfl (hb hby d2_21) _ k) ?_
    clear hat4 hin4 G4 Hs4 N4 S4 q4 Ar4 cl4
    refine own_by (T' := s₁) (g' := (mkF m 23 #[vR sa, vI 2, vI 3] [(.ref sa), (.int c1)])) (fun t k => XS.aloadN X0.here hx rfl (hb hby d2_22) rfl rfl k) ?_
    refine own_by (T' := s₁) (g' := (mkF m 24 #[vR sa, vI 2, vI 3] [(.int 2), (.ref sa), (.int c1)])) (fun t k => XS.iloadN X0.here hx rfl (hb hby d2_23) rfl k) ?_
    refine own_by (T' := s₁) (g' := (mkF m 25 #[vR sa, vI 2, vI 3] [(.int 1), (.int 2), (.ref sa), (.int c1)])) (fun t k => XS.iconst X0.here hx rfl (hb hby d2_24) k) ?_
    refine own_by (T' := s₁) (g' := (mkF m 26 #[vR sa, vI 2, vI 3] [(.int 3), (.ref sa), (.int c1)])) (fun t k => XS.iadd X0.here hx rfl (hb hby d2_25) rfl k) ?_
    obtain ⟨cl5, Ar5, q5, S5, N5, Hs5, G5⟩ := id V_sa
    have hin5 : ¬ ((3 : Int32) < 0 ∨ cl5.slots.size ≤ ((3 : Int32)).toNatClampNeg) := inb_of S5 ⟨by decide, by decide⟩
    have hat5 : cl5.slots[((3 : Int32)).toNatClampNeg]? = some (.int c3) := Hs5.at hin5 rfl
    refine own_by (T' := s₁) (g' := (mkF m 27 #[vR sa, vI 2, vI 3] [(.int c3), (.int c1)])) (fun t k => X0.iaload hx (j := (3 : Int32)) (v := (.int c3)) (by rw [e0]; exact Ar5.1) (State.isArrayOf_alike hZ.alike Ar5.2.1) Ar5.2.2 hin5 hat5 (g := (mkF m 26 #[vR sa, vI 2, vI 3] [(.int 3), (.ref sa), (.int c1)])) rfl rfl (hb hby d2_26) _ k) ?_
    clear hat5 hin5 G5 Hs5 N5 S5 q5 Ar5 cl5
    by_cases hc27_6 : c1 = c3
    · refine own_by (T' := s₁) (g' := (mkF m 30 #[vR sa, vI 2, vI 3] [])) (fun t k => XS.icmpNo X0.here hx rfl (hb hby d2_27) rfl (teq hc27_6).2 k) ?_
      refine own_by (T' := s₁) (g' := (mkF m 31 #[vR sa, vI 2, vI 3] [(.int 3)])) (fun t k => XS.iloadN X0.here hx rfl (hb hby d2_30) rfl k) ?_
      refine own_by (T' := s₁) (g' := (mkF m 32 #[vR sa, vI 2, vI 3] [(.int 3), (.int 3)])) (fun t k => XS.iconst X0.here hx rfl (hb hby d2_31) k) ?_
      refine own_by (T' := s₁) (g' := (mkF m 35 #[vR sa, vI 2, vI 3] [])) (fun t k => XS.icmpNo X0.here hx rfl (hb hby d2_32) rfl (flt (by decide)).1 k) ?_
      refine own_by (T' := s₁) (g' := (mkF m 36 #[vR sa, vI 2, vI 3] [(.ref sa)])) (fun t k => XS.aloadN X0.here hx rfl (hb hby d2_35) rfl rfl k) ?_
      refine own_by (T' := s₁) (g' := (mkF m 37 #[vR sa, vI 2, vI 3] [(.int 2), (.ref sa)])) (fun t k => XS.iconst X0.here hx rfl (hb hby d2_36) k) ?_
      obtain ⟨cl7, Ar7, q7, S7, N7, Hs7, G7⟩ := id V_sa
      have hin7 : ¬ ((2 : Int32) < 0 ∨ cl7.slots.size ≤ ((2 : Int32)).toNatClampNeg) := inb_of S7 ⟨by decide, by decide⟩
      have hat7 : cl7.slots[((2 : Int32)).toNatClampNeg]? = some (.int c2) := Hs7.at hin7 rfl
      refine own_by (T' := s₁) (g' := (mkF m 38 #[vR sa, vI 2, vI 3] [(.int c2)])) (fun t k => X0.iaload hx (j := (2 : Int32)) (v := (.int c2)) (by rw [e0]; exact Ar7.1) (State.isArrayOf_alike hZ.alike Ar7.2.1) Ar7.2.2 hin7 hat7 (g := (mkF m 37 #[vR sa, vI 2, vI 3] [(.int 2), (.ref sa)])) rfl rfl (hb hby d2_37) _ k) ?_
      clear hat7 hin7 G7 Hs7 N7 S7 q7 Ar7 cl7
      refine own_by (T' := s₁) (g' := (mkF m 39 #[vR sa, vI 2, vI 3] [(.ref sa), (.int c2)])) (fun t k => XS.aloadN X0.here hx rfl (hb hby d2_38) rfl rfl k) ?_
      refine own_by (T' := s₁) (g' := (mkF m 40 #[vR sa, vI 2, vI 3] [(.int 2), (.ref sa), (.int c2)])) (fun t k => XS.iloadN X0.here hx rfl (hb hby d2_39) rfl k) ?_
      refine own_by (T' := s₁) (g' := (mkF m 41 #[vR sa, vI 2, vI 3] [(.int 2), (.int 2), (.ref sa), (.int c2)])) (fun t k => XS.iconst X0.here hx rfl (hb hby d2_40) k) ?_
      refine own_by (T' := s₁) (g' := (mkF m 42 #[vR sa, vI 2, vI 3] [(.int 4), (.ref sa), (.int c2)])) (fun t k => XS.iadd X0.here hx rfl (hb hby d2_41) rfl k) ?_
      obtain ⟨cl8, Ar8, q8, S8, N8, Hs8, G8⟩ := id V_sa
      have hin8 : ¬ ((4 : Int32) < 0 ∨ cl8.slots.size ≤ ((4 : Int32)).toNatClampNeg) := inb_of S8 ⟨by decide, by decide⟩
      have hat8 : cl8.slots[((4 : Int32)).toNatClampNeg]? = some (.int c4) := Hs8.at hin8 rfl
      refine own_by (T' := s₁) (g' := (mkF m 43 #[vR sa, vI 2, vI 3] [(.int c4), (.int c2)])) (fun t k => X0.iaload hx (j := (4 : Int32)) (v := (.int c4)) (by rw [e0]; exact Ar8.1) (State.isArrayOf_alike hZ.alike Ar8.2.1) Ar8.2.2 hin8 hat8 (g := (mkF m 42 #[vR sa, vI 2, vI 3] [(.int 4), (.ref sa), (.int c2)])) rfl rfl (hb hby d2_42) _ k) ?_
      clear hat8 hin8 G8 Hs8 N8 S8 q8 Ar8 cl8
      by_cases hc43_9 : c2 = c4
      · refine own_by (T' := s₁) (g' := (mkF m 46 #[vR sa, vI 2, vI 3] [])) (fun t k => XS.icmpNo X0.here hx rfl (hb hby d2_43) rfl (teq hc43_9).2 k) ?_
        refine own_by (T' := s₁) (g' := (mkF m 47 #[vR sa, vI 2, vI 3] [(.int 3)])) (fun t k => XS.iloadN X0.here hx rfl (hb hby d2_46) rfl k) ?_
        refine own_by (T' := s₁) (g' := (mkF m 48 #[vR sa, vI 2, vI 3] [(.int 4), (.int 3)])) (fun t k => XS.iconst X0.here hx rfl (hb hby d2_47) k) ?_
        refine own_by (T' := s₁) (g' := (mkF m 62 #[vR sa, vI 2, vI 3] [])) (fun t k => XS.icmpYes X0.here hx rfl (pc0 := 48) (pc' := 62) rfl (hb hby d2_48) rfl (tlt (by decide)).1 (by decide) (by decide) k) ?_
        refine own_by (T' := s₁) (g' := (mkF m 63 #[vR sa, vI 2, vI 3] [(.int 1)])) (fun t k => XS.iconst X0.here hx rfl (hb hby d2_62) k) ?_
        refine own_by (T' := s₁) (g' := (mkF m 67 #[vR sa, vI 2, vI 3] [(.int 1)])) (fun t k => XS.goto X0.here hx rfl (pc0 := 63) (pc' := 67) rfl (hb hby d2_63) (by decide) (by decide) k) ?_
        exact own_retN X0 hx (t := .boolean) Bd.notSynchronized Bd.returns (by simp) (hb hby d2_67) (by decide) (by decide) (by rw [e0]; exact ⟨by unfold own_eq2_3; rw [if_pos hc11_3, if_pos hc27_6, if_pos hc43_9]; rfl, N_, rfl⟩)
      · refine own_by (T' := s₁) (g' := (mkF m 66 #[vR sa, vI 2, vI 3] [])) (fun t k => XS.icmpYes X0.here hx rfl (pc0 := 43) (pc' := 66) rfl (hb hby d2_43) rfl (feq hc43_9).2 (by decide) (by decide) k) ?_
        refine own_by (T' := s₁) (g' := (mkF m 67 #[vR sa, vI 2, vI 3] [(.int 0)])) (fun t k => XS.iconst X0.here hx rfl (hb hby d2_66) k) ?_
        exact own_retN X0 hx (t := .boolean) Bd.notSynchronized Bd.returns (by simp) (hb hby d2_67) (by decide) (by decide) (by rw [e0]; exact ⟨by unfold own_eq2_3; rw [if_pos hc11_3, if_pos hc27_6, if_neg hc43_9]; rfl, N_, rfl⟩)
    · refine own_by (T' := s₁) (g' := (mkF m 66 #[vR sa, vI 2, vI 3] [])) (fun t k => XS.icmpYes X0.here hx rfl (pc0 := 27) (pc' := 66) rfl (hb hby d2_27) rfl (feq hc27_6).2 (by decide) (by decide) k) ?_
      refine own_by (T' := s₁) (g' := (mkF m 67 #[vR sa, vI 2, vI 3] [(.int 0)])) (fun t k => XS.iconst X0.here hx rfl (hb hby d2_66) k) ?_
      exact own_retN X0 hx (t := .boolean) Bd.notSynchronized Bd.returns (by simp) (hb hby d2_67) (by decide) (by decide) (by rw [e0]; exact ⟨by unfold own_eq2_3; rw [if_pos hc11_3, if_neg hc27_6]; rfl, N_, rfl⟩)
  · refine own_by (T' := s₁) (g' := (mkF m 66 #[vR sa, vI 2, vI 3] [])) (fun t k => XS.icmpYes X0.here hx rfl (pc0 := 11) (pc' := 66) rfl (hb hby d2_11) rfl (feq hc11_3).2 (by decide) (by decide) k) ?_
    refine own_by (T' := s₁) (g' := (mkF m 67 #[vR sa, vI 2, vI 3] [(.int 0)])) (fun t k => XS.iconst X0.here hx rfl (hb hby d2_66) k) ?_
    exact own_retN X0 hx (t := .boolean) Bd.notSynchronized Bd.returns (by simp) (hb hby d2_67) (by decide) (by decide) (by rw [e0]; exact ⟨by unfold own_eq2_3; rw [if_neg hc11_3]; rfl, N_, rfl⟩)

def Q2_3_1 (Z : State) (sa : Addr) (ks : ClassId) (c0 : Int32) (c1 : Int32) (c2 : Int32) (c3 : Int32) (c4 : Int32) (h0 : Heap) (n0 : Nat) (v : Option Value) (h : Heap) (L : List Loc) : Prop := v = some (.int (own_eq3_1 c0 c1 c2 c3 c4)) ∧ Fr n0 L ∧ h = h0
theorem ef_2_3_1 (m : MethodId) (sa : Addr) : entryFrame m #[(.ref sa), (.int 3), (.int 1)] 3 = mkF m 0 #[vR sa, vI 3, vI 1] [] := by first | (simp [entryFrame, mkF, argsToLocals, Value.category]; done) | rfl
set_option maxRecDepth 65536 in
set_option maxHeartbeats 40000000 in
theorem rm2_3_1 (l : Launch) (Z : State) (a0 : Array Value) (hw : ∀ d ∈ tables_1, d.before a0 Z = true) (ws : List Jvm.Cond) (sa : Addr) (ks : ClassId) (c0 : Int32) (c1 : Int32) (c2 : Int32) (c3 : Int32) (c4 : Int32) (h0 : Heap) (n0 : Nat) (Zle : n0 ≤ h0.size) (V_sa : Arv Z h0 sa ks .int (5 : Int32) [(.int c0), (.int c1), (.int c2), (.int c3), (.int c4)] (.int 0)) :
    MetFree l (⟨"com/example/emu/emu/TableFormFromPrefixPinLaw", "match", "([III)Z"⟩ : MethodName) (head1 (Jvm.Cond.code (⟨"com/example/emu/emu/TableFormFromPrefixPinLaw", "match", "([III)Z"⟩ : MethodName) method_6_code 3 (some .boolean) :: ws) ({ frames := 0, cells := 0, slots := 0, locals := 0 } : Room)) (fun a U => a = #[(.ref sa), (.int 3), (.int 1)] ∧ Z.Warmed39 U.vm ∧ U.heap = h0) (fun _ _ _ _ _ => True) (fun _ U o U' => ∃ v L, o = .returned v ∧ Q2_3_1 Z sa ks c0 c1 c2 c3 c4 h0 n0 v U'.heap L ∧ FrameEnd U o U' L ({ frames := 0, cells := 0, slots := 0, locals := 0 } : Room).cells ({ frames := 0, cells := 0, slots := 0, locals := 0 } : Room).slots) := by
  refine MetFree.of_bodySF (plainFor_of_name pn_com_example_emu_emu_TableFormFromPrefixPinLaw) hisR ?_
  intro p e s m args below meth c s₁ Bd hml0 hP hK
  obtain ⟨rfl, hZ, hh⟩ := hP
  have hx := Bd.exec
  have hby := Bd.bytes
  have hml : c.maxLocals = 3 := hml0
  have hown : s.vm.findClass "com/example/emu/emu/TableFormFromPrefixPinLaw" = some m.cls := findClass_of_methodNamed Bd.named
  have hnm := (name_of_methodNamed Bd.named Bd.method).1
  have X0 : Stand p l e ({ frames := 0, cells := 0, slots := 0, locals := 0 } : Room) s m #[(.ref sa), (.int 3), (.int 1)] below meth c s₁ [] 0 0 := Stand.of_body Bd
  have e0 : s₁.heap = h0 := by rw [← hh, Bd.state]; rfl
  have N_ := Fr.nil n0
  show own_Goes p.tables e below s (Q2_3_1 Z sa ks c0 c1 c2 c3 c4 h0 n0) ({ frames := 0, cells := 0, slots := 0, locals := 0 } : Room).cells ({ frames := 0, cells := 0, slots := 0, locals := 0 } : Room).slots s₁ (entryFrame m #[(.ref sa), (.int 3), (.int 1)] 3)
  refine own_by (T' := s₁) (g' := (mkF m 0 #[vR sa, vI 3, vI 1] [])) (fun t k => castTop (ef_2_3_1 m sa) k) ?_
  refine own_by (T' := s₁) (g' := (mkF m 1 #[vR sa, vI 3, vI 1] [(.int 1)])) (fun t k => XS.iloadN X0.here hx rfl (hb hby d2_0) rfl k) ?_
  refine own_by (T' := s₁) (g' := (mkF m 2 #[vR sa, vI 3, vI 1] [(.int 1), (.int 1)])) (fun t k => XS.iconst X0.here hx rfl (hb hby d2_1) k) ?_
  refine own_by (T' := s₁) (g' := (mkF m 5 #[vR sa, vI 3, vI 1] [])) (fun t k => XS.icmpNo X0.here hx rfl (hb hby d2_2) rfl (flt (by decide)).1 k) ?_
  refine own_by (T' := s₁) (g' := (mkF m 6 #[vR sa, vI 3, vI 1] [(.ref sa)])) (fun t k => XS.aloadN X0.here hx rfl (hb hby d2_5) rfl rfl k) ?_
  refine own_by (T' := s₁) (g' := (mkF m 7 #[vR sa, vI 3, vI 1] [(.int 0), (.ref sa)])) (fun t k => XS.iconst X0.here hx rfl (hb hby d2_6) k) ?_
  obtain ⟨cl1, Ar1, q1, S1, N1, Hs1, G1⟩ := id V_sa
  have hin1 : ¬ ((0 : Int32) < 0 ∨ cl1.slots.size ≤ ((0 : Int32)).toNatClampNeg) := inb_of S1 ⟨by decide, by decide⟩
  have hat1 : cl1.slots[((0 : Int32)).toNatClampNeg]? = some (.int c0) := Hs1.at hin1 rfl
  refine own_by (T' := s₁) (g' := (mkF m 8 #[vR sa, vI 3, vI 1] [(.int c0)])) (fun t k => X0.iaload hx (j := (0 : Int32)) (v := (.int c0)) (by rw [e0]; exact Ar1.1) (State.isArrayOf_alike hZ.alike Ar1.2.1) Ar1.2.2 hin1 hat1 (g := (mkF m 7 #[vR sa, vI 3, vI 1] [(.int 0), (.ref sa)])) rfl rfl (hb hby d2_7) _ k) ?_
  clear hat1 hin1 G1 Hs1 N1 S1 q1 Ar1 cl1
  refine own_by (T' := s₁) (g' := (mkF m 9 #[vR sa, vI 3, vI 1] [(.ref sa), (.int c0)])) (fun t k => XS.aloadN X0.here hx rfl (hb hby d2_8) rfl rfl k) ?_
  refine own_by (T' := s₁) (g' := (mkF m 10 #[vR sa, vI 3, vI 1] [(.int 3), (.ref sa), (.int c0)])) (fun t k => XS.iloadN X0.here hx rfl (hb hby d2_9) rfl k) ?_
  obtain ⟨cl2, Ar2, q2, S2, N2, Hs2, G2⟩ := id V_sa
  have hin2 : ¬ ((3 : Int32) < 0 ∨ cl2.slots.size ≤ ((3 : Int32)).toNatClampNeg) := inb_of S2 ⟨by decide, by decide⟩
  have hat2 : cl2.slots[((3 : Int32)).toNatClampNeg]? = some (.int c3) := Hs2.at hin2 rfl
  refine own_by (T' := s₁) (g' := (mkF m 11 #[vR sa, vI 3, vI 1] [(.int c3), (.int c0)])) (fun t k => X0.iaload hx (j := (3 : Int32)) (v := (.int c3)) (by rw [e0]; exact Ar2.1) (State.isArrayOf_alike hZ.alike Ar2.2.1) Ar2.2.2 hin2 hat2 (g := (mkF m 10 #[vR sa, vI 3, vI 1] [(.int 3), (.ref sa), (.int c0)])) rfl rfl (hb hby d2_10) _ k) ?_
  clear hat2 hin2 G2 Hs2 N2 S2 q2 Ar2 cl2
  by_cases hc11_3 : c0 = c3
  · refine own_by (T' := s₁) (g' := (mkF m 14 #[vR sa, vI 3, vI 1] [])) (fun t k => XS.icmpNo X0.here hx rfl (hb hby d2_11) rfl (teq hc11_3).2 k) ?_
    refine own_by (T' := s₁) (g' := (mkF m 15 #[vR sa, vI 3, vI 1] [(.int 1)])) (fun t k => XS.iloadN X0.here hx rfl (hb hby d2_14) rfl k) ?_
    refine own_by (T' := s₁) (g' := (mkF m 16 #[vR sa, vI 3, vI 1] [(.int 2), (.int 1)])) (fun t k => XS.iconst X0.here hx rfl (hb hby d2_15) k) ?_
    refine own_by (T' := s₁) (g' := (mkF m 30 #[vR sa, vI 3, vI 1] [])) (fun t k => XS.icmpYes X0.here hx rfl (pc0 := 16) (pc' := 30) rfl (hb hby d2_16) rfl (tlt (by decide)).1 (by decide) (by decide) k) ?_
    refine own_by (T' := s₁) (g' := (mkF m 31 #[vR sa, vI 3, vI 1] [(.int 1)])) (fun t k => XS.iloadN X0.here hx rfl (hb hby d2_30) rfl k) ?_
    refine own_by (T' := s₁) (g' := (mkF m 32 #[vR sa, vI 3, vI 1] [(.int 3), (.int 1)])) (fun t k => XS.iconst X0.here hx rfl (hb hby d2_31) k) ?_
    refine own_by (T' := s₁) (g' := (mkF m 46 #[vR sa, vI 3, vI 1] [])) (fun t k => XS.icmpYes X0.here hx rfl (pc0 := 32) (pc' := 46) rfl (hb hby d2_32) rfl (tlt (by decide)).1 (by decide) (by decide) k) ?_
    refine own_by (T' := s₁) (g' := (mkF m 47 #[vR sa, vI 3, vI 1] [(.int 1)])) (fun t k => XS.iloadN X0.here hx rfl (hb hby d2_46) rfl k) ?_
    refine own_by (T' := s₁) (g' := (mkF m 48 #[vR sa, vI 3, vI 1] [(.int 4), (.int 1)])) (fun t k => XS.iconst X0.here hx rfl (hb hby d2_47) k) ?_
    refine own_by (T' := s₁) (g' := (mkF m 62 #[vR sa, vI 3, vI 1] [])) (fun t k => XS.icmpYes X0.here hx rfl (pc0 := 48) (pc' := 62) rfl (hb hby d2_48) rfl (tlt (by decide)).1 (by decide) (by decide) k) ?_
    refine own_by (T' := s₁) (g' := (mkF m 63 #[vR sa, vI 3, vI 1] [(.int 1)])) (fun t k => XS.iconst X0.here hx rfl (hb hby d2_62) k) ?_
    refine own_by (T' := s₁) (g' := (mkF m 67 #[vR sa, vI 3, vI 1] [(.int 1)])) (fun t k => XS.goto X0.here hx rfl (pc0 := 63) (pc' := 67) rfl (hb hby d2_63) (by decide) (by decide) k) ?_
    exact own_retN X0 hx (t := .boolean) Bd.notSynchronized Bd.returns (by simp) (hb hby d2_67) (by decide) (by decide) (by rw [e0]; exact ⟨by unfold own_eq3_1; rw [if_pos hc11_3]; rfl, N_, rfl⟩)
  · refine own_by (T' := s₁) (g' := (mkF m 66 #[vR sa, vI 3, vI 1] [])) (fun t k => XS.icmpYes X0.here hx rfl (pc0 := 11) (pc' := 66) rfl (hb hby d2_11) rfl (feq hc11_3).2 (by decide) (by decide) k) ?_
    refine own_by (T' := s₁) (g' := (mkF m 67 #[vR sa, vI 3, vI 1] [(.int 0)])) (fun t k => XS.iconst X0.here hx rfl (hb hby d2_66) k) ?_
    exact own_retN X0 hx (t := .boolean) Bd.notSynchronized Bd.returns (by simp) (hb hby d2_67) (by decide) (by decide) (by rw [e0]; exact ⟨by unfold own_eq3_1; rw [if_neg hc11_3]; rfl, N_, rfl⟩)

def Q2_3_2 (Z : State) (sa : Addr) (ks : ClassId) (c0 : Int32) (c1 : Int32) (c2 : Int32) (c3 : Int32) (c4 : Int32) (h0 : Heap) (n0 : Nat) (v : Option Value) (h : Heap) (L : List Loc) : Prop := v = some (.int (own_eq3_2 c0 c1 c2 c3 c4)) ∧ Fr n0 L ∧ h = h0
theorem ef_2_3_2 (m : MethodId) (sa : Addr) : entryFrame m #[(.ref sa), (.int 3), (.int 2)] 3 = mkF m 0 #[vR sa, vI 3, vI 2] [] := by first | (simp [entryFrame, mkF, argsToLocals, Value.category]; done) | rfl
set_option maxRecDepth 65536 in
set_option maxHeartbeats 40000000 in
theorem rm2_3_2 (l : Launch) (Z : State) (a0 : Array Value) (hw : ∀ d ∈ tables_1, d.before a0 Z = true) (ws : List Jvm.Cond) (sa : Addr) (ks : ClassId) (c0 : Int32) (c1 : Int32) (c2 : Int32) (c3 : Int32) (c4 : Int32) (h0 : Heap) (n0 : Nat) (Zle : n0 ≤ h0.size) (V_sa : Arv Z h0 sa ks .int (5 : Int32) [(.int c0), (.int c1), (.int c2), (.int c3), (.int c4)] (.int 0)) :
    MetFree l (⟨"com/example/emu/emu/TableFormFromPrefixPinLaw", "match", "([III)Z"⟩ : MethodName) (head1 (Jvm.Cond.code (⟨"com/example/emu/emu/TableFormFromPrefixPinLaw", "match", "([III)Z"⟩ : MethodName) method_6_code 3 (some .boolean) :: ws) ({ frames := 0, cells := 0, slots := 0, locals := 0 } : Room)) (fun a U => a = #[(.ref sa), (.int 3), (.int 2)] ∧ Z.Warmed39 U.vm ∧ U.heap = h0) (fun _ _ _ _ _ => True) (fun _ U o U' => ∃ v L, o = .returned v ∧ Q2_3_2 Z sa ks c0 c1 c2 c3 c4 h0 n0 v U'.heap L ∧ FrameEnd U o U' L ({ frames := 0, cells := 0, slots := 0, locals := 0 } : Room).cells ({ frames := 0, cells := 0, slots := 0, locals := 0 } : Room).slots) := by
  refine MetFree.of_bodySF (plainFor_of_name pn_com_example_emu_emu_TableFormFromPrefixPinLaw) hisR ?_
  intro p e s m args below meth c s₁ Bd hml0 hP hK
  obtain ⟨rfl, hZ, hh⟩ := hP
  have hx := Bd.exec
  have hby := Bd.bytes
  have hml : c.maxLocals = 3 := hml0
  have hown : s.vm.findClass "com/example/emu/emu/TableFormFromPrefixPinLaw" = some m.cls := findClass_of_methodNamed Bd.named
  have hnm := (name_of_methodNamed Bd.named Bd.method).1
  have X0 : Stand p l e ({ frames := 0, cells := 0, slots := 0, locals := 0 } : Room) s m #[(.ref sa), (.int 3), (.int 2)] below meth c s₁ [] 0 0 := Stand.of_body Bd
  have e0 : s₁.heap = h0 := by rw [← hh, Bd.state]; rfl
  have N_ := Fr.nil n0
  show own_Goes p.tables e below s (Q2_3_2 Z sa ks c0 c1 c2 c3 c4 h0 n0) ({ frames := 0, cells := 0, slots := 0, locals := 0 } : Room).cells ({ frames := 0, cells := 0, slots := 0, locals := 0 } : Room).slots s₁ (entryFrame m #[(.ref sa), (.int 3), (.int 2)] 3)
  refine own_by (T' := s₁) (g' := (mkF m 0 #[vR sa, vI 3, vI 2] [])) (fun t k => castTop (ef_2_3_2 m sa) k) ?_
  refine own_by (T' := s₁) (g' := (mkF m 1 #[vR sa, vI 3, vI 2] [(.int 2)])) (fun t k => XS.iloadN X0.here hx rfl (hb hby d2_0) rfl k) ?_
  refine own_by (T' := s₁) (g' := (mkF m 2 #[vR sa, vI 3, vI 2] [(.int 1), (.int 2)])) (fun t k => XS.iconst X0.here hx rfl (hb hby d2_1) k) ?_
  refine own_by (T' := s₁) (g' := (mkF m 5 #[vR sa, vI 3, vI 2] [])) (fun t k => XS.icmpNo X0.here hx rfl (hb hby d2_2) rfl (flt (by decide)).1 k) ?_
  refine own_by (T' := s₁) (g' := (mkF m 6 #[vR sa, vI 3, vI 2] [(.ref sa)])) (fun t k => XS.aloadN X0.here hx rfl (hb hby d2_5) rfl rfl k) ?_
  refine own_by (T' := s₁) (g' := (mkF m 7 #[vR sa, vI 3, vI 2] [(.int 0), (.ref sa)])) (fun t k => XS.iconst X0.here hx rfl (hb hby d2_6) k) ?_
  obtain ⟨cl1, Ar1, q1, S1, N1, Hs1, G1⟩ := id V_sa
  have hin1 : ¬ ((0 : Int32) < 0 ∨ cl1.slots.size ≤ ((0 : Int32)).toNatClampNeg) := inb_of S1 ⟨by decide, by decide⟩
  have hat1 : cl1.slots[((0 : Int32)).toNatClampNeg]? = some (.int c0) := Hs1.at hin1 rfl
  refine own_by (T' := s₁) (g' := (mkF m 8 #[vR sa, vI 3, vI 2] [(.int c0)])) (fun t k => X0.iaload hx (j := (0 : Int32)) (v := (.int c0)) (by rw [e0]; exact Ar1.1) (State.isArrayOf_alike hZ.alike Ar1.2.1) Ar1.2.2 hin1 hat1 (g := (mkF m 7 #[vR sa, vI 3, vI 2] [(.int 0), (.ref sa)])) rfl rfl (hb hby d2_7) _ k) ?_
  clear hat1 hin1 G1 Hs1 N1 S1 q1 Ar1 cl1
  refine own_by (T' := s₁) (g' := (mkF m 9 #[vR sa, vI 3, vI 2] [(.ref sa), (.int c0)])) (fun t k => XS.aloadN X0.here hx rfl (hb hby d2_8) rfl rfl k) ?_
  refine own_by (T' := s₁) (g' := (mkF m 10 #[vR sa, vI 3, vI 2] [(.int 3), (.ref sa), (.int c0)])) (fun t k => XS.iloadN X0.here hx rfl (hb hby d2_9) rfl k) ?_
  obtain ⟨cl2, Ar2, q2, S2, N2, Hs2, G2⟩ := id V_sa
  have hin2 : ¬ ((3 : Int32) < 0 ∨ cl2.slots.size ≤ ((3 : Int32)).toNatClampNeg) := inb_of S2 ⟨by decide, by decide⟩
  have hat2 : cl2.slots[((3 : Int32)).toNatClampNeg]? = some (.int c3) := Hs2.at hin2 rfl
  refine own_by (T' := s₁) (g' := (mkF m 11 #[vR sa, vI 3, vI 2] [(.int c3), (.int c0)])) (fun t k => X0.iaload hx (j := (3 : Int32)) (v := (.int c3)) (by rw [e0]; exact Ar2.1) (State.isArrayOf_alike hZ.alike Ar2.2.1) Ar2.2.2 hin2 hat2 (g := (mkF m 10 #[vR sa, vI 3, vI 2] [(.int 3), (.ref sa), (.int c0)])) rfl rfl (hb hby d2_10) _ k) ?_
  clear hat2 hin2 G2 Hs2 N2 S2 q2 Ar2 cl2
  by_cases hc11_3 : c0 = c3
  · refine own_by (T' := s₁) (g' := (mkF m 14 #[vR sa, vI 3, vI 2] [])) (fun t k => XS.icmpNo X0.here hx rfl (hb hby d2_11) rfl (teq hc11_3).2 k) ?_
    refine own_by (T' := s₁) (g' := (mkF m 15 #[vR sa, vI 3, vI 2] [(.int 2)])) (fun t k => XS.iloadN X0.here hx rfl (hb hby d2_14) rfl k) ?_
    refine own_by (T' := s₁) (g' := (mkF m 16 #[vR sa, vI 3, vI 2] [(.int 2), (.int 2)])) (fun t k => XS.iconst X0.here hx rfl (hb hby d2_15) k) ?_
    refine own_by (T' := s₁) (g' := (mkF m 19 #[vR sa, vI 3, vI 2] [])) (fun t k => XS.icmpNo X0.here hx rfl (hb hby d2_16) rfl (flt (by decide)).1 k) ?_
    refine own_by (T' := s₁) (g' := (mkF m 20 #[vR sa, vI 3, vI 2] [(.ref sa)])) (fun t k => XS.aloadN X0.here hx rfl (hb hby d2_19) rfl rfl k) ?_
    refine own_by (T' := s₁) (g' := (mkF m 21 #[vR sa, vI 3, vI 2] [(.int 1), (.ref sa)])) (fun t k => XS.iconst X0.here hx rfl (hb hby d2_20) k) ?_
    obtain ⟨cl4, Ar4, q4, S4, N4, Hs4, G4⟩ := id V_sa
    have hin4 : ¬ ((1 : Int32) < 0 ∨ cl4.slots.size ≤ ((1 : Int32)).toNatClampNeg) := inb_of S4 ⟨by decide, by decide⟩
    have hat4 : cl4.slots[((1 : Int32)).toNatClampNeg]? = some (.int c1) := Hs4.at hin4 rfl
    refine own_by (T' := s₁) (g' := (mkF m 22 #[vR sa, vI 3, vI 2] [(.int c1)])) (fun t k => X0.iaload hx (j := (1 : Int32)) (v := (.int c1)) (by rw [e0]; exact Ar4.1) (State.isArrayOf_alike hZ.alike Ar4.2.1) Ar4.2.2 hin4 hat4 (g := (mkF m 21 #[vR sa, vI 3, vI 2] [(.int 1), (.ref sa)])) rfl rfl (hb hby d2_21) _ k) ?_
    clear hat4 hin4 G4 Hs4 N4 S4 q4 Ar4 cl4
    refine own_by (T' := s₁) (g' := (mkF m 23 #[vR sa, vI 3, vI 2] [(.ref sa), (.int c1)])) (fun t k => XS.aloadN X0.here hx rfl (hb hby d2_22) rfl rfl k) ?_
    refine own_by (T' := s₁) (g' := (mkF m 24 #[vR sa, vI 3, vI 2] [(.int 3), (.ref sa), (.int c1)])) (fun t k => XS.iloadN X0.here hx rfl (hb hby d2_23) rfl k) ?_
    refine own_by (T' := s₁) (g' := (mkF m 25 #[vR sa, vI 3, vI 2] [(.int 1), (.int 3), (.ref sa), (.int c1)])) (fun t k => XS.iconst X0.here hx rfl (hb hby d2_24) k) ?_
    refine own_by (T' := s₁) (g' := (mkF m 26 #[vR sa, vI 3, vI 2] [(.int 4), (.ref sa), (.int c1)])) (fun t k => XS.iadd X0.here hx rfl (hb hby d2_25) rfl k) ?_
    obtain ⟨cl5, Ar5, q5, S5, N5, Hs5, G5⟩ := id V_sa
    have hin5 : ¬ ((4 : Int32) < 0 ∨ cl5.slots.size ≤ ((4 : Int32)).toNatClampNeg) := inb_of S5 ⟨by decide, by decide⟩
    have hat5 : cl5.slots[((4 : Int32)).toNatClampNeg]? = some (.int c4) := Hs5.at hin5 rfl
    refine own_by (T' := s₁) (g' := (mkF m 27 #[vR sa, vI 3, vI 2] [(.int c4), (.int c1)])) (fun t k => X0.iaload hx (j := (4 : Int32)) (v := (.int c4)) (by rw [e0]; exact Ar5.1) (State.isArrayOf_alike hZ.alike Ar5.2.1) Ar5.2.2 hin5 hat5 (g := (mkF m 26 #[vR sa, vI 3, vI 2] [(.int 4), (.ref sa), (.int c1)])) rfl rfl (hb hby d2_26) _ k) ?_
    clear hat5 hin5 G5 Hs5 N5 S5 q5 Ar5 cl5
    by_cases hc27_6 : c1 = c4
    · refine own_by (T' := s₁) (g' := (mkF m 30 #[vR sa, vI 3, vI 2] [])) (fun t k => XS.icmpNo X0.here hx rfl (hb hby d2_27) rfl (teq hc27_6).2 k) ?_
      refine own_by (T' := s₁) (g' := (mkF m 31 #[vR sa, vI 3, vI 2] [(.int 2)])) (fun t k => XS.iloadN X0.here hx rfl (hb hby d2_30) rfl k) ?_
      refine own_by (T' := s₁) (g' := (mkF m 32 #[vR sa, vI 3, vI 2] [(.int 3), (.int 2)])) (fun t k => XS.iconst X0.here hx rfl (hb hby d2_31) k) ?_
      refine own_by (T' := s₁) (g' := (mkF m 46 #[vR sa, vI 3, vI 2] [])) (fun t k => XS.icmpYes X0.here hx rfl (pc0 := 32) (pc' := 46) rfl (hb hby d2_32) rfl (tlt (by decide)).1 (by decide) (by decide) k) ?_
      refine own_by (T' := s₁) (g' := (mkF m 47 #[vR sa, vI 3, vI 2] [(.int 2)])) (fun t k => XS.iloadN X0.here hx rfl (hb hby d2_46) rfl k) ?_
      refine own_by (T' := s₁) (g' := (mkF m 48 #[vR sa, vI 3, vI 2] [(.int 4), (.int 2)])) (fun t k => XS.iconst X0.here hx rfl (hb hby d2_47) k) ?_
      refine own_by (T' := s₁) (g' := (mkF m 62 #[vR sa, vI 3, vI 2] [])) (fun t k => XS.icmpYes X0.here hx rfl (pc0 := 48) (pc' := 62) rfl (hb hby d2_48) rfl (tlt (by decide)).1 (by decide) (by decide) k) ?_
      refine own_by (T' := s₁) (g' := (mkF m 63 #[vR sa, vI 3, vI 2] [(.int 1)])) (fun t k => XS.iconst X0.here hx rfl (hb hby d2_62) k) ?_
      refine own_by (T' := s₁) (g' := (mkF m 67 #[vR sa, vI 3, vI 2] [(.int 1)])) (fun t k => XS.goto X0.here hx rfl (pc0 := 63) (pc' := 67) rfl (hb hby d2_63) (by decide) (by decide) k) ?_
      exact own_retN X0 hx (t := .boolean) Bd.notSynchronized Bd.returns (by simp) (hb hby d2_67) (by decide) (by decide) (by rw [e0]; exact ⟨by unfold own_eq3_2; rw [if_pos hc11_3, if_pos hc27_6]; rfl, N_, rfl⟩)
    · refine own_by (T' := s₁) (g' := (mkF m 66 #[vR sa, vI 3, vI 2] [])) (fun t k => XS.icmpYes X0.here hx rfl (pc0 := 27) (pc' := 66) rfl (hb hby d2_27) rfl (feq hc27_6).2 (by decide) (by decide) k) ?_
      refine own_by (T' := s₁) (g' := (mkF m 67 #[vR sa, vI 3, vI 2] [(.int 0)])) (fun t k => XS.iconst X0.here hx rfl (hb hby d2_66) k) ?_
      exact own_retN X0 hx (t := .boolean) Bd.notSynchronized Bd.returns (by simp) (hb hby d2_67) (by decide) (by decide) (by rw [e0]; exact ⟨by unfold own_eq3_2; rw [if_pos hc11_3, if_neg hc27_6]; rfl, N_, rfl⟩)
  · refine own_by (T' := s₁) (g' := (mkF m 66 #[vR sa, vI 3, vI 2] [])) (fun t k => XS.icmpYes X0.here hx rfl (pc0 := 11) (pc' := 66) rfl (hb hby d2_11) rfl (feq hc11_3).2 (by decide) (by decide) k) ?_
    refine own_by (T' := s₁) (g' := (mkF m 67 #[vR sa, vI 3, vI 2] [(.int 0)])) (fun t k => XS.iconst X0.here hx rfl (hb hby d2_66) k) ?_
    exact own_retN X0 hx (t := .boolean) Bd.notSynchronized Bd.returns (by simp) (hb hby d2_67) (by decide) (by decide) (by rw [e0]; exact ⟨by unfold own_eq3_2; rw [if_neg hc11_3]; rfl, N_, rfl⟩)

def Q2_4_1 (Z : State) (sa : Addr) (ks : ClassId) (c0 : Int32) (c1 : Int32) (c2 : Int32) (c3 : Int32) (c4 : Int32) (h0 : Heap) (n0 : Nat) (v : Option Value) (h : Heap) (L : List Loc) : Prop := v = some (.int (own_eq4_1 c0 c1 c2 c3 c4)) ∧ Fr n0 L ∧ h = h0
theorem ef_2_4_1 (m : MethodId) (sa : Addr) : entryFrame m #[(.ref sa), (.int 4), (.int 1)] 3 = mkF m 0 #[vR sa, vI 4, vI 1] [] := by first | (simp [entryFrame, mkF, argsToLocals, Value.category]; done) | rfl
set_option maxRecDepth 65536 in
set_option maxHeartbeats 40000000 in
theorem rm2_4_1 (l : Launch) (Z : State) (a0 : Array Value) (hw : ∀ d ∈ tables_1, d.before a0 Z = true) (ws : List Jvm.Cond) (sa : Addr) (ks : ClassId) (c0 : Int32) (c1 : Int32) (c2 : Int32) (c3 : Int32) (c4 : Int32) (h0 : Heap) (n0 : Nat) (Zle : n0 ≤ h0.size) (V_sa : Arv Z h0 sa ks .int (5 : Int32) [(.int c0), (.int c1), (.int c2), (.int c3), (.int c4)] (.int 0)) :
    MetFree l (⟨"com/example/emu/emu/TableFormFromPrefixPinLaw", "match", "([III)Z"⟩ : MethodName) (head1 (Jvm.Cond.code (⟨"com/example/emu/emu/TableFormFromPrefixPinLaw", "match", "([III)Z"⟩ : MethodName) method_6_code 3 (some .boolean) :: ws) ({ frames := 0, cells := 0, slots := 0, locals := 0 } : Room)) (fun a U => a = #[(.ref sa), (.int 4), (.int 1)] ∧ Z.Warmed39 U.vm ∧ U.heap = h0) (fun _ _ _ _ _ => True) (fun _ U o U' => ∃ v L, o = .returned v ∧ Q2_4_1 Z sa ks c0 c1 c2 c3 c4 h0 n0 v U'.heap L ∧ FrameEnd U o U' L ({ frames := 0, cells := 0, slots := 0, locals := 0 } : Room).cells ({ frames := 0, cells := 0, slots := 0, locals := 0 } : Room).slots) := by
  refine MetFree.of_bodySF (plainFor_of_name pn_com_example_emu_emu_TableFormFromPrefixPinLaw) hisR ?_
  intro p e s m args below meth c s₁ Bd hml0 hP hK
  obtain ⟨rfl, hZ, hh⟩ := hP
  have hx := Bd.exec
  have hby := Bd.bytes
  have hml : c.maxLocals = 3 := hml0
  have hown : s.vm.findClass "com/example/emu/emu/TableFormFromPrefixPinLaw" = some m.cls := findClass_of_methodNamed Bd.named
  have hnm := (name_of_methodNamed Bd.named Bd.method).1
  have X0 : Stand p l e ({ frames := 0, cells := 0, slots := 0, locals := 0 } : Room) s m #[(.ref sa), (.int 4), (.int 1)] below meth c s₁ [] 0 0 := Stand.of_body Bd
  have e0 : s₁.heap = h0 := by rw [← hh, Bd.state]; rfl
  have N_ := Fr.nil n0
  show own_Goes p.tables e below s (Q2_4_1 Z sa ks c0 c1 c2 c3 c4 h0 n0) ({ frames := 0, cells := 0, slots := 0, locals := 0 } : Room).cells ({ frames := 0, cells := 0, slots := 0, locals := 0 } : Room).slots s₁ (entryFrame m #[(.ref sa), (.int 4), (.int 1)] 3)
  refine own_by (T' := s₁) (g' := (mkF m 0 #[vR sa, vI 4, vI 1] [])) (fun t k => castTop (ef_2_4_1 m sa) k) ?_
  refine own_by (T' := s₁) (g' := (mkF m 1 #[vR sa, vI 4, vI 1] [(.int 1)])) (fun t k => XS.iloadN X0.here hx rfl (hb hby d2_0) rfl k) ?_
  refine own_by (T' := s₁) (g' := (mkF m 2 #[vR sa, vI 4, vI 1] [(.int 1), (.int 1)])) (fun t k => XS.iconst X0.here hx rfl (hb hby d2_1) k) ?_
  refine own_by (T' := s₁) (g' := (mkF m 5 #[vR sa, vI 4, vI 1] [])) (fun t k => XS.icmpNo X0.here hx rfl (hb hby d2_2) rfl (flt (by decide)).1 k) ?_
  refine own_by (T' := s₁) (g' := (mkF m 6 #[vR sa, vI 4, vI 1] [(.ref sa)])) (fun t k => XS.aloadN X0.here hx rfl (hb hby d2_5) rfl rfl k) ?_
  refine own_by (T' := s₁) (g' := (mkF m 7 #[vR sa, vI 4, vI 1] [(.int 0), (.ref sa)])) (fun t k => XS.iconst X0.here hx rfl (hb hby d2_6) k) ?_
  obtain ⟨cl1, Ar1, q1, S1, N1, Hs1, G1⟩ := id V_sa
  have hin1 : ¬ ((0 : Int32) < 0 ∨ cl1.slots.size ≤ ((0 : Int32)).toNatClampNeg) := inb_of S1 ⟨by decide, by decide⟩
  have hat1 : cl1.slots[((0 : Int32)).toNatClampNeg]? = some (.int c0) := Hs1.at hin1 rfl
  refine own_by (T' := s₁) (g' := (mkF m 8 #[vR sa, vI 4, vI 1] [(.int c0)])) (fun t k => X0.iaload hx (j := (0 : Int32)) (v := (.int c0)) (by rw [e0]; exact Ar1.1) (State.isArrayOf_alike hZ.alike Ar1.2.1) Ar1.2.2 hin1 hat1 (g := (mkF m 7 #[vR sa, vI 4, vI 1] [(.int 0), (.ref sa)])) rfl rfl (hb hby d2_7) _ k) ?_
  clear hat1 hin1 G1 Hs1 N1 S1 q1 Ar1 cl1
  refine own_by (T' := s₁) (g' := (mkF m 9 #[vR sa, vI 4, vI 1] [(.ref sa), (.int c0)])) (fun t k => XS.aloadN X0.here hx rfl (hb hby d2_8) rfl rfl k) ?_
  refine own_by (T' := s₁) (g' := (mkF m 10 #[vR sa, vI 4, vI 1] [(.int 4), (.ref sa), (.int c0)])) (fun t k => XS.iloadN X0.here hx rfl (hb hby d2_9) rfl k) ?_
  obtain ⟨cl2, Ar2, q2, S2, N2, Hs2, G2⟩ := id V_sa
  have hin2 : ¬ ((4 : Int32) < 0 ∨ cl2.slots.size ≤ ((4 : Int32)).toNatClampNeg) := inb_of S2 ⟨by decide, by decide⟩
  have hat2 : cl2.slots[((4 : Int32)).toNatClampNeg]? = some (.int c4) := Hs2.at hin2 rfl
  refine own_by (T' := s₁) (g' := (mkF m 11 #[vR sa, vI 4, vI 1] [(.int c4), (.int c0)])) (fun t k => X0.iaload hx (j := (4 : Int32)) (v := (.int c4)) (by rw [e0]; exact Ar2.1) (State.isArrayOf_alike hZ.alike Ar2.2.1) Ar2.2.2 hin2 hat2 (g := (mkF m 10 #[vR sa, vI 4, vI 1] [(.int 4), (.ref sa), (.int c0)])) rfl rfl (hb hby d2_10) _ k) ?_
  clear hat2 hin2 G2 Hs2 N2 S2 q2 Ar2 cl2
  by_cases hc11_3 : c0 = c4
  · refine own_by (T' := s₁) (g' := (mkF m 14 #[vR sa, vI 4, vI 1] [])) (fun t k => XS.icmpNo X0.here hx rfl (hb hby d2_11) rfl (teq hc11_3).2 k) ?_
    refine own_by (T' := s₁) (g' := (mkF m 15 #[vR sa, vI 4, vI 1] [(.int 1)])) (fun t k => XS.iloadN X0.here hx rfl (hb hby d2_14) rfl k) ?_
    refine own_by (T' := s₁) (g' := (mkF m 16 #[vR sa, vI 4, vI 1] [(.int 2), (.int 1)])) (fun t k => XS.iconst X0.here hx rfl (hb hby d2_15) k) ?_
    refine own_by (T' := s₁) (g' := (mkF m 30 #[vR sa, vI 4, vI 1] [])) (fun t k => XS.icmpYes X0.here hx rfl (pc0 := 16) (pc' := 30) rfl (hb hby d2_16) rfl (tlt (by decide)).1 (by decide) (by decide) k) ?_
    refine own_by (T' := s₁) (g' := (mkF m 31 #[vR sa, vI 4, vI 1] [(.int 1)])) (fun t k => XS.iloadN X0.here hx rfl (hb hby d2_30) rfl k) ?_
    refine own_by (T' := s₁) (g' := (mkF m 32 #[vR sa, vI 4, vI 1] [(.int 3), (.int 1)])) (fun t k => XS.iconst X0.here hx rfl (hb hby d2_31) k) ?_
    refine own_by (T' := s₁) (g' := (mkF m 46 #[vR sa, vI 4, vI 1] [])) (fun t k => XS.icmpYes X0.here hx rfl (pc0 := 32) (pc' := 46) rfl (hb hby d2_32) rfl (tlt (by decide)).1 (by decide) (by decide) k) ?_
    refine own_by (T' := s₁) (g' := (mkF m 47 #[vR sa, vI 4, vI 1] [(.int 1)])) (fun t k => XS.iloadN X0.here hx rfl (hb hby d2_46) rfl k) ?_
    refine own_by (T' := s₁) (g' := (mkF m 48 #[vR sa, vI 4, vI 1] [(.int 4), (.int 1)])) (fun t k => XS.iconst X0.here hx rfl (hb hby d2_47) k) ?_
    refine own_by (T' := s₁) (g' := (mkF m 62 #[vR sa, vI 4, vI 1] [])) (fun t k => XS.icmpYes X0.here hx rfl (pc0 := 48) (pc' := 62) rfl (hb hby d2_48) rfl (tlt (by decide)).1 (by decide) (by decide) k) ?_
    refine own_by (T' := s₁) (g' := (mkF m 63 #[vR sa, vI 4, vI 1] [(.int 1)])) (fun t k => XS.iconst X0.here hx rfl (hb hby d2_62) k) ?_
    refine own_by (T' := s₁) (g' := (mkF m 67 #[vR sa, vI 4, vI 1] [(.int 1)])) (fun t k => XS.goto X0.here hx rfl (pc0 := 63) (pc' := 67) rfl (hb hby d2_63) (by decide) (by decide) k) ?_
    exact own_retN X0 hx (t := .boolean) Bd.notSynchronized Bd.returns (by simp) (hb hby d2_67) (by decide) (by decide) (by rw [e0]; exact ⟨by unfold own_eq4_1; rw [if_pos hc11_3]; rfl, N_, rfl⟩)
  · refine own_by (T' := s₁) (g' := (mkF m 66 #[vR sa, vI 4, vI 1] [])) (fun t k => XS.icmpYes X0.here hx rfl (pc0 := 11) (pc' := 66) rfl (hb hby d2_11) rfl (feq hc11_3).2 (by decide) (by decide) k) ?_
    refine own_by (T' := s₁) (g' := (mkF m 67 #[vR sa, vI 4, vI 1] [(.int 0)])) (fun t k => XS.iconst X0.here hx rfl (hb hby d2_66) k) ?_
    exact own_retN X0 hx (t := .boolean) Bd.notSynchronized Bd.returns (by simp) (hb hby d2_67) (by decide) (by decide) (by rw [e0]; exact ⟨by unfold own_eq4_1; rw [if_neg hc11_3]; rfl, N_, rfl⟩)

def Q1_0 (Z : State) (sa : Addr) (ks : ClassId) (c0 : Int32) (c1 : Int32) (c2 : Int32) (c3 : Int32) (c4 : Int32) (h0 : Heap) (n0 : Nat) (v : Option Value) (h : Heap) (L : List Loc) : Prop := v = some (.int (own_bd0 c0 c1 c2 c3 c4)) ∧ Fr n0 L ∧ h = h0
theorem ef_1_0 (m : MethodId) (sa : Addr) : entryFrame m #[(.ref sa), (.int 0)] 2 = mkF m 0 #[vR sa, vI 0] [] := by first | (simp [entryFrame, mkF, argsToLocals, Value.category]; done) | rfl
theorem d1_0 : decode method_7_code 0 = .ok (.iload_n 1, 1) := by decide +kernel
theorem d1_1 : decode method_7_code 1 = .ok (.iconst 4, 1) := by decide +kernel
theorem d1_2 : decode method_7_code 2 = .ok (.if_icmp .lt 16, 3) := by decide +kernel
theorem d1_18 : decode method_7_code 18 = .ok (.iload_n 1, 1) := by decide +kernel
theorem d1_19 : decode method_7_code 19 = .ok (.iconst 3, 1) := by decide +kernel
theorem d1_20 : decode method_7_code 20 = .ok (.if_icmp .lt 16, 3) := by decide +kernel
theorem d1_36 : decode method_7_code 36 = .ok (.iload_n 1, 1) := by decide +kernel
theorem d1_37 : decode method_7_code 37 = .ok (.iconst 2, 1) := by decide +kernel
theorem d1_38 : decode method_7_code 38 = .ok (.if_icmp .lt 16, 3) := by decide +kernel
theorem d1_54 : decode method_7_code 54 = .ok (.iload_n 1, 1) := by decide +kernel
theorem d1_55 : decode method_7_code 55 = .ok (.iconst 1, 1) := by decide +kernel
theorem d1_56 : decode method_7_code 56 = .ok (.if_icmp .lt 14, 3) := by decide +kernel
theorem d1_70 : decode method_7_code 70 = .ok (.iconst 0, 1) := by decide +kernel
theorem d1_71 : decode method_7_code 71 = .ok (.ireturn, 1) := by decide +kernel
set_option maxRecDepth 65536 in
set_option maxHeartbeats 40000000 in
theorem rm1_0 (l : Launch) (Z : State) (a0 : Array Value) (hw : ∀ d ∈ tables_1, d.before a0 Z = true) (ws : List Jvm.Cond) (sa : Addr) (ks : ClassId) (c0 : Int32) (c1 : Int32) (c2 : Int32) (c3 : Int32) (c4 : Int32) (h0 : Heap) (n0 : Nat) (Zle : n0 ≤ h0.size) (V_sa : Arv Z h0 sa ks .int (5 : Int32) [(.int c0), (.int c1), (.int c2), (.int c3), (.int c4)] (.int 0)) :
    MetFree l (⟨"com/example/emu/emu/TableFormFromPrefixPinLaw", "border", "([II)I"⟩ : MethodName) (head1 (Jvm.Cond.code (⟨"com/example/emu/emu/TableFormFromPrefixPinLaw", "border", "([II)I"⟩ : MethodName) method_7_code 2 (some .int) :: ws) ({ frames := 1, cells := 0, slots := 0, locals := 14 } : Room)) (fun a U => a = #[(.ref sa), (.int 0)] ∧ Z.Warmed39 U.vm ∧ U.heap = h0) (fun _ _ _ _ _ => True) (fun _ U o U' => ∃ v L, o = .returned v ∧ Q1_0 Z sa ks c0 c1 c2 c3 c4 h0 n0 v U'.heap L ∧ FrameEnd U o U' L ({ frames := 1, cells := 0, slots := 0, locals := 14 } : Room).cells ({ frames := 1, cells := 0, slots := 0, locals := 14 } : Room).slots) := by
  refine MetFree.of_bodySF (plainFor_of_name pn_com_example_emu_emu_TableFormFromPrefixPinLaw) hisR ?_
  intro p e s m args below meth c s₁ Bd hml0 hP hK
  obtain ⟨rfl, hZ, hh⟩ := hP
  have hx := Bd.exec
  have hby := Bd.bytes
  have hml : c.maxLocals = 2 := hml0
  have hown : s.vm.findClass "com/example/emu/emu/TableFormFromPrefixPinLaw" = some m.cls := findClass_of_methodNamed Bd.named
  have hnm := (name_of_methodNamed Bd.named Bd.method).1
  have X0 : Stand p l e ({ frames := 1, cells := 0, slots := 0, locals := 14 } : Room) s m #[(.ref sa), (.int 0)] below meth c s₁ [] 0 0 := Stand.of_body Bd
  have e0 : s₁.heap = h0 := by rw [← hh, Bd.state]; rfl
  have N_ := Fr.nil n0
  show own_Goes p.tables e below s (Q1_0 Z sa ks c0 c1 c2 c3 c4 h0 n0) ({ frames := 1, cells := 0, slots := 0, locals := 14 } : Room).cells ({ frames := 1, cells := 0, slots := 0, locals := 14 } : Room).slots s₁ (entryFrame m #[(.ref sa), (.int 0)] 2)
  refine own_by (T' := s₁) (g' := (mkF m 0 #[vR sa, vI 0] [])) (fun t k => castTop (ef_1_0 m sa) k) ?_
  refine own_by (T' := s₁) (g' := (mkF m 1 #[vR sa, vI 0] [(.int 0)])) (fun t k => XS.iloadN X0.here hx rfl (hb hby d1_0) rfl k) ?_
  refine own_by (T' := s₁) (g' := (mkF m 2 #[vR sa, vI 0] [(.int 4), (.int 0)])) (fun t k => XS.iconst X0.here hx rfl (hb hby d1_1) k) ?_
  refine own_by (T' := s₁) (g' := (mkF m 18 #[vR sa, vI 0] [])) (fun t k => XS.icmpYes X0.here hx rfl (pc0 := 2) (pc' := 18) rfl (hb hby d1_2) rfl (tlt (by decide)).1 (by decide) (by decide) k) ?_
  refine own_by (T' := s₁) (g' := (mkF m 19 #[vR sa, vI 0] [(.int 0)])) (fun t k => XS.iloadN X0.here hx rfl (hb hby d1_18) rfl k) ?_
  refine own_by (T' := s₁) (g' := (mkF m 20 #[vR sa, vI 0] [(.int 3), (.int 0)])) (fun t k => XS.iconst X0.here hx rfl (hb hby d1_19) k) ?_
  refine own_by (T' := s₁) (g' := (mkF m 36 #[vR sa, vI 0] [])) (fun t k => XS.icmpYes X0.here hx rfl (pc0 := 20) (pc' := 36) rfl (hb hby d1_20) rfl (tlt (by decide)).1 (by decide) (by decide) k) ?_
  refine own_by (T' := s₁) (g' := (mkF m 37 #[vR sa, vI 0] [(.int 0)])) (fun t k => XS.iloadN X0.here hx rfl (hb hby d1_36) rfl k) ?_
  refine own_by (T' := s₁) (g' := (mkF m 38 #[vR sa, vI 0] [(.int 2), (.int 0)])) (fun t k => XS.iconst X0.here hx rfl (hb hby d1_37) k) ?_
  refine own_by (T' := s₁) (g' := (mkF m 54 #[vR sa, vI 0] [])) (fun t k => XS.icmpYes X0.here hx rfl (pc0 := 38) (pc' := 54) rfl (hb hby d1_38) rfl (tlt (by decide)).1 (by decide) (by decide) k) ?_
  refine own_by (T' := s₁) (g' := (mkF m 55 #[vR sa, vI 0] [(.int 0)])) (fun t k => XS.iloadN X0.here hx rfl (hb hby d1_54) rfl k) ?_
  refine own_by (T' := s₁) (g' := (mkF m 56 #[vR sa, vI 0] [(.int 1), (.int 0)])) (fun t k => XS.iconst X0.here hx rfl (hb hby d1_55) k) ?_
  refine own_by (T' := s₁) (g' := (mkF m 70 #[vR sa, vI 0] [])) (fun t k => XS.icmpYes X0.here hx rfl (pc0 := 56) (pc' := 70) rfl (hb hby d1_56) rfl (tlt (by decide)).1 (by decide) (by decide) k) ?_
  refine own_by (T' := s₁) (g' := (mkF m 71 #[vR sa, vI 0] [(.int 0)])) (fun t k => XS.iconst X0.here hx rfl (hb hby d1_70) k) ?_
  exact own_retI X0 hx Bd.notSynchronized Bd.returns (hb hby d1_71) (by decide) (by decide) (by rw [e0]; exact ⟨rfl, N_, rfl⟩)

def Q1_1 (Z : State) (sa : Addr) (ks : ClassId) (c0 : Int32) (c1 : Int32) (c2 : Int32) (c3 : Int32) (c4 : Int32) (h0 : Heap) (n0 : Nat) (v : Option Value) (h : Heap) (L : List Loc) : Prop := v = some (.int (own_bd1 c0 c1 c2 c3 c4)) ∧ Fr n0 L ∧ h = h0
theorem ef_1_1 (m : MethodId) (sa : Addr) : entryFrame m #[(.ref sa), (.int 1)] 2 = mkF m 0 #[vR sa, vI 1] [] := by first | (simp [entryFrame, mkF, argsToLocals, Value.category]; done) | rfl
theorem d1_59 : decode method_7_code 59 = .ok (.aload_n 0, 1) := by decide +kernel
theorem d1_60 : decode method_7_code 60 = .ok (.iload_n 1, 1) := by decide +kernel
theorem d1_61 : decode method_7_code 61 = .ok (.iconst 1, 1) := by decide +kernel
theorem d1_62 : decode method_7_code 62 = .ok (.invokestatic 44, 3) := by decide +kernel
theorem pd_1 : parseMethodDescriptor "([III)Z" = some ⟨[(.array .int), .int, .int], some .boolean⟩ := by decide +kernel
theorem d1_65 : decode method_7_code 65 = .ok (.ifCond .eq 5, 3) := by decide +kernel
theorem d1_68 : decode method_7_code 68 = .ok (.iconst 1, 1) := by decide +kernel
theorem d1_69 : decode method_7_code 69 = .ok (.ireturn, 1) := by decide +kernel
set_option maxRecDepth 65536 in
set_option maxHeartbeats 40000000 in
theorem rm1_1 (l : Launch) (Z : State) (a0 : Array Value) (hw : ∀ d ∈ tables_1, d.before a0 Z = true) (ws : List Jvm.Cond) (sa : Addr) (ks : ClassId) (c0 : Int32) (c1 : Int32) (c2 : Int32) (c3 : Int32) (c4 : Int32) (h0 : Heap) (n0 : Nat) (Zle : n0 ≤ h0.size) (V_sa : Arv Z h0 sa ks .int (5 : Int32) [(.int c0), (.int c1), (.int c2), (.int c3), (.int c4)] (.int 0)) :
    MetFree l (⟨"com/example/emu/emu/TableFormFromPrefixPinLaw", "border", "([II)I"⟩ : MethodName) (head1 (Jvm.Cond.code (⟨"com/example/emu/emu/TableFormFromPrefixPinLaw", "border", "([II)I"⟩ : MethodName) method_7_code 2 (some .int) :: ws) ({ frames := 1, cells := 0, slots := 0, locals := 14 } : Room)) (fun a U => a = #[(.ref sa), (.int 1)] ∧ Z.Warmed39 U.vm ∧ U.heap = h0) (fun _ _ _ _ _ => True) (fun _ U o U' => ∃ v L, o = .returned v ∧ Q1_1 Z sa ks c0 c1 c2 c3 c4 h0 n0 v U'.heap L ∧ FrameEnd U o U' L ({ frames := 1, cells := 0, slots := 0, locals := 14 } : Room).cells ({ frames := 1, cells := 0, slots := 0, locals := 14 } : Room).slots) := by
  refine MetFree.of_bodySF (plainFor_of_name pn_com_example_emu_emu_TableFormFromPrefixPinLaw) hisR ?_
  intro p e s m args below meth c s₁ Bd hml0 hP hK
  obtain ⟨rfl, hZ, hh⟩ := hP
  have hx := Bd.exec
  have hby := Bd.bytes
  have hml : c.maxLocals = 2 := hml0
  have hown : s.vm.findClass "com/example/emu/emu/TableFormFromPrefixPinLaw" = some m.cls := findClass_of_methodNamed Bd.named
  have hnm := (name_of_methodNamed Bd.named Bd.method).1
  have X0 : Stand p l e ({ frames := 1, cells := 0, slots := 0, locals := 14 } : Room) s m #[(.ref sa), (.int 1)] below meth c s₁ [] 0 0 := Stand.of_body Bd
  have e0 : s₁.heap = h0 := by rw [← hh, Bd.state]; rfl
  have N_ := Fr.nil n0
  show own_Goes p.tables e below s (Q1_1 Z sa ks c0 c1 c2 c3 c4 h0 n0) ({ frames := 1, cells := 0, slots := 0, locals := 14 } : Room).cells ({ frames := 1, cells := 0, slots := 0, locals := 14 } : Room).slots s₁ (entryFrame m #[(.ref sa), (.int 1)] 2)
  refine own_by (T' := s₁) (g' := (mkF m 0 #[vR sa, vI 1] [])) (fun t k => castTop (ef_1_1 m sa) k) ?_
  refine own_by (T' := s₁) (g' := (mkF m 1 #[vR sa, vI 1] [(.int 1)])) (fun t k => XS.iloadN X0.here hx rfl (hb hby d1_0) rfl k) ?_
  refine own_by (T' := s₁) (g' := (mkF m 2 #[vR sa, vI 1] [(.int 4), (.int 1)])) (fun t k => XS.iconst X0.here hx rfl (hb hby d1_1) k) ?_
  refine own_by (T' := s₁) (g' := (mkF m 18 #[vR sa, vI 1] [])) (fun t k => XS.icmpYes X0.here hx rfl (pc0 := 2) (pc' := 18) rfl (hb hby d1_2) rfl (tlt (by decide)).1 (by decide) (by decide) k) ?_
  refine own_by (T' := s₁) (g' := (mkF m 19 #[vR sa, vI 1] [(.int 1)])) (fun t k => XS.iloadN X0.here hx rfl (hb hby d1_18) rfl k) ?_
  refine own_by (T' := s₁) (g' := (mkF m 20 #[vR sa, vI 1] [(.int 3), (.int 1)])) (fun t k => XS.iconst X0.here hx rfl (hb hby d1_19) k) ?_
  refine own_by (T' := s₁) (g' := (mkF m 36 #[vR sa, vI 1] [])) (fun t k => XS.icmpYes X0.here hx rfl (pc0 := 20) (pc' := 36) rfl (hb hby d1_20) rfl (tlt (by decide)).1 (by decide) (by decide) k) ?_
  refine own_by (T' := s₁) (g' := (mkF m 37 #[vR sa, vI 1] [(.int 1)])) (fun t k => XS.iloadN X0.here hx rfl (hb hby d1_36) rfl k) ?_
  refine own_by (T' := s₁) (g' := (mkF m 38 #[vR sa, vI 1] [(.int 2), (.int 1)])) (fun t k => XS.iconst X0.here hx rfl (hb hby d1_37) k) ?_
  refine own_by (T' := s₁) (g' := (mkF m 54 #[vR sa, vI 1] [])) (fun t k => XS.icmpYes X0.here hx rfl (pc0 := 38) (pc' := 54) rfl (hb hby d1_38) rfl (tlt (by decide)).1 (by decide) (by decide) k) ?_
  refine own_by (T' := s₁) (g' := (mkF m 55 #[vR sa, vI 1] [(.int 1)])) (fun t k => XS.iloadN X0.here hx rfl (hb hby d1_54) rfl k) ?_
  refine own_by (T' := s₁) (g' := (mkF m 56 #[vR sa, vI 1] [(.int 1), (.int 1)])) (fun t k => XS.iconst X0.here hx rfl (hb hby d1_55) k) ?_
  refine own_by (T' := s₁) (g' := (mkF m 59 #[vR sa, vI 1] [])) (fun t k => XS.icmpNo X0.here hx rfl (hb hby d1_56) rfl (flt (by decide)).1 k) ?_
  refine own_by (T' := s₁) (g' := (mkF m 60 #[vR sa, vI 1] [(.ref sa)])) (fun t k => XS.aloadN X0.here hx rfl (hb hby d1_59) rfl rfl k) ?_
  refine own_by (T' := s₁) (g' := (mkF m 61 #[vR sa, vI 1] [(.int 1), (.ref sa)])) (fun t k => XS.iloadN X0.here hx rfl (hb hby d1_60) rfl k) ?_
  refine own_by (T' := s₁) (g' := (mkF m 62 #[vR sa, vI 1] [(.int 1), (.int 1), (.ref sa)])) (fun t k => XS.iconst X0.here hx rfl (hb hby d1_61) k) ?_
  obtain ⟨_, _, ⟨T1, L1, k1, n1⟩, -, X1, ⟨Lc1, hQ1, l1, y1, z1⟩, st1⟩ := Jvm.LawKit.callS X0 hx (y := (⟨"com/example/emu/emu/TableFormFromPrefixPinLaw", "match", "([III)Z"⟩ : MethodName)) hown (mvT hZ (hw _ (own_m 5 rfl))) (mvT hZ (hw _ (own_m 6 rfl))) (mvT hZ (hw _ (own_m 3 rfl))) (mvT hZ (hw _ (own_m 7 rfl))) (by decide) (backOf (W := 0) (rm2_1_1 l Z a0 hw [] sa ks c0 c1 c2 c3 c4 h0 n0 Zle V_sa) hZ (hw _ (own_m 7 rfl)) (hw _ (own_m 3 rfl)) (by decide) (by decide)) (g := (mkF m 62 #[vR sa, vI 1] [(.int 1), (.int 1), (.ref sa)])) rfl (by rw [hml]; rfl) (argsL := [(.ref sa), (.int 1), (.int 1)]) (rest := []) (lenOf pd_1 rfl) rfl (own_le rfl) (hb hby d1_62) (fun _ _ => ⟨rfl, e0, (by decide : 0 + 0 ≤ _), (by decide : 0 + 0 ≤ _)⟩)
  dsimp only [Pt.U, Pt.locs, Pt.cells, Pt.slots] at X1 l1 y1 z1 st1 hQ1
  subst l1 y1 z1
  obtain ⟨rfl, Nq1, e1⟩ := hQ1
  replace N_ := Fr.app N_ Nq1
  clear Nq1
  refine own_by (T' := T1) (g' := (mkF m 65 #[vR sa, vI 1] [(.int (own_eq1_1 c0 c1 c2 c3 c4))])) (fun t k => st1 _ k) ?_
  clear st1 X0 e0
  by_cases hc65_2 : (own_eq1_1 c0 c1 c2 c3 c4) = (0 : Int32)
  · refine own_by (T' := T1) (g' := (mkF m 70 #[vR sa, vI 1] [])) (fun t k => XS.ifYes X1.here hx rfl (pc0 := 65) (pc' := 70) rfl (hb hby d1_65) rfl ((if0 _ _).trans (teq hc65_2).1) (by decide) (by decide) k) ?_
    refine own_by (T' := T1) (g' := (mkF m 71 #[vR sa, vI 1] [(.int 0)])) (fun t k => XS.iconst X1.here hx rfl (hb hby d1_70) k) ?_
    exact own_retI X1 hx Bd.notSynchronized Bd.returns (hb hby d1_71) (by decide) (by decide) (by rw [e1]; exact ⟨by unfold own_bd1; rw [if_pos hc65_2], N_, rfl⟩)
  · refine own_by (T' := T1) (g' := (mkF m 68 #[vR sa, vI 1] [])) (fun t k => XS.ifNo X1.here hx rfl (hb hby d1_65) rfl ((if0 _ _).trans (feq hc65_2).1) k) ?_
    refine own_by (T' := T1) (g' := (mkF m 69 #[vR sa, vI 1] [(.int 1)])) (fun t k => XS.iconst X1.here hx rfl (hb hby d1_68) k) ?_
    exact own_retI X1 hx Bd.notSynchronized Bd.returns (hb hby d1_69) (by decide) (by decide) (by rw [e1]; exact ⟨by unfold own_bd1; rw [if_neg hc65_2], N_, rfl⟩)

def Q1_2 (Z : State) (sa : Addr) (ks : ClassId) (c0 : Int32) (c1 : Int32) (c2 : Int32) (c3 : Int32) (c4 : Int32) (h0 : Heap) (n0 : Nat) (v : Option Value) (h : Heap) (L : List Loc) : Prop := v = some (.int (own_bd2 c0 c1 c2 c3 c4)) ∧ Fr n0 L ∧ h = h0
theorem ef_1_2 (m : MethodId) (sa : Addr) : entryFrame m #[(.ref sa), (.int 2)] 2 = mkF m 0 #[vR sa, vI 2] [] := by first | (simp [entryFrame, mkF, argsToLocals, Value.category]; done) | rfl
theorem d1_41 : decode method_7_code 41 = .ok (.aload_n 0, 1) := by decide +kernel
theorem d1_42 : decode method_7_code 42 = .ok (.iload_n 1, 1) := by decide +kernel
theorem d1_43 : decode method_7_code 43 = .ok (.iconst 1, 1) := by decide +kernel
theorem d1_44 : decode method_7_code 44 = .ok (.isub, 1) := by decide +kernel
theorem d1_45 : decode method_7_code 45 = .ok (.iconst 2, 1) := by decide +kernel
theorem d1_46 : decode method_7_code 46 = .ok (.invokestatic 44, 3) := by decide +kernel
theorem d1_49 : decode method_7_code 49 = .ok (.ifCond .eq 5, 3) := by decide +kernel
theorem d1_52 : decode method_7_code 52 = .ok (.iconst 2, 1) := by decide +kernel
theorem d1_53 : decode method_7_code 53 = .ok (.ireturn, 1) := by decide +kernel
set_option maxRecDepth 65536 in
set_option maxHeartbeats 40000000 in
theorem rm1_2 (l : Launch) (Z : State) (a0 : Array Value) (hw : ∀ d ∈ tables_1, d.before a0 Z = true) (ws : List Jvm.Cond) (sa : Addr) (ks : ClassId) (c0 : Int32) (c1 : Int32) (c2 : Int32) (c3 : Int32) (c4 : Int32) (h0 : Heap) (n0 : Nat) (Zle : n0 ≤ h0.size) (V_sa : Arv Z h0 sa ks .int (5 : Int32) [(.int c0), (.int c1), (.int c2), (.int c3), (.int c4)] (.int 0)) :
    MetFree l (⟨"com/example/emu/emu/TableFormFromPrefixPinLaw", "border", "([II)I"⟩ : MethodName) (head1 (Jvm.Cond.code (⟨"com/example/emu/emu/TableFormFromPrefixPinLaw", "border", "([II)I"⟩ : MethodName) method_7_code 2 (some .int) :: ws) ({ frames := 1, cells := 0, slots := 0, locals := 14 } : Room)) (fun a U => a = #[(.ref sa), (.int 2)] ∧ Z.Warmed39 U.vm ∧ U.heap = h0) (fun _ _ _ _ _ => True) (fun _ U o U' => ∃ v L, o = .returned v ∧ Q1_2 Z sa ks c0 c1 c2 c3 c4 h0 n0 v U'.heap L ∧ FrameEnd U o U' L ({ frames := 1, cells := 0, slots := 0, locals := 14 } : Room).cells ({ frames := 1, cells := 0, slots := 0, locals := 14 } : Room).slots) := by
  refine MetFree.of_bodySF (plainFor_of_name pn_com_example_emu_emu_TableFormFromPrefixPinLaw) hisR ?_
  intro p e s m args below meth c s₁ Bd hml0 hP hK
  obtain ⟨rfl, hZ, hh⟩ := hP
  have hx := Bd.exec
  have hby := Bd.bytes
  have hml : c.maxLocals = 2 := hml0
  have hown : s.vm.findClass "com/example/emu/emu/TableFormFromPrefixPinLaw" = some m.cls := findClass_of_methodNamed Bd.named
  have hnm := (name_of_methodNamed Bd.named Bd.method).1
  have X0 : Stand p l e ({ frames := 1, cells := 0, slots := 0, locals := 14 } : Room) s m #[(.ref sa), (.int 2)] below meth c s₁ [] 0 0 := Stand.of_body Bd
  have e0 : s₁.heap = h0 := by rw [← hh, Bd.state]; rfl
  have N_ := Fr.nil n0
  show own_Goes p.tables e below s (Q1_2 Z sa ks c0 c1 c2 c3 c4 h0 n0) ({ frames := 1, cells := 0, slots := 0, locals := 14 } : Room).cells ({ frames := 1, cells := 0, slots := 0, locals := 14 } : Room).slots s₁ (entryFrame m #[(.ref sa), (.int 2)] 2)
  refine own_by (T' := s₁) (g' := (mkF m 0 #[vR sa, vI 2] [])) (fun t k => castTop (ef_1_2 m sa) k) ?_
  refine own_by (T' := s₁) (g' := (mkF m 1 #[vR sa, vI 2] [(.int 2)])) (fun t k => XS.iloadN X0.here hx rfl (hb hby d1_0) rfl k) ?_
  refine own_by (T' := s₁) (g' := (mkF m 2 #[vR sa, vI 2] [(.int 4), (.int 2)])) (fun t k => XS.iconst X0.here hx rfl (hb hby d1_1) k) ?_
  refine own_by (T' := s₁) (g' := (mkF m 18 #[vR sa, vI 2] [])) (fun t k => XS.icmpYes X0.here hx rfl (pc0 := 2) (pc' := 18) rfl (hb hby d1_2) rfl (tlt (by decide)).1 (by decide) (by decide) k) ?_
  refine own_by (T' := s₁) (g' := (mkF m 19 #[vR sa, vI 2] [(.int 2)])) (fun t k => XS.iloadN X0.here hx rfl (hb hby d1_18) rfl k) ?_
  refine own_by (T' := s₁) (g' := (mkF m 20 #[vR sa, vI 2] [(.int 3), (.int 2)])) (fun t k => XS.iconst X0.here hx rfl (hb hby d1_19) k) ?_
  refine own_by (T' := s₁) (g' := (mkF m 36 #[vR sa, vI 2] [])) (fun t k => XS.icmpYes X0.here hx rfl (pc0 := 20) (pc' := 36) rfl (hb hby d1_20) rfl (tlt (by decide)).1 (by decide) (by decide) k) ?_
  refine own_by (T' := s₁) (g' := (mkF m 37 #[vR sa, vI 2] [(.int 2)])) (fun t k => XS.iloadN X0.here hx rfl (hb hby d1_36) rfl k) ?_
  refine own_by (T' := s₁) (g' := (mkF m 38 #[vR sa, vI 2] [(.int 2), (.int 2)])) (fun t k => XS.iconst X0.here hx rfl (hb hby d1_37) k) ?_
  refine own_by (T' := s₁) (g' := (mkF m 41 #[vR sa, vI 2] [])) (fun t k => XS.icmpNo X0.here hx rfl (hb hby d1_38) rfl (flt (by decide)).1 k) ?_
  refine own_by (T' := s₁) (g' := (mkF m 42 #[vR sa, vI 2] [(.ref sa)])) (fun t k => XS.aloadN X0.here hx rfl (hb hby d1_41) rfl rfl k) ?_
  refine own_by (T' := s₁) (g' := (mkF m 43 #[vR sa, vI 2] [(.int 2), (.ref sa)])) (fun t k => XS.iloadN X0.here hx rfl (hb hby d1_42) rfl k) ?_
  refine own_by (T' := s₁) (g' := (mkF m 44 #[vR sa, vI 2] [(.int 1), (.int 2), (.ref sa)])) (fun t k => XS.iconst X0.here hx rfl (hb hby d1_43) k) ?_
  refine own_by (T' := s₁) (g' := (mkF m 45 #[vR sa, vI 2] [(.int 1), (.ref sa)])) (fun t k => XS.isub X0.here hx rfl (hb hby d1_44) rfl k) ?_
  refine own_by (T' := s₁) (g' := (mkF m 46 #[vR sa, vI 2] [(.int 2), (.int 1), (.ref sa)])) (fun t k => XS.iconst X0.here hx rfl (hb hby d1_45) k) ?_
  obtain ⟨_, _, ⟨T1, L1, k1, n1⟩, -, X1, ⟨Lc1, hQ1, l1, y1, z1⟩, st1⟩ := Jvm.LawKit.callS X0 hx (y := (⟨"com/example/emu/emu/TableFormFromPrefixPinLaw", "match", "([III)Z"⟩ : MethodName)) hown (mvT hZ (hw _ (own_m 5 rfl))) (mvT hZ (hw _ (own_m 6 rfl))) (mvT hZ (hw _ (own_m 3 rfl))) (mvT hZ (hw _ (own_m 7 rfl))) (by decide) (backOf (W := 0) (rm2_1_2 l Z a0 hw [] sa ks c0 c1 c2 c3 c4 h0 n0 Zle V_sa) hZ (hw _ (own_m 7 rfl)) (hw _ (own_m 3 rfl)) (by decide) (by decide)) (g := (mkF m 46 #[vR sa, vI 2] [(.int 2), (.int 1), (.ref sa)])) rfl (by rw [hml]; rfl) (argsL := [(.ref sa), (.int 1), (.int 2)]) (rest := []) (lenOf pd_1 rfl) rfl (own_le rfl) (hb hby d1_46) (fun _ _ => ⟨rfl, e0, (by decide : 0 + 0 ≤ _), (by decide : 0 + 0 ≤ _)⟩)
  dsimp only [Pt.U, Pt.locs, Pt.cells, Pt.slots] at X1 l1 y1 z1 st1 hQ1
  subst l1 y1 z1
  obtain ⟨rfl, Nq1, e1⟩ := hQ1
  replace N_ := Fr.app N_ Nq1
  clear Nq1
  refine own_by (T' := T1) (g' := (mkF m 49 #[vR sa, vI 2] [(.int (own_eq1_2 c0 c1 c2 c3 c4))])) (fun t k => st1 _ k) ?_
  clear st1 X0 e0
  by_cases hc49_2 : (own_eq1_2 c0 c1 c2 c3 c4) = (0 : Int32)
  · refine own_by (T' := T1) (g' := (mkF m 54 #[vR sa, vI 2] [])) (fun t k => XS.ifYes X1.here hx rfl (pc0 := 49) (pc' := 54) rfl (hb hby d1_49) rfl ((if0 _ _).trans (teq hc49_2).1) (by decide) (by decide) k) ?_
    refine own_by (T' := T1) (g' := (mkF m 55 #[vR sa, vI 2] [(.int 2)])) (fun t k => XS.iloadN X1.here hx rfl (hb hby d1_54) rfl k) ?_
    refine own_by (T' := T1) (g' := (mkF m 56 #[vR sa, vI 2] [(.int 1), (.int 2)])) (fun t k => XS.iconst X1.here hx rfl (hb hby d1_55) k) ?_
    refine own_by (T' := T1) (g' := (mkF m 59 #[vR sa, vI 2] [])) (fun t k => XS.icmpNo X1.here hx rfl (hb hby d1_56) rfl (flt (by decide)).1 k) ?_
    refine own_by (T' := T1) (g' := (mkF m 60 #[vR sa, vI 2] [(.ref sa)])) (fun t k => XS.aloadN X1.here hx rfl (hb hby d1_59) rfl rfl k) ?_
    refine own_by (T' := T1) (g' := (mkF m 61 #[vR sa, vI 2] [(.int 2), (.ref sa)])) (fun t k => XS.iloadN X1.here hx rfl (hb hby d1_60) rfl k) ?_
    refine own_by (T' := T1) (g' := (mkF m 62 #[vR sa, vI 2] [(.int 1), (.int 2), (.ref sa)])) (fun t k => XS.iconst X1.here hx rfl (hb hby d1_61) k) ?_
    obtain ⟨_, _, ⟨T3, L3, k3, n3⟩, -, X3, ⟨Lc3, hQ3, l3, y3, z3⟩, st3⟩ := Jvm.LawKit.callS X1 hx (y := (⟨"com/example/emu/emu/TableFormFromPrefixPinLaw", "match", "([III)Z"⟩ : MethodName)) hown (mvT hZ (hw _ (own_m 5 rfl))) (mvT hZ (hw _ (own_m 6 rfl))) (mvT hZ (hw _ (own_m 3 rfl))) (mvT hZ (hw _ (own_m 7 rfl))) (by decide) (backOf (W := 0) (rm2_2_1 l Z a0 hw [] sa ks c0 c1 c2 c3 c4 h0 n0 Zle V_sa) hZ (hw _ (own_m 7 rfl)) (hw _ (own_m 3 rfl)) (by decide) (by decide)) (g := (mkF m 62 #[vR sa, vI 2] [(.int 1), (.int 2), (.ref sa)])) rfl (by rw [hml]; rfl) (argsL := [(.ref sa), (.int 2), (.int 1)]) (rest := []) (lenOf pd_1 rfl) rfl (own_le rfl) (hb hby d1_62) (fun _ _ => ⟨rfl, e1, (by decide : 0 + 0 ≤ _), (by decide : 0 + 0 ≤ _)⟩)
    dsimp only [Pt.U, Pt.locs, Pt.cells, Pt.slots] at X3 l3 y3 z3 st3 hQ3
    subst l3 y3 z3
    obtain ⟨rfl, Nq3, e3⟩ := hQ3
    replace N_ := Fr.app N_ Nq3
    clear Nq3
    refine own_by (T' := T3) (g' := (mkF m 65 #[vR sa, vI 2] [(.int (own_eq2_1 c0 c1 c2 c3 c4))])) (fun t k => st3 _ k) ?_
    clear st3 X1 e1
    by_cases hc65_4 : (own_eq2_1 c0 c1 c2 c3 c4) = (0 : Int32)
    · refine own_by (T' := T3) (g' := (mkF m 70 #[vR sa, vI 2] [])) (fun t k => XS.ifYes X3.here hx rfl (pc0 := 65) (pc' := 70) rfl (hb hby d1_65) rfl ((if0 _ _).trans (teq hc65_4).1) (by decide) (by decide) k) ?_
      refine own_by (T' := T3) (g' := (mkF m 71 #[vR sa, vI 2] [(.int 0)])) (fun t k => XS.iconst X3.here hx rfl (hb hby d1_70) k) ?_
      exact own_retI X3 hx Bd.notSynchronized Bd.returns (hb hby d1_71) (by decide) (by decide) (by rw [e3]; exact ⟨by unfold own_bd2; rw [if_pos hc49_2, if_pos hc65_4], N_, rfl⟩)
    · refine own_by (T' := T3) (g' := (mkF m 68 #[vR sa, vI 2] [])) (fun t k => XS.ifNo X3.here hx rfl (hb hby d1_65) rfl ((if0 _ _).trans (feq hc65_4).1) k) ?_
      refine own_by (T' := T3) (g' := (mkF m 69 #[vR sa, vI 2] [(.int 1)])) (fun t k => XS.iconst X3.here hx rfl (hb hby d1_68) k) ?_
      exact own_retI X3 hx Bd.notSynchronized Bd.returns (hb hby d1_69) (by decide) (by decide) (by rw [e3]; exact ⟨by unfold own_bd2; rw [if_pos hc49_2, if_neg hc65_4], N_, rfl⟩)
  · refine own_by (T' := T1) (g' := (mkF m 52 #[vR sa, vI 2] [])) (fun t k => XS.ifNo X1.here hx rfl (hb hby d1_49) rfl ((if0 _ _).trans (feq hc49_2).1) k) ?_
    refine own_by (T' := T1) (g' := (mkF m 53 #[vR sa, vI 2] [(.int 2)])) (fun t k => XS.iconst X1.here hx rfl (hb hby d1_52) k) ?_
    exact own_retI X1 hx Bd.notSynchronized Bd.returns (hb hby d1_53) (by decide) (by decide) (by rw [e1]; exact ⟨by unfold own_bd2; rw [if_neg hc49_2], N_, rfl⟩)

def Q1_3 (Z : State) (sa : Addr) (ks : ClassId) (c0 : Int32) (c1 : Int32) (c2 : Int32) (c3 : Int32) (c4 : Int32) (h0 : Heap) (n0 : Nat) (v : Option Value) (h : Heap) (L : List Loc) : Prop := v = some (.int (own_bd3 c0 c1 c2 c3 c4)) ∧ Fr n0 L ∧ h = h0
theorem ef_1_3 (m : MethodId) (sa : Addr) : entryFrame m #[(.ref sa), (.int 3)] 2 = mkF m 0 #[vR sa, vI 3] [] := by first | (simp [entryFrame, mkF, argsToLocals, Value.category]; done) | rfl
theorem d1_23 : decode method_7_code 23 = .ok (.aload_n 0, 1) := by decide +kernel
theorem d1_24 : decode method_7_code 24 = .ok (.iload_n 1, 1) := by decide +kernel
theorem d1_25 : decode method_7_code 25 = .ok (.iconst 2, 1) := by decide +kernel
theorem d1_26 : decode method_7_code 26 = .ok (.isub, 1) := by decide +kernel
theorem d1_27 : decode method_7_code 27 = .ok (.iconst 3, 1) := by decide +kernel
theorem d1_28 : decode method_7_code 28 = .ok (.invokestatic 44, 3) := by decide +kernel
theorem d1_31 : decode method_7_code 31 = .ok (.ifCond .eq 5, 3) := by decide +kernel
theorem d1_34 : decode method_7_code 34 = .ok (.iconst 3, 1) := by decide +kernel
theorem d1_35 : decode method_7_code 35 = .ok (.ireturn, 1) := by decide +kernel
set_option maxRecDepth 65536 in
set_option maxHeartbeats 40000000 in
theorem rm1_3 (l : Launch) (Z : State) (a0 : Array Value) (hw : ∀ d ∈ tables_1, d.before a0 Z = true) (ws : List Jvm.Cond) (sa : Addr) (ks : ClassId) (c0 : Int32) (c1 : Int32) (c2 : Int32) (c3 : Int32) (c4 : Int32) (h0 : Heap) (n0 : Nat) (Zle : n0 ≤ h0.size) (V_sa : Arv Z h0 sa ks .int (5 : Int32) [(.int c0), (.int c1), (.int c2), (.int c3), (.int c4)] (.int 0)) :
    MetFree l (⟨"com/example/emu/emu/TableFormFromPrefixPinLaw", "border", "([II)I"⟩ : MethodName) (head1 (Jvm.Cond.code (⟨"com/example/emu/emu/TableFormFromPrefixPinLaw", "border", "([II)I"⟩ : MethodName) method_7_code 2 (some .int) :: ws) ({ frames := 1, cells := 0, slots := 0, locals := 14 } : Room)) (fun a U => a = #[(.ref sa), (.int 3)] ∧ Z.Warmed39 U.vm ∧ U.heap = h0) (fun _ _ _ _ _ => True) (fun _ U o U' => ∃ v L, o = .returned v ∧ Q1_3 Z sa ks c0 c1 c2 c3 c4 h0 n0 v U'.heap L ∧ FrameEnd U o U' L ({ frames := 1, cells := 0, slots := 0, locals := 14 } : Room).cells ({ frames := 1, cells := 0, slots := 0, locals := 14 } : Room).slots) := by
  refine MetFree.of_bodySF (plainFor_of_name pn_com_example_emu_emu_TableFormFromPrefixPinLaw) hisR ?_
  intro p e s m args below meth c s₁ Bd hml0 hP hK
  obtain ⟨rfl, hZ, hh⟩ := hP
  have hx := Bd.exec
  have hby := Bd.bytes
  have hml : c.maxLocals = 2 := hml0
  have hown : s.vm.findClass "com/example/emu/emu/TableFormFromPrefixPinLaw" = some m.cls := findClass_of_methodNamed Bd.named
  have hnm := (name_of_methodNamed Bd.named Bd.method).1
  have X0 : Stand p l e ({ frames := 1, cells := 0, slots := 0, locals := 14 } : Room) s m #[(.ref sa), (.int 3)] below meth c s₁ [] 0 0 := Stand.of_body Bd
  have e0 : s₁.heap = h0 := by rw [← hh, Bd.state]; rfl
  have N_ := Fr.nil n0
  show own_Goes p.tables e below s (Q1_3 Z sa ks c0 c1 c2 c3 c4 h0 n0) ({ frames := 1, cells := 0, slots := 0, locals := 14 } : Room).cells ({ frames := 1, cells := 0, slots := 0, locals := 14 } : Room).slots s₁ (entryFrame m #[(.ref sa), (.int 3)] 2)
  refine own_by (T' := s₁) (g' := (mkF m 0 #[vR sa, vI 3] [])) (fun t k => castTop (ef_1_3 m sa) k) ?_
  refine own_by (T' := s₁) (g' := (mkF m 1 #[vR sa, vI 3] [(.int 3)])) (fun t k => XS.iloadN X0.here hx rfl (hb hby d1_0) rfl k) ?_
  refine own_by (T' := s₁) (g' := (mkF m 2 #[vR sa, vI 3] [(.int 4), (.int 3)])) (fun t k => XS.iconst X0.here hx rfl (hb hby d1_1) k) ?_
  refine own_by (T' := s₁) (g' := (mkF m 18 #[vR sa, vI 3] [])) (fun t k => XS.icmpYes X0.here hx rfl (pc0 := 2) (pc' := 18) rfl (hb hby d1_2) rfl (tlt (by decide)).1 (by decide) (by decide) k) ?_
  refine own_by (T' := s₁) (g' := (mkF m 19 #[vR sa, vI 3] [(.int 3)])) (fun t k => XS.iloadN X0.here hx rfl (hb hby d1_18) rfl k) ?_
  refine own_by (T' := s₁) (g' := (mkF m 20 #[vR sa, vI 3] [(.int 3), (.int 3)])) (fun t k => XS.iconst X0.here hx rfl (hb hby d1_19) k) ?_
  refine own_by (T' := s₁) (g' := (mkF m 23 #[vR sa, vI 3] [])) (fun t k => XS.icmpNo X0.here hx rfl (hb hby d1_20) rfl (flt (by decide)).1 k) ?_
  refine own_by (T' := s₁) (g' := (mkF m 24 #[vR sa, vI 3] [(.ref sa)])) (fun t k => XS.aloadN X0.here hx rfl (hb hby d1_23) rfl rfl k) ?_
  refine own_by (T' := s₁) (g' := (mkF m 25 #[vR sa, vI 3] [(.int 3), (.ref sa)])) (fun t k => XS.iloadN X0.here hx rfl (hb hby d1_24) rfl k) ?_
  refine own_by (T' := s₁) (g' := (mkF m 26 #[vR sa, vI 3] [(.int 2), (.int 3), (.ref sa)])) (fun t k => XS.iconst X0.here hx rfl (hb hby d1_25) k) ?_
  refine own_by (T' := s₁) (g' := (mkF m 27 #[vR sa, vI 3] [(.int 1), (.ref sa)])) (fun t k => XS.isub X0.here hx rfl (hb hby d1_26) rfl k) ?_
  refine own_by (T' := s₁) (g' := (mkF m 28 #[vR sa, vI 3] [(.int 3), (.int 1), (.ref sa)])) (fun t k => XS.iconst X0.here hx rfl (hb hby d1_27) k) ?_
  obtain ⟨_, _, ⟨T1, L1, k1, n1⟩, -, X1, ⟨Lc1, hQ1, l1, y1, z1⟩, st1⟩ := Jvm.LawKit.callS X0 hx (y := (⟨"com/example/emu/emu/TableFormFromPrefixPinLaw", "match", "([III)Z"⟩ : MethodName)) hown (mvT hZ (hw _ (own_m 5 rfl))) (mvT hZ (hw _ (own_m 6 rfl))) (mvT hZ (hw _ (own_m 3 rfl))) (mvT hZ (hw _ (own_m 7 rfl))) (by decide) (backOf (W := 0) (rm2_1_3 l Z a0 hw [] sa ks c0 c1 c2 c3 c4 h0 n0 Zle V_sa) hZ (hw _ (own_m 7 rfl)) (hw _ (own_m 3 rfl)) (by decide) (by decide)) (g := (mkF m 28 #[vR sa, vI 3] [(.int 3), (.int 1), (.ref sa)])) rfl (by rw [hml]; rfl) (argsL := [(.ref sa), (.int 1), (.int 3)]) (rest := []) (lenOf pd_1 rfl) rfl (own_le rfl) (hb hby d1_28) (fun _ _ => ⟨rfl, e0, (by decide : 0 + 0 ≤ _), (by decide : 0 + 0 ≤ _)⟩)
  dsimp only [Pt.U, Pt.locs, Pt.cells, Pt.slots] at X1 l1 y1 z1 st1 hQ1
  subst l1 y1 z1
  obtain ⟨rfl, Nq1, e1⟩ := hQ1
  replace N_ := Fr.app N_ Nq1
  clear Nq1
  refine own_by (T' := T1) (g' := (mkF m 31 #[vR sa, vI 3] [(.int (own_eq1_3 c0 c1 c2 c3 c4))])) (fun t k => st1 _ k) ?_
  clear st1 X0 e0
  by_cases hc31_2 : (own_eq1_3 c0 c1 c2 c3 c4) = (0 : Int32)
  · refine own_by (T' := T1) (g' := (mkF m 36 #[vR sa, vI 3] [])) (fun t k => XS.ifYes X1.here hx rfl (pc0 := 31) (pc' := 36) rfl (hb hby d1_31) rfl ((if0 _ _).trans (teq hc31_2).1) (by decide) (by decide) k) ?_
    refine own_by (T' := T1) (g' := (mkF m 37 #[vR sa, vI 3] [(.int 3)])) (fun t k => XS.iloadN X1.here hx rfl (hb hby d1_36) rfl k) ?_
    refine own_by (T' := T1) (g' := (mkF m 38 #[vR sa, vI 3] [(.int 2), (.int 3)])) (fun t k => XS.iconst X1.here hx rfl (hb hby d1_37) k) ?_
    refine own_by (T' := T1) (g' := (mkF m 41 #[vR sa, vI 3] [])) (fun t k => XS.icmpNo X1.here hx rfl (hb hby d1_38) rfl (flt (by decide)).1 k) ?_
    refine own_by (T' := T1) (g' := (mkF m 42 #[vR sa, vI 3] [(.ref sa)])) (fun t k => XS.aloadN X1.here hx rfl (hb hby d1_41) rfl rfl k) ?_
    refine own_by (T' := T1) (g' := (mkF m 43 #[vR sa, vI 3] [(.int 3), (.ref sa)])) (fun t k => XS.iloadN X1.here hx rfl (hb hby d1_42) rfl k) ?_
    refine own_by (T' := T1) (g' := (mkF m 44 #[vR sa, vI 3] [(.int 1), (.int 3), (.ref sa)])) (fun t k => XS.iconst X1.here hx rfl (hb hby d1_43) k) ?_
    refine own_by (T' := T1) (g' := (mkF m 45 #[vR sa, vI 3] [(.int 2), (.ref sa)])) (fun t k => XS.isub X1.here hx rfl (hb hby d1_44) rfl k) ?_
    refine own_by (T' := T1) (g' := (mkF m 46 #[vR sa, vI 3] [(.int 2), (.int 2), (.ref sa)])) (fun t k => XS.iconst X1.here hx rfl (hb hby d1_45) k) ?_
    obtain ⟨_, _, ⟨T3, L3, k3, n3⟩, -, X3, ⟨Lc3, hQ3, l3, y3, z3⟩, st3⟩ := Jvm.LawKit.callS X1 hx (y := (⟨"com/example/emu/emu/TableFormFromPrefixPinLaw", "match", "([III)Z"⟩ : MethodName)) hown (mvT hZ (hw _ (own_m 5 rfl))) (mvT hZ (hw _ (own_m 6 rfl))) (mvT hZ (hw _ (own_m 3 rfl))) (mvT hZ (hw _ (own_m 7 rfl))) (by decide) (backOf (W := 0) (rm2_2_2 l Z a0 hw [] sa ks c0 c1 c2 c3 c4 h0 n0 Zle V_sa) hZ (hw _ (own_m 7 rfl)) (hw _ (own_m 3 rfl)) (by decide) (by decide)) (g := (mkF m 46 #[vR sa, vI 3] [(.int 2), (.int 2), (.ref sa)])) rfl (by rw [hml]; rfl) (argsL := [(.ref sa), (.int 2), (.int 2)]) (rest := []) (lenOf pd_1 rfl) rfl (own_le rfl) (hb hby d1_46) (fun _ _ => ⟨rfl, e1, (by decide : 0 + 0 ≤ _), (by decide : 0 + 0 ≤ _)⟩)
    dsimp only [Pt.U, Pt.locs, Pt.cells, Pt.slots] at X3 l3 y3 z3 st3 hQ3
    subst l3 y3 z3
    obtain ⟨rfl, Nq3, e3⟩ := hQ3
    replace N_ := Fr.app N_ Nq3
    clear Nq3
    refine own_by (T' := T3) (g' := (mkF m 49 #[vR sa, vI 3] [(.int (own_eq2_2 c0 c1 c2 c3 c4))])) (fun t k => st3 _ k) ?_
    clear st3 X1 e1
    by_cases hc49_4 : (own_eq2_2 c0 c1 c2 c3 c4) = (0 : Int32)
    · refine own_by (T' := T3) (g' := (mkF m 54 #[vR sa, vI 3] [])) (fun t k => XS.ifYes X3.here hx rfl (pc0 := 49) (pc' := 54) rfl (hb hby d1_49) rfl ((if0 _ _).trans (teq hc49_4).1) (by decide) (by decide) k) ?_
      refine own_by (T' := T3) (g' := (mkF m 55 #[vR sa, vI 3] [(.int 3)])) (fun t k => XS.iloadN X3.here hx rfl (hb hby d1_54) rfl k) ?_
      refine own_by (T' := T3) (g' := (mkF m 56 #[vR sa, vI 3] [(.int 1), (.int 3)])) (fun t k => XS.iconst X3.here hx rfl (hb hby d1_55) k) ?_
      refine own_by (T' := T3) (g' := (mkF m 59 #[vR sa, vI 3] [])) (fun t k => XS.icmpNo X3.here hx rfl (hb hby d1_56) rfl (flt (by decide)).1 k) ?_
      refine own_by (T' := T3) (g' := (mkF m 60 #[vR sa, vI 3] [(.ref sa)])) (fun t k => XS.aloadN X3.here hx rfl (hb hby d1_59) rfl rfl k) ?_
      refine own_by (T' := T3) (g' := (mkF m 61 #[vR sa, vI 3] [(.int 3), (.ref sa)])) (fun t k => XS.iloadN X3.here hx rfl (hb hby d1_60) rfl k) ?_
      refine own_by (T' := T3) (g' := (mkF m 62 #[vR sa, vI 3] [(.int 1), (.int 3), (.ref sa)])) (fun t k => XS.iconst X3.here hx rfl (hb hby d1_61) k) ?_
      obtain ⟨_, _, ⟨T5, L5, k5, n5⟩, -, X5, ⟨Lc5, hQ5, l5, y5, z5⟩, st5⟩ := Jvm.LawKit.callS X3 hx (y := (⟨"com/example/emu/emu/TableFormFromPrefixPinLaw", "match", "([III)Z"⟩ : MethodName)) hown (mvT hZ (hw _ (own_m 5 rfl))) (mvT hZ (hw _ (own_m 6 rfl))) (mvT hZ (hw _ (own_m 3 rfl))) (mvT hZ (hw _ (own_m 7 rfl))) (by decide) (backOf (W := 0) (rm2_3_1 l Z a0 hw [] sa ks c0 c1 c2 c3 c4 h0 n0 Zle V_sa) hZ (hw _ (own_m 7 rfl)) (hw _ (own_m 3 rfl)) (by decide) (by decide)) (g := (mkF m 62 #[vR sa, vI 3] [(.int 1), (.int 3), (.ref sa)])) rfl (by rw [hml]; rfl) (argsL := [(.ref sa), (.int 3), (.int 1)]) (rest := []) (lenOf pd_1 rfl) rfl (own_le rfl) (hb hby d1_62) (fun _ _ => ⟨rfl, e3, (by decide : 0 + 0 ≤ _), (by decide : 0 + 0 ≤ _)⟩)
      dsimp only [Pt.U, Pt.locs, Pt.cells, Pt.slots] at X5 l5 y5 z5 st5 hQ5
      subst l5 y5 z5
      obtain ⟨rfl, Nq5, e5⟩ := hQ5
      replace N_ := Fr.app N_ Nq5
      clear Nq5
      refine own_by (T' := T5) (g' := (mkF m 65 #[vR sa, vI 3] [(.int (own_eq3_1 c0 c1 c2 c3 c4))])) (fun t k => st5 _ k) ?_
      clear st5 X3 e3
      by_cases hc65_6 : (own_eq3_1 c0 c1 c2 c3 c4) = (0 : Int32)
      · refine own_by (T' := T5) (g' := (mkF m 70 #[vR sa, vI 3] [])) (fun t k => XS.ifYes X5.here hx rfl (pc0 := 65) (pc' := 70) rfl (hb hby d1_65) rfl ((if0 _ _).trans (teq hc65_6).1) (by decide) (by decide) k) ?_
        refine own_by (T' := T5) (g' := (mkF m 71 #[vR sa, vI 3] [(.int 0)])) (fun t k => XS.iconst X5.here hx rfl (hb hby d1_70) k) ?_
        exact own_retI X5 hx Bd.notSynchronized Bd.returns (hb hby d1_71) (by decide) (by decide) (by rw [e5]; exact ⟨by unfold own_bd3; rw [if_pos hc31_2, if_pos hc49_4, if_pos hc65_6], N_, rfl⟩)
      · refine own_by (T' := T5) (g' := (mkF m 68 #[vR sa, vI 3] [])) (fun t k => XS.ifNo X5.here hx rfl (hb hby d1_65) rfl ((if0 _ _).trans (feq hc65_6).1) k) ?_
        refine own_by (T' := T5) (g' := (mkF m 69 #[vR sa, vI 3] [(.int 1)])) (fun t k => XS.iconst X5.here hx rfl (hb hby d1_68) k) ?_
        exact own_retI X5 hx Bd.notSynchronized Bd.returns (hb hby d1_69) (by decide) (by decide) (by rw [e5]; exact ⟨by unfold own_bd3; rw [if_pos hc31_2, if_pos hc49_4, if_neg hc65_6], N_, rfl⟩)
    · refine own_by (T' := T3) (g' := (mkF m 52 #[vR sa, vI 3] [])) (fun t k => XS.ifNo X3.here hx rfl (hb hby d1_49) rfl ((if0 _ _).trans (feq hc49_4).1) k) ?_
      refine own_by (T' := T3) (g' := (mkF m 53 #[vR sa, vI 3] [(.int 2)])) (fun t k => XS.iconst X3.here hx rfl (hb hby d1_52) k) ?_
      exact own_retI X3 hx Bd.notSynchronized Bd.returns (hb hby d1_53) (by decide) (by decide) (by rw [e3]; exact ⟨by unfold own_bd3; rw [if_pos hc31_2, if_neg hc49_4], N_, rfl⟩)
  · refine own_by (T' := T1) (g' := (mkF m 34 #[vR sa, vI 3] [])) (fun t k => XS.ifNo X1.here hx rfl (hb hby d1_31) rfl ((if0 _ _).trans (feq hc31_2).1) k) ?_
    refine own_by (T' := T1) (g' := (mkF m 35 #[vR sa, vI 3] [(.int 3)])) (fun t k => XS.iconst X1.here hx rfl (hb hby d1_34) k) ?_
    exact own_retI X1 hx Bd.notSynchronized Bd.returns (hb hby d1_35) (by decide) (by decide) (by rw [e1]; exact ⟨by unfold own_bd3; rw [if_neg hc31_2], N_, rfl⟩)

def Q1_4 (Z : State) (sa : Addr) (ks : ClassId) (c0 : Int32) (c1 : Int32) (c2 : Int32) (c3 : Int32) (c4 : Int32) (h0 : Heap) (n0 : Nat) (v : Option Value) (h : Heap) (L : List Loc) : Prop := v = some (.int (own_bd4 c0 c1 c2 c3 c4)) ∧ Fr n0 L ∧ h = h0
theorem ef_1_4 (m : MethodId) (sa : Addr) : entryFrame m #[(.ref sa), (.int 4)] 2 = mkF m 0 #[vR sa, vI 4] [] := by first | (simp [entryFrame, mkF, argsToLocals, Value.category]; done) | rfl
theorem d1_5 : decode method_7_code 5 = .ok (.aload_n 0, 1) := by decide +kernel
theorem d1_6 : decode method_7_code 6 = .ok (.iload_n 1, 1) := by decide +kernel
theorem d1_7 : decode method_7_code 7 = .ok (.iconst 3, 1) := by decide +kernel
theorem d1_8 : decode method_7_code 8 = .ok (.isub, 1) := by decide +kernel
theorem d1_9 : decode method_7_code 9 = .ok (.iconst 4, 1) := by decide +kernel
theorem d1_10 : decode method_7_code 10 = .ok (.invokestatic 44, 3) := by decide +kernel
theorem d1_13 : decode method_7_code 13 = .ok (.ifCond .eq 5, 3) := by decide +kernel
theorem d1_16 : decode method_7_code 16 = .ok (.iconst 4, 1) := by decide +kernel
theorem d1_17 : decode method_7_code 17 = .ok (.ireturn, 1) := by decide +kernel
set_option maxRecDepth 65536 in
set_option maxHeartbeats 40000000 in
theorem rm1_4 (l : Launch) (Z : State) (a0 : Array Value) (hw : ∀ d ∈ tables_1, d.before a0 Z = true) (ws : List Jvm.Cond) (sa : Addr) (ks : ClassId) (c0 : Int32) (c1 : Int32) (c2 : Int32) (c3 : Int32) (c4 : Int32) (h0 : Heap) (n0 : Nat) (Zle : n0 ≤ h0.size) (V_sa : Arv Z h0 sa ks .int (5 : Int32) [(.int c0), (.int c1), (.int c2), (.int c3), (.int c4)] (.int 0)) :
    MetFree l (⟨"com/example/emu/emu/TableFormFromPrefixPinLaw", "border", "([II)I"⟩ : MethodName) (head1 (Jvm.Cond.code (⟨"com/example/emu/emu/TableFormFromPrefixPinLaw", "border", "([II)I"⟩ : MethodName) method_7_code 2 (some .int) :: ws) ({ frames := 1, cells := 0, slots := 0, locals := 14 } : Room)) (fun a U => a = #[(.ref sa), (.int 4)] ∧ Z.Warmed39 U.vm ∧ U.heap = h0) (fun _ _ _ _ _ => True) (fun _ U o U' => ∃ v L, o = .returned v ∧ Q1_4 Z sa ks c0 c1 c2 c3 c4 h0 n0 v U'.heap L ∧ FrameEnd U o U' L ({ frames := 1, cells := 0, slots := 0, locals := 14 } : Room).cells ({ frames := 1, cells := 0, slots := 0, locals := 14 } : Room).slots) := by
  refine MetFree.of_bodySF (plainFor_of_name pn_com_example_emu_emu_TableFormFromPrefixPinLaw) hisR ?_
  intro p e s m args below meth c s₁ Bd hml0 hP hK
  obtain ⟨rfl, hZ, hh⟩ := hP
  have hx := Bd.exec
  have hby := Bd.bytes
  have hml : c.maxLocals = 2 := hml0
  have hown : s.vm.findClass "com/example/emu/emu/TableFormFromPrefixPinLaw" = some m.cls := findClass_of_methodNamed Bd.named
  have hnm := (name_of_methodNamed Bd.named Bd.method).1
  have X0 : Stand p l e ({ frames := 1, cells := 0, slots := 0, locals := 14 } : Room) s m #[(.ref sa), (.int 4)] below meth c s₁ [] 0 0 := Stand.of_body Bd
  have e0 : s₁.heap = h0 := by rw [← hh, Bd.state]; rfl
  have N_ := Fr.nil n0
  show own_Goes p.tables e below s (Q1_4 Z sa ks c0 c1 c2 c3 c4 h0 n0) ({ frames := 1, cells := 0, slots := 0, locals := 14 } : Room).cells ({ frames := 1, cells := 0, slots := 0, locals := 14 } : Room).slots s₁ (entryFrame m #[(.ref sa), (.int 4)] 2)
  refine own_by (T' := s₁) (g' := (mkF m 0 #[vR sa, vI 4] [])) (fun t k => castTop (ef_1_4 m sa) k) ?_
  refine own_by (T' := s₁) (g' := (mkF m 1 #[vR sa, vI 4] [(.int 4)])) (fun t k => XS.iloadN X0.here hx rfl (hb hby d1_0) rfl k) ?_
  refine own_by (T' := s₁) (g' := (mkF m 2 #[vR sa, vI 4] [(.int 4), (.int 4)])) (fun t k => XS.iconst X0.here hx rfl (hb hby d1_1) k) ?_
  refine own_by (T' := s₁) (g' := (mkF m 5 #[vR sa, vI 4] [])) (fun t k => XS.icmpNo X0.here hx rfl (hb hby d1_2) rfl (flt (by decide)).1 k) ?_
  refine own_by (T' := s₁) (g' := (mkF m 6 #[vR sa, vI 4] [(.ref sa)])) (fun t k => XS.aloadN X0.here hx rfl (hb hby d1_5) rfl rfl k) ?_
  refine own_by (T' := s₁) (g' := (mkF m 7 #[vR sa, vI 4] [(.int 4), (.ref sa)])) (fun t k => XS.iloadN X0.here hx rfl (hb hby d1_6) rfl k) ?_
  refine own_by (T' := s₁) (g' := (mkF m 8 #[vR sa, vI 4] [(.int 3), (.int 4), (.ref sa)])) (fun t k => XS.iconst X0.here hx rfl (hb hby d1_7) k) ?_
  refine own_by (T' := s₁) (g' := (mkF m 9 #[vR sa, vI 4] [(.int 1), (.ref sa)])) (fun t k => XS.isub X0.here hx rfl (hb hby d1_8) rfl k) ?_
  refine own_by (T' := s₁) (g' := (mkF m 10 #[vR sa, vI 4] [(.int 4), (.int 1), (.ref sa)])) (fun t k => XS.iconst X0.here hx rfl (hb hby d1_9) k) ?_
  obtain ⟨_, _, ⟨T1, L1, k1, n1⟩, -, X1, ⟨Lc1, hQ1, l1, y1, z1⟩, st1⟩ := Jvm.LawKit.callS X0 hx (y := (⟨"com/example/emu/emu/TableFormFromPrefixPinLaw", "match", "([III)Z"⟩ : MethodName)) hown (mvT hZ (hw _ (own_m 5 rfl))) (mvT hZ (hw _ (own_m 6 rfl))) (mvT hZ (hw _ (own_m 3 rfl))) (mvT hZ (hw _ (own_m 7 rfl))) (by decide) (backOf (W := 0) (rm2_1_4 l Z a0 hw [] sa ks c0 c1 c2 c3 c4 h0 n0 Zle V_sa) hZ (hw _ (own_m 7 rfl)) (hw _ (own_m 3 rfl)) (by decide) (by decide)) (g := (mkF m 10 #[vR sa, vI 4] [(.int 4), (.int 1), (.ref sa)])) rfl (by rw [hml]; rfl) (argsL := [(.ref sa), (.int 1), (.int 4)]) (rest := []) (lenOf pd_1 rfl) rfl (own_le rfl) (hb hby d1_10) (fun _ _ => ⟨rfl, e0, (by decide : 0 + 0 ≤ _), (by decide : 0 + 0 ≤ _)⟩)
  dsimp only [Pt.U, Pt.locs, Pt.cells, Pt.slots] at X1 l1 y1 z1 st1 hQ1
  subst l1 y1 z1
  obtain ⟨rfl, Nq1, e1⟩ := hQ1
  replace N_ := Fr.app N_ Nq1
  clear Nq1
  refine own_by (T' := T1) (g' := (mkF m 13 #[vR sa, vI 4] [(.int (own_eq1_4 c0 c1 c2 c3 c4))])) (fun t k => st1 _ k) ?_
  clear st1 X0 e0
  by_cases hc13_2 : (own_eq1_4 c0 c1 c2 c3 c4) = (0 : Int32)
  · refine own_by (T' := T1) (g' := (mkF m 18 #[vR sa, vI 4] [])) (fun t k => XS.ifYes X1.here hx rfl (pc0 := 13) (pc' := 18) rfl (hb hby d1_13) rfl ((if0 _ _).trans (teq hc13_2).1) (by decide) (by decide) k) ?_
    refine own_by (T' := T1) (g' := (mkF m 19 #[vR sa, vI 4] [(.int 4)])) (fun t k => XS.iloadN X1.here hx rfl (hb hby d1_18) rfl k) ?_
    refine own_by (T' := T1) (g' := (mkF m 20 #[vR sa, vI 4] [(.int 3), (.int 4)])) (fun t k => XS.iconst X1.here hx rfl (hb hby d1_19) k) ?_
    refine own_by (T' := T1) (g' := (mkF m 23 #[vR sa, vI 4] [])) (fun t k => XS.icmpNo X1.here hx rfl (hb hby d1_20) rfl (flt (by decide)).1 k) ?_
    refine own_by (T' := T1) (g' := (mkF m 24 #[vR sa, vI 4] [(.ref sa)])) (fun t k => XS.aloadN X1.here hx rfl (hb hby d1_23) rfl rfl k) ?_
    refine own_by (T' := T1) (g' := (mkF m 25 #[vR sa, vI 4] [(.int 4), (.ref sa)])) (fun t k => XS.iloadN X1.here hx rfl (hb hby d1_24) rfl k) ?_
    refine own_by (T' := T1) (g' := (mkF m 26 #[vR sa, vI 4] [(.int 2), (.int 4), (.ref sa)])) (fun t k => XS.iconst X1.here hx rfl (hb hby d1_25) k) ?_
    refine own_by (T' := T1) (g' := (mkF m 27 #[vR sa, vI 4] [(.int 2), (.ref sa)])) (fun t k => XS.isub X1.here hx rfl (hb hby d1_26) rfl k) ?_
    refine own_by (T' := T1) (g' := (mkF m 28 #[vR sa, vI 4] [(.int 3), (.int 2), (.ref sa)])) (fun t k => XS.iconst X1.here hx rfl (hb hby d1_27) k) ?_
    obtain ⟨_, _, ⟨T3, L3, k3, n3⟩, -, X3, ⟨Lc3, hQ3, l3, y3, z3⟩, st3⟩ := Jvm.LawKit.callS X1 hx (y := (⟨"com/example/emu/emu/TableFormFromPrefixPinLaw", "match", "([III)Z"⟩ : MethodName)) hown (mvT hZ (hw _ (own_m 5 rfl))) (mvT hZ (hw _ (own_m 6 rfl))) (mvT hZ (hw _ (own_m 3 rfl))) (mvT hZ (hw _ (own_m 7 rfl))) (by decide) (backOf (W := 0) (rm2_2_3 l Z a0 hw [] sa ks c0 c1 c2 c3 c4 h0 n0 Zle V_sa) hZ (hw _ (own_m 7 rfl)) (hw _ (own_m 3 rfl)) (by decide) (by decide)) (g := (mkF m 28 #[vR sa, vI 4] [(.int 3), (.int 2), (.ref sa)])) rfl (by rw [hml]; rfl) (argsL := [(.ref sa), (.int 2), (.int 3)]) (rest := []) (lenOf pd_1 rfl) rfl (own_le rfl) (hb hby d1_28) (fun _ _ => ⟨rfl, e1, (by decide : 0 + 0 ≤ _), (by decide : 0 + 0 ≤ _)⟩)
    dsimp only [Pt.U, Pt.locs, Pt.cells, Pt.slots] at X3 l3 y3 z3 st3 hQ3
    subst l3 y3 z3
    obtain ⟨rfl, Nq3, e3⟩ := hQ3
    replace N_ := Fr.app N_ Nq3
    clear Nq3
    refine own_by (T' := T3) (g' := (mkF m 31 #[vR sa, vI 4] [(.int (own_eq2_3 c0 c1 c2 c3 c4))])) (fun t k => st3 _ k) ?_
    clear st3 X1 e1
    by_cases hc31_4 : (own_eq2_3 c0 c1 c2 c3 c4) = (0 : Int32)
    · refine own_by (T' := T3) (g' := (mkF m 36 #[vR sa, vI 4] [])) (fun t k => XS.ifYes X3.here hx rfl (pc0 := 31) (pc' := 36) rfl (hb hby d1_31) rfl ((if0 _ _).trans (teq hc31_4).1) (by decide) (by decide) k) ?_
      refine own_by (T' := T3) (g' := (mkF m 37 #[vR sa, vI 4] [(.int 4)])) (fun t k => XS.iloadN X3.here hx rfl (hb hby d1_36) rfl k) ?_
      refine own_by (T' := T3) (g' := (mkF m 38 #[vR sa, vI 4] [(.int 2), (.int 4)])) (fun t k => XS.iconst X3.here hx rfl (hb hby d1_37) k) ?_
      refine own_by (T' := T3) (g' := (mkF m 41 #[vR sa, vI 4] [])) (fun t k => XS.icmpNo X3.here hx rfl (hb hby d1_38) rfl (flt (by decide)).1 k) ?_
      refine own_by (T' := T3) (g' := (mkF m 42 #[vR sa, vI 4] [(.ref sa)])) (fun t k => XS.aloadN X3.here hx rfl (hb hby d1_41) rfl rfl k) ?_
      refine own_by (T' := T3) (g' := (mkF m 43 #[vR sa, vI 4] [(.int 4), (.ref sa)])) (fun t k => XS.iloadN X3.here hx rfl (hb hby d1_42) rfl k) ?_
      refine own_by (T' := T3) (g' := (mkF m 44 #[vR sa, vI 4] [(.int 1), (.int 4), (.ref sa)])) (fun t k => XS.iconst X3.here hx rfl (hb hby d1_43) k) ?_
      refine own_by (T' := T3) (g' := (mkF m 45 #[vR sa, vI 4] [(.int 3), (.ref sa)])) (fun t k => XS.isub X3.here hx rfl (hb hby d1_44) rfl k) ?_
      refine own_by (T' := T3) (g' := (mkF m 46 #[vR sa, vI 4] [(.int 2), (.int 3), (.ref sa)])) (fun t k => XS.iconst X3.here hx rfl (hb hby d1_45) k) ?_
      obtain ⟨_, _, ⟨T5, L5, k5, n5⟩, -, X5, ⟨Lc5, hQ5, l5, y5, z5⟩, st5⟩ := Jvm.LawKit.callS X3 hx (y := (⟨"com/example/emu/emu/TableFormFromPrefixPinLaw", "match", "([III)Z"⟩ : MethodName)) hown (mvT hZ (hw _ (own_m 5 rfl))) (mvT hZ (hw _ (own_m 6 rfl))) (mvT hZ (hw _ (own_m 3 rfl))) (mvT hZ (hw _ (own_m 7 rfl))) (by decide) (backOf (W := 0) (rm2_3_2 l Z a0 hw [] sa ks c0 c1 c2 c3 c4 h0 n0 Zle V_sa) hZ (hw _ (own_m 7 rfl)) (hw _ (own_m 3 rfl)) (by decide) (by decide)) (g := (mkF m 46 #[vR sa, vI 4] [(.int 2), (.int 3), (.ref sa)])) rfl (by rw [hml]; rfl) (argsL := [(.ref sa), (.int 3), (.int 2)]) (rest := []) (lenOf pd_1 rfl) rfl (own_le rfl) (hb hby d1_46) (fun _ _ => ⟨rfl, e3, (by decide : 0 + 0 ≤ _), (by decide : 0 + 0 ≤ _)⟩)
      dsimp only [Pt.U, Pt.locs, Pt.cells, Pt.slots] at X5 l5 y5 z5 st5 hQ5
      subst l5 y5 z5
      obtain ⟨rfl, Nq5, e5⟩ := hQ5
      replace N_ := Fr.app N_ Nq5
      clear Nq5
      refine own_by (T' := T5) (g' := (mkF m 49 #[vR sa, vI 4] [(.int (own_eq3_2 c0 c1 c2 c3 c4))])) (fun t k => st5 _ k) ?_
      clear st5 X3 e3
      by_cases hc49_6 : (own_eq3_2 c0 c1 c2 c3 c4) = (0 : Int32)
      · refine own_by (T' := T5) (g' := (mkF m 54 #[vR sa, vI 4] [])) (fun t k => XS.ifYes X5.here hx rfl (pc0 := 49) (pc' := 54) rfl (hb hby d1_49) rfl ((if0 _ _).trans (teq hc49_6).1) (by decide) (by decide) k) ?_
        refine own_by (T' := T5) (g' := (mkF m 55 #[vR sa, vI 4] [(.int 4)])) (fun t k => XS.iloadN X5.here hx rfl (hb hby d1_54) rfl k) ?_
        refine own_by (T' := T5) (g' := (mkF m 56 #[vR sa, vI 4] [(.int 1), (.int 4)])) (fun t k => XS.iconst X5.here hx rfl (hb hby d1_55) k) ?_
        refine own_by (T' := T5) (g' := (mkF m 59 #[vR sa, vI 4] [])) (fun t k => XS.icmpNo X5.here hx rfl (hb hby d1_56) rfl (flt (by decide)).1 k) ?_
        refine own_by (T' := T5) (g' := (mkF m 60 #[vR sa, vI 4] [(.ref sa)])) (fun t k => XS.aloadN X5.here hx rfl (hb hby d1_59) rfl rfl k) ?_
        refine own_by (T' := T5) (g' := (mkF m 61 #[vR sa, vI 4] [(.int 4), (.ref sa)])) (fun t k => XS.iloadN X5.here hx rfl (hb hby d1_60) rfl k) ?_
        refine own_by (T' := T5) (g' := (mkF m 62 #[vR sa, vI 4] [(.int 1), (.int 4), (.ref sa)])) (fun t k => XS.iconst X5.here hx rfl (hb hby d1_61) k) ?_
        obtain ⟨_, _, ⟨T7, L7, k7, n7⟩, -, X7, ⟨Lc7, hQ7, l7, y7, z7⟩, st7⟩ := Jvm.LawKit.callS X5 hx (y := (⟨"com/example/emu/emu/TableFormFromPrefixPinLaw", "match", "([III)Z"⟩ : MethodName)) hown (mvT hZ (hw _ (own_m 5 rfl))) (mvT hZ (hw _ (own_m 6 rfl))) (mvT hZ (hw _ (own_m 3 rfl))) (mvT hZ (hw _ (own_m 7 rfl))) (by decide) (backOf (W := 0) (rm2_4_1 l Z a0 hw [] sa ks c0 c1 c2 c3 c4 h0 n0 Zle V_sa) hZ (hw _ (own_m 7 rfl)) (hw _ (own_m 3 rfl)) (by decide) (by decide)) (g := (mkF m 62 #[vR sa, vI 4] [(.int 1), (.int 4), (.ref sa)])) rfl (by rw [hml]; rfl) (argsL := [(.ref sa), (.int 4), (.int 1)]) (rest := []) (lenOf pd_1 rfl) rfl (own_le rfl) (hb hby d1_62) (fun _ _ => ⟨rfl, e5, (by decide : 0 + 0 ≤ _), (by decide : 0 + 0 ≤ _)⟩)
        dsimp only [Pt.U, Pt.locs, Pt.cells, Pt.slots] at X7 l7 y7 z7 st7 hQ7
        subst l7 y7 z7
        obtain ⟨rfl, Nq7, e7⟩ := hQ7
        replace N_ := Fr.app N_ Nq7
        clear Nq7
        refine own_by (T' := T7) (g' := (mkF m 65 #[vR sa, vI 4] [(.int (own_eq4_1 c0 c1 c2 c3 c4))])) (fun t k => st7 _ k) ?_
        clear st7 X5 e5
        by_cases hc65_8 : (own_eq4_1 c0 c1 c2 c3 c4) = (0 : Int32)
        · refine own_by (T' := T7) (g' := (mkF m 70 #[vR sa, vI 4] [])) (fun t k => XS.ifYes X7.here hx rfl (pc0 := 65) (pc' := 70) rfl (hb hby d1_65) rfl ((if0 _ _).trans (teq hc65_8).1) (by decide) (by decide) k) ?_
          refine own_by (T' := T7) (g' := (mkF m 71 #[vR sa, vI 4] [(.int 0)])) (fun t k => XS.iconst X7.here hx rfl (hb hby d1_70) k) ?_
          exact own_retI X7 hx Bd.notSynchronized Bd.returns (hb hby d1_71) (by decide) (by decide) (by rw [e7]; exact ⟨by unfold own_bd4; rw [if_pos hc13_2, if_pos hc31_4, if_pos hc49_6, if_pos hc65_8], N_, rfl⟩)
        · refine own_by (T' := T7) (g' := (mkF m 68 #[vR sa, vI 4] [])) (fun t k => XS.ifNo X7.here hx rfl (hb hby d1_65) rfl ((if0 _ _).trans (feq hc65_8).1) k) ?_
          refine own_by (T' := T7) (g' := (mkF m 69 #[vR sa, vI 4] [(.int 1)])) (fun t k => XS.iconst X7.here hx rfl (hb hby d1_68) k) ?_
          exact own_retI X7 hx Bd.notSynchronized Bd.returns (hb hby d1_69) (by decide) (by decide) (by rw [e7]; exact ⟨by unfold own_bd4; rw [if_pos hc13_2, if_pos hc31_4, if_pos hc49_6, if_neg hc65_8], N_, rfl⟩)
      · refine own_by (T' := T5) (g' := (mkF m 52 #[vR sa, vI 4] [])) (fun t k => XS.ifNo X5.here hx rfl (hb hby d1_49) rfl ((if0 _ _).trans (feq hc49_6).1) k) ?_
        refine own_by (T' := T5) (g' := (mkF m 53 #[vR sa, vI 4] [(.int 2)])) (fun t k => XS.iconst X5.here hx rfl (hb hby d1_52) k) ?_
        exact own_retI X5 hx Bd.notSynchronized Bd.returns (hb hby d1_53) (by decide) (by decide) (by rw [e5]; exact ⟨by unfold own_bd4; rw [if_pos hc13_2, if_pos hc31_4, if_neg hc49_6], N_, rfl⟩)
    · refine own_by (T' := T3) (g' := (mkF m 34 #[vR sa, vI 4] [])) (fun t k => XS.ifNo X3.here hx rfl (hb hby d1_31) rfl ((if0 _ _).trans (feq hc31_4).1) k) ?_
      refine own_by (T' := T3) (g' := (mkF m 35 #[vR sa, vI 4] [(.int 3)])) (fun t k => XS.iconst X3.here hx rfl (hb hby d1_34) k) ?_
      exact own_retI X3 hx Bd.notSynchronized Bd.returns (hb hby d1_35) (by decide) (by decide) (by rw [e3]; exact ⟨by unfold own_bd4; rw [if_pos hc13_2, if_neg hc31_4], N_, rfl⟩)
  · refine own_by (T' := T1) (g' := (mkF m 16 #[vR sa, vI 4] [])) (fun t k => XS.ifNo X1.here hx rfl (hb hby d1_13) rfl ((if0 _ _).trans (feq hc13_2).1) k) ?_
    refine own_by (T' := T1) (g' := (mkF m 17 #[vR sa, vI 4] [(.int 4)])) (fun t k => XS.iconst X1.here hx rfl (hb hby d1_16) k) ?_
    exact own_retI X1 hx Bd.notSynchronized Bd.returns (hb hby d1_17) (by decide) (by decide) (by rw [e1]; exact ⟨by unfold own_bd4; rw [if_neg hc13_2], N_, rfl⟩)

def Q3_1 (Z : State) (sa : Addr) (na : Addr) (xa : Addr) (ks : ClassId) (c0 : Int32) (c1 : Int32) (c2 : Int32) (c3 : Int32) (c4 : Int32) (kn : ClassId) (kx : ClassId) (u0 : Int32) (u1 : Int32) (u2 : Int32) (u3 : Int32) (u4 : Int32) (y0 : Int32) (y1 : Int32) (y2 : Int32) (y3 : Int32) (y4 : Int32) (h0 : Heap) (n0 : Nat) (v : Option Value) (h : Heap) (L : List Loc) : Prop := v = some (.int (own_nvs c1 y1 c0 c1 c2 c3 c4 u0 u1 u2 u3 u4)) ∧ Fr n0 L ∧ h = h0
theorem ef_3_1 (m : MethodId) (sa : Addr) (na : Addr) (xa : Addr) : entryFrame m #[(.ref sa), (.ref na), (.ref xa), (.int 1)] 5 = mkF m 0 #[vR sa, vR na, vR xa, vI 1, .unset] [] := by first | (simp [entryFrame, mkF, argsToLocals, Value.category]; done) | rfl
theorem d3_0 : decode method_5_code 0 = .ok (.aload_n 2, 1) := by decide +kernel
theorem d3_1 : decode method_5_code 1 = .ok (.iload_n 3, 1) := by decide +kernel
theorem d3_2 : decode method_5_code 2 = .ok (.iaload, 1) := by decide +kernel
theorem d3_3 : decode method_5_code 3 = .ok (.istore 4, 2) := by decide +kernel
theorem d3_5 : decode method_5_code 5 = .ok (.aload_n 0, 1) := by decide +kernel
theorem d3_6 : decode method_5_code 6 = .ok (.iload_n 3, 1) := by decide +kernel
theorem d3_7 : decode method_5_code 7 = .ok (.iaload, 1) := by decide +kernel
theorem d3_8 : decode method_5_code 8 = .ok (.aload_n 0, 1) := by decide +kernel
theorem d3_9 : decode method_5_code 9 = .ok (.iload 4, 2) := by decide +kernel
theorem d3_11 : decode method_5_code 11 = .ok (.iaload, 1) := by decide +kernel
theorem d3_12 : decode method_5_code 12 = .ok (.if_icmp .ne 8, 3) := by decide +kernel
theorem d3_15 : decode method_5_code 15 = .ok (.aload_n 1, 1) := by decide +kernel
theorem d3_16 : decode method_5_code 16 = .ok (.iload 4, 2) := by decide +kernel
theorem d3_18 : decode method_5_code 18 = .ok (.iaload, 1) := by decide +kernel
theorem d3_19 : decode method_5_code 19 = .ok (.ireturn, 1) := by decide +kernel
theorem d3_20 : decode method_5_code 20 = .ok (.iload 4, 2) := by decide +kernel
theorem d3_22 : decode method_5_code 22 = .ok (.ireturn, 1) := by decide +kernel
set_option maxRecDepth 65536 in
set_option maxHeartbeats 40000000 in
theorem rm3_1 (l : Launch) (Z : State) (a0 : Array Value) (hw : ∀ d ∈ tables_1, d.before a0 Z = true) (ws : List Jvm.Cond) (sa : Addr) (na : Addr) (xa : Addr) (ks : ClassId) (c0 : Int32) (c1 : Int32) (c2 : Int32) (c3 : Int32) (c4 : Int32) (kn : ClassId) (kx : ClassId) (u0 : Int32) (u1 : Int32) (u2 : Int32) (u3 : Int32) (u4 : Int32) (y0 : Int32) (y1 : Int32) (y2 : Int32) (y3 : Int32) (y4 : Int32) (h0 : Heap) (n0 : Nat) (Zle : n0 ≤ h0.size) (V_sa : Arv Z h0 sa ks .int (5 : Int32) [(.int c0), (.int c1), (.int c2), (.int c3), (.int c4)] (.int 0)) (V_na : Arv Z h0 na kn .int (5 : Int32) [(.int u0), (.int u1), (.int u2), (.int u3), (.int u4)] (.int 0)) (V_xa : Arv Z h0 xa kx .int (5 : Int32) [(.int y0), (.int y1), (.int y2), (.int y3), (.int y4)] (.int 0)) (hk : y1 = 0) :
    MetFree l (⟨"com/example/emu/emu/TableFormFromPrefixPinLaw", "nextval", "([I[I[II)I"⟩ : MethodName) (head1 (Jvm.Cond.code (⟨"com/example/emu/emu/TableFormFromPrefixPinLaw", "nextval", "([I[I[II)I"⟩ : MethodName) method_5_code 5 (some .int) :: ws) ({ frames := 0, cells := 0, slots := 0, locals := 0 } : Room)) (fun a U => a = #[(.ref sa), (.ref na), (.ref xa), (.int 1)] ∧ Z.Warmed39 U.vm ∧ U.heap = h0) (fun _ _ _ _ _ => True) (fun _ U o U' => ∃ v L, o = .returned v ∧ Q3_1 Z sa na xa ks c0 c1 c2 c3 c4 kn kx u0 u1 u2 u3 u4 y0 y1 y2 y3 y4 h0 n0 v U'.heap L ∧ FrameEnd U o U' L ({ frames := 0, cells := 0, slots := 0, locals := 0 } : Room).cells ({ frames := 0, cells := 0, slots := 0, locals := 0 } : Room).slots) := by
  refine MetFree.of_bodySF (plainFor_of_name pn_com_example_emu_emu_TableFormFromPrefixPinLaw) hisR ?_
  intro p e s m args below meth c s₁ Bd hml0 hP hK
  obtain ⟨rfl, hZ, hh⟩ := hP
  have hx := Bd.exec
  have hby := Bd.bytes
  have hml : c.maxLocals = 5 := hml0
  have hown : s.vm.findClass "com/example/emu/emu/TableFormFromPrefixPinLaw" = some m.cls := findClass_of_methodNamed Bd.named
  have hnm := (name_of_methodNamed Bd.named Bd.method).1
  have X0 : Stand p l e ({ frames := 0, cells := 0, slots := 0, locals := 0 } : Room) s m #[(.ref sa), (.ref na), (.ref xa), (.int 1)] below meth c s₁ [] 0 0 := Stand.of_body Bd
  have e0 : s₁.heap = h0 := by rw [← hh, Bd.state]; rfl
  have N_ := Fr.nil n0
  show own_Goes p.tables e below s (Q3_1 Z sa na xa ks c0 c1 c2 c3 c4 kn kx u0 u1 u2 u3 u4 y0 y1 y2 y3 y4 h0 n0) ({ frames := 0, cells := 0, slots := 0, locals := 0 } : Room).cells ({ frames := 0, cells := 0, slots := 0, locals := 0 } : Room).slots s₁ (entryFrame m #[(.ref sa), (.ref na), (.ref xa), (.int 1)] 5)
  refine own_by (T' := s₁) (g' := (mkF m 0 #[vR sa, vR na, vR xa, vI 1, .unset] [])) (fun t k => castTop (ef_3_1 m sa na xa) k) ?_
  refine own_by (T' := s₁) (g' := (mkF m 1 #[vR sa, vR na, vR xa, vI 1, .unset] [(.ref xa)])) (fun t k => XS.aloadN X0.here hx rfl (hb hby d3_0) rfl rfl k) ?_
  refine own_by (T' := s₁) (g' := (mkF m 2 #[vR sa, vR na, vR xa, vI 1, .unset] [(.int 1), (.ref xa)])) (fun t k => XS.iloadN X0.here hx rfl (hb hby d3_1) rfl k) ?_
  obtain ⟨cl1, Ar1, q1, S1, N1, Hs1, G1⟩ := id V_xa
  have hin1 : ¬ ((1 : Int32) < 0 ∨ cl1.slots.size ≤ ((1 : Int32)).toNatClampNeg) := inb_of S1 ⟨by decide, by decide⟩
  have hat1 : cl1.slots[((1 : Int32)).toNatClampNeg]? = some (.int y1) := Hs1.at hin1 rfl
  refine own_by (T' := s₁) (g' := (mkF m 3 #[vR sa, vR na, vR xa, vI 1, .unset] [(.int y1)])) (fun t k => X0.iaload hx (j := (1 : Int32)) (v := (.int y1)) (by rw [e0]; exact Ar1.1) (State.isArrayOf_alike hZ.alike Ar1.2.1) Ar1.2.2 hin1 hat1 (g := (mkF m 2 #[vR sa, vR na, vR xa, vI 1, .unset] [(.int 1), (.ref xa)])) rfl rfl (hb hby d3_2) _ k) ?_
  clear hat1 hin1 G1 Hs1 N1 S1 q1 Ar1 cl1
  refine own_by (T' := s₁) (g' := (mkF m 5 #[vR sa, vR na, vR xa, vI 1, vI y1] [])) (fun t k => XS.istore X0.here hx rfl (hb hby d3_3) rfl (l' := #[vR sa, vR na, vR xa, vI 1, vI y1]) rfl k) ?_
  rcases hk with rfl
  · refine own_by (T' := s₁) (g' := (mkF m 6 #[vR sa, vR na, vR xa, vI 1, vI 0] [(.ref sa)])) (fun t k => XS.aloadN X0.here hx rfl (hb hby d3_5) rfl rfl k) ?_
    refine own_by (T' := s₁) (g' := (mkF m 7 #[vR sa, vR na, vR xa, vI 1, vI 0] [(.int 1), (.ref sa)])) (fun t k => XS.iloadN X0.here hx rfl (hb hby d3_6) rfl k) ?_
    obtain ⟨cl2, Ar2, q2, S2, N2, Hs2, G2⟩ := id V_sa
    have hin2 : ¬ ((1 : Int32) < 0 ∨ cl2.slots.size ≤ ((1 : Int32)).toNatClampNeg) := inb_of S2 ⟨by decide, by decide⟩
    have hat2 : cl2.slots[((1 : Int32)).toNatClampNeg]? = some (.int c1) := Hs2.at hin2 rfl
    refine own_by (T' := s₁) (g' := (mkF m 8 #[vR sa, vR na, vR xa, vI 1, vI 0] [(.int c1)])) (fun t k => X0.iaload hx (j := (1 : Int32)) (v := (.int c1)) (by rw [e0]; exact Ar2.1) (State.isArrayOf_alike hZ.alike Ar2.2.1) Ar2.2.2 hin2 hat2 (g := (mkF m 7 #[vR sa, vR na, vR xa, vI 1, vI 0] [(.int 1), (.ref sa)])) rfl rfl (hb hby d3_7) _ k) ?_
    clear hat2 hin2 G2 Hs2 N2 S2 q2 Ar2 cl2
    refine own_by (T' := s₁) (g' := (mkF m 9 #[vR sa, vR na, vR xa, vI 1, vI 0] [(.ref sa), (.int c1)])) (fun t k => XS.aloadN X0.here hx rfl (hb hby d3_8) rfl rfl k) ?_
    refine own_by (T' := s₁) (g' := (mkF m 11 #[vR sa, vR na, vR xa, vI 1, vI 0] [(.int 0), (.ref sa), (.int c1)])) (fun t k => XS.iload X0.here hx rfl (hb hby d3_9) rfl k) ?_
    obtain ⟨cl3, Ar3, q3, S3, N3, Hs3, G3⟩ := id V_sa
    have hin3 : ¬ ((0 : Int32) < 0 ∨ cl3.slots.size ≤ ((0 : Int32)).toNatClampNeg) := inb_of S3 ⟨by decide, by decide⟩
    have hat3 : cl3.slots[((0 : Int32)).toNatClampNeg]? = some (.int c0) := Hs3.at hin3 rfl
    refine own_by (T' := s₁) (g' := (mkF m 12 #[vR sa, vR na, vR xa, vI 1, vI 0] [(.int c0), (.int c1)])) (fun t k => X0.iaload hx (j := (0 : Int32)) (v := (.int c0)) (by rw [e0]; exact Ar3.1) (State.isArrayOf_alike hZ.alike Ar3.2.1) Ar3.2.2 hin3 hat3 (g := (mkF m 11 #[vR sa, vR na, vR xa, vI 1, vI 0] [(.int 0), (.ref sa), (.int c1)])) rfl rfl (hb hby d3_11) _ k) ?_
    clear hat3 hin3 G3 Hs3 N3 S3 q3 Ar3 cl3
    by_cases hc12_4 : c1 = c0
    · refine own_by (T' := s₁) (g' := (mkF m 15 #[vR sa, vR na, vR xa, vI 1, vI 0] [])) (fun t k => XS.icmpNo X0.here hx rfl (hb hby d3_12) rfl (teq hc12_4).2 k) ?_
      refine own_by (T' := s₁) (g' := (mkF m 16 #[vR sa, vR na, vR xa, vI 1, vI 0] [(.ref na)])) (fun t k => XS.aloadN X0.here hx rfl (hb hby d3_15) rfl rfl k) ?_
      refine own_by (T' := s₁) (g' := (mkF m 18 #[vR sa, vR na, vR xa, vI 1, vI 0] [(.int 0), (.ref na)])) (fun t k => XS.iload X0.here hx rfl (hb hby d3_16) rfl k) ?_
      obtain ⟨cl5, Ar5, q5, S5, N5, Hs5, G5⟩ := id V_na
      have hin5 : ¬ ((0 : Int32) < 0 ∨ cl5.slots.size ≤ ((0 : Int32)).toNatClampNeg) := inb_of S5 ⟨by decide, by decide⟩
      have hat5 : cl5.slots[((0 : Int32)).toNatClampNeg]? = some (.int u0) := Hs5.at hin5 rfl
      refine own_by (T' := s₁) (g' := (mkF m 19 #[vR sa, vR na, vR xa, vI 1, vI 0] [(.int u0)])) (fun t k => X0.iaload hx (j := (0 : Int32)) (v := (.int u0)) (by rw [e0]; exact Ar5.1) (State.isArrayOf_alike hZ.alike Ar5.2.1) Ar5.2.2 hin5 hat5 (g := (mkF m 18 #[vR sa, vR na, vR xa, vI 1, vI 0] [(.int 0), (.ref na)])) rfl rfl (hb hby d3_18) _ k) ?_
      clear hat5 hin5 G5 Hs5 N5 S5 q5 Ar5 cl5
      exact own_retI X0 hx Bd.notSynchronized Bd.returns (hb hby d3_19) (by decide) (by decide) (by rw [e0]; exact ⟨by rw [own_nvs, if_pos (show c1 = own_ix (0 : Int32) c0 c1 c2 c3 c4 from hc12_4)] <;> rfl, N_, rfl⟩)
    · refine own_by (T' := s₁) (g' := (mkF m 20 #[vR sa, vR na, vR xa, vI 1, vI 0] [])) (fun t k => XS.icmpYes X0.here hx rfl (pc0 := 12) (pc' := 20) rfl (hb hby d3_12) rfl (feq hc12_4).2 (by decide) (by decide) k) ?_
      refine own_by (T' := s₁) (g' := (mkF m 22 #[vR sa, vR na, vR xa, vI 1, vI 0] [(.int 0)])) (fun t k => XS.iload X0.here hx rfl (hb hby d3_20) rfl k) ?_
      exact own_retI X0 hx Bd.notSynchronized Bd.returns (hb hby d3_22) (by decide) (by decide) (by rw [e0]; exact ⟨by rw [own_nvs, if_neg (show ¬ (c1 = own_ix (0 : Int32) c0 c1 c2 c3 c4) from hc12_4)] <;> rfl, N_, rfl⟩)

def Q3_2 (Z : State) (sa : Addr) (na : Addr) (xa : Addr) (ks : ClassId) (c0 : Int32) (c1 : Int32) (c2 : Int32) (c3 : Int32) (c4 : Int32) (kn : ClassId) (kx : ClassId) (u0 : Int32) (u1 : Int32) (u2 : Int32) (u3 : Int32) (u4 : Int32) (y0 : Int32) (y1 : Int32) (y2 : Int32) (y3 : Int32) (y4 : Int32) (h0 : Heap) (n0 : Nat) (v : Option Value) (h : Heap) (L : List Loc) : Prop := v = some (.int (own_nvs c2 y2 c0 c1 c2 c3 c4 u0 u1 u2 u3 u4)) ∧ Fr n0 L ∧ h = h0
theorem ef_3_2 (m : MethodId) (sa : Addr) (na : Addr) (xa : Addr) : entryFrame m #[(.ref sa), (.ref na), (.ref xa), (.int 2)] 5 = mkF m 0 #[vR sa, vR na, vR xa, vI 2, .unset] [] := by first | (simp [entryFrame, mkF, argsToLocals, Value.category]; done) | rfl
set_option maxRecDepth 65536 in
set_option maxHeartbeats 40000000 in
theorem rm3_2 (l : Launch) (Z : State) (a0 : Array Value) (hw : ∀ d ∈ tables_1, d.before a0 Z = true) (ws : List Jvm.Cond) (sa : Addr) (na : Addr) (xa : Addr) (ks : ClassId) (c0 : Int32) (c1 : Int32) (c2 : Int32) (c3 : Int32) (c4 : Int32) (kn : ClassId) (kx : ClassId) (u0 : Int32) (u1 : Int32) (u2 : Int32) (u3 : Int32) (u4 : Int32) (y0 : Int32) (y1 : Int32) (y2 : Int32) (y3 : Int32) (y4 : Int32) (h0 : Heap) (n0 : Nat) (Zle : n0 ≤ h0.size) (V_sa : Arv Z h0 sa ks .int (5 : Int32) [(.int c0), (.int c1), (.int c2), (.int c3), (.int c4)] (.int 0)) (V_na : Arv Z h0 na kn .int (5 : Int32) [(.int u0), (.int u1), (.int u2), (.int u3), (.int u4)] (.int 0)) (V_xa : Arv Z h0 xa kx .int (5 : Int32) [(.int y0), (.int y1), (.int y2), (.int y3), (.int y4)] (.int 0)) (hk : y2 = 0 ∨ y2 = 1) :
    MetFree l (⟨"com/example/emu/emu/TableFormFromPrefixPinLaw", "nextval", "([I[I[II)I"⟩ : MethodName) (head1 (Jvm.Cond.code (⟨"com/example/emu/emu/TableFormFromPrefixPinLaw", "nextval", "([I[I[II)I"⟩ : MethodName) method_5_code 5 (some .int) :: ws) ({ frames := 0, cells := 0, slots := 0, locals := 0 } : Room)) (fun a U => a = #[(.ref sa), (.ref na), (.ref xa), (.int 2)] ∧ Z.Warmed39 U.vm ∧ U.heap = h0) (fun _ _ _ _ _ => True) (fun _ U o U' => ∃ v L, o = .returned v ∧ Q3_2 Z sa na xa ks c0 c1 c2 c3 c4 kn kx u0 u1 u2 u3 u4 y0 y1 y2 y3 y4 h0 n0 v U'.heap L ∧ FrameEnd U o U' L ({ frames := 0, cells := 0, slots := 0, locals := 0 } : Room).cells ({ frames := 0, cells := 0, slots := 0, locals := 0 } : Room).slots) := by
  refine MetFree.of_bodySF (plainFor_of_name pn_com_example_emu_emu_TableFormFromPrefixPinLaw) hisR ?_
  intro p e s m args below meth c s₁ Bd hml0 hP hK
  obtain ⟨rfl, hZ, hh⟩ := hP
  have hx := Bd.exec
  have hby := Bd.bytes
  have hml : c.maxLocals = 5 := hml0
  have hown : s.vm.findClass "com/example/emu/emu/TableFormFromPrefixPinLaw" = some m.cls := findClass_of_methodNamed Bd.named
  have hnm := (name_of_methodNamed Bd.named Bd.method).1
  have X0 : Stand p l e ({ frames := 0, cells := 0, slots := 0, locals := 0 } : Room) s m #[(.ref sa), (.ref na), (.ref xa), (.int 2)] below meth c s₁ [] 0 0 := Stand.of_body Bd
  have e0 : s₁.heap = h0 := by rw [← hh, Bd.state]; rfl
  have N_ := Fr.nil n0
  show own_Goes p.tables e below s (Q3_2 Z sa na xa ks c0 c1 c2 c3 c4 kn kx u0 u1 u2 u3 u4 y0 y1 y2 y3 y4 h0 n0) ({ frames := 0, cells := 0, slots := 0, locals := 0 } : Room).cells ({ frames := 0, cells := 0, slots := 0, locals := 0 } : Room).slots s₁ (entryFrame m #[(.ref sa), (.ref na), (.ref xa), (.int 2)] 5)
  refine own_by (T' := s₁) (g' := (mkF m 0 #[vR sa, vR na, vR xa, vI 2, .unset] [])) (fun t k => castTop (ef_3_2 m sa na xa) k) ?_
  refine own_by (T' := s₁) (g' := (mkF m 1 #[vR sa, vR na, vR xa, vI 2, .unset] [(.ref xa)])) (fun t k => XS.aloadN X0.here hx rfl (hb hby d3_0) rfl rfl k) ?_
  refine own_by (T' := s₁) (g' := (mkF m 2 #[vR sa, vR na, vR xa, vI 2, .unset] [(.int 2), (.ref xa)])) (fun t k => XS.iloadN X0.here hx rfl (hb hby d3_1) rfl k) ?_
  obtain ⟨cl1, Ar1, q1, S1, N1, Hs1, G1⟩ := id V_xa
  have hin1 : ¬ ((2 : Int32) < 0 ∨ cl1.slots.size ≤ ((2 : Int32)).toNatClampNeg) := inb_of S1 ⟨by decide, by decide⟩
  have hat1 : cl1.slots[((2 : Int32)).toNatClampNeg]? = some (.int y2) := Hs1.at hin1 rfl
  refine own_by (T' := s₁) (g' := (mkF m 3 #[vR sa, vR na, vR xa, vI 2, .unset] [(.int y2)])) (fun t k => X0.iaload hx (j := (2 : Int32)) (v := (.int y2)) (by rw [e0]; exact Ar1.1) (State.isArrayOf_alike hZ.alike Ar1.2.1) Ar1.2.2 hin1 hat1 (g := (mkF m 2 #[vR sa, vR na, vR xa, vI 2, .unset] [(.int 2), (.ref xa)])) rfl rfl (hb hby d3_2) _ k) ?_
  clear hat1 hin1 G1 Hs1 N1 S1 q1 Ar1 cl1
  refine own_by (T' := s₁) (g' := (mkF m 5 #[vR sa, vR na, vR xa, vI 2, vI y2] [])) (fun t k => XS.istore X0.here hx rfl (hb hby d3_3) rfl (l' := #[vR sa, vR na, vR xa, vI 2, vI y2]) rfl k) ?_
  rcases hk with rfl | rfl
  · refine own_by (T' := s₁) (g' := (mkF m 6 #[vR sa, vR na, vR xa, vI 2, vI 0] [(.ref sa)])) (fun t k => XS.aloadN X0.here hx rfl (hb hby d3_5) rfl rfl k) ?_
    refine own_by (T' := s₁) (g' := (mkF m 7 #[vR sa, vR na, vR xa, vI 2, vI 0] [(.int 2), (.ref sa)])) (fun t k => XS.iloadN X0.here hx rfl (hb hby d3_6) rfl k) ?_
    obtain ⟨cl2, Ar2, q2, S2, N2, Hs2, G2⟩ := id V_sa
    have hin2 : ¬ ((2 : Int32) < 0 ∨ cl2.slots.size ≤ ((2 : Int32)).toNatClampNeg) := inb_of S2 ⟨by decide, by decide⟩
    have hat2 : cl2.slots[((2 : Int32)).toNatClampNeg]? = some (.int c2) := Hs2.at hin2 rfl
    refine own_by (T' := s₁) (g' := (mkF m 8 #[vR sa, vR na, vR xa, vI 2, vI 0] [(.int c2)])) (fun t k => X0.iaload hx (j := (2 : Int32)) (v := (.int c2)) (by rw [e0]; exact Ar2.1) (State.isArrayOf_alike hZ.alike Ar2.2.1) Ar2.2.2 hin2 hat2 (g := (mkF m 7 #[vR sa, vR na, vR xa, vI 2, vI 0] [(.int 2), (.ref sa)])) rfl rfl (hb hby d3_7) _ k) ?_
    clear hat2 hin2 G2 Hs2 N2 S2 q2 Ar2 cl2
    refine own_by (T' := s₁) (g' := (mkF m 9 #[vR sa, vR na, vR xa, vI 2, vI 0] [(.ref sa), (.int c2)])) (fun t k => XS.aloadN X0.here hx rfl (hb hby d3_8) rfl rfl k) ?_
    refine own_by (T' := s₁) (g' := (mkF m 11 #[vR sa, vR na, vR xa, vI 2, vI 0] [(.int 0), (.ref sa), (.int c2)])) (fun t k => XS.iload X0.here hx rfl (hb hby d3_9) rfl k) ?_
    obtain ⟨cl3, Ar3, q3, S3, N3, Hs3, G3⟩ := id V_sa
    have hin3 : ¬ ((0 : Int32) < 0 ∨ cl3.slots.size ≤ ((0 : Int32)).toNatClampNeg) := inb_of S3 ⟨by decide, by decide⟩
    have hat3 : cl3.slots[((0 : Int32)).toNatClampNeg]? = some (.int c0) := Hs3.at hin3 rfl
    refine own_by (T' := s₁) (g' := (mkF m 12 #[vR sa, vR na, vR xa, vI 2, vI 0] [(.int c0), (.int c2)])) (fun t k => X0.iaload hx (j := (0 : Int32)) (v := (.int c0)) (by rw [e0]; exact Ar3.1) (State.isArrayOf_alike hZ.alike Ar3.2.1) Ar3.2.2 hin3 hat3 (g := (mkF m 11 #[vR sa, vR na, vR xa, vI 2, vI 0] [(.int 0), (.ref sa), (.int c2)])) rfl rfl (hb hby d3_11) _ k) ?_
    clear hat3 hin3 G3 Hs3 N3 S3 q3 Ar3 cl3
    by_cases hc12_4 : c2 = c0
    · refine own_by (T' := s₁) (g' := (mkF m 15 #[vR sa, vR na, vR xa, vI 2, vI 0] [])) (fun t k => XS.icmpNo X0.here hx rfl (hb hby d3_12) rfl (teq hc12_4).2 k) ?_
      refine own_by (T' := s₁) (g' := (mkF m 16 #[vR sa, vR na, vR xa, vI 2, vI 0] [(.ref na)])) (fun t k => XS.aloadN X0.here hx rfl (hb hby d3_15) rfl rfl k) ?_
      refine own_by (T' := s₁) (g' := (mkF m 18 #[vR sa, vR na, vR xa, vI 2, vI 0] [(.int 0), (.ref na)])) (fun t k => XS.iload X0.here hx rfl (hb hby d3_16) rfl k) ?_
      obtain ⟨cl5, Ar5, q5, S5, N5, Hs5, G5⟩ := id V_na
      have hin5 : ¬ ((0 : Int32) < 0 ∨ cl5.slots.size ≤ ((0 : Int32)).toNatClampNeg) := inb_of S5 ⟨by decide, by decide⟩
      have hat5 : cl5.slots[((0 : Int32)).toNatClampNeg]? = some (.int u0) := Hs5.at hin5 rfl
      refine own_by (T' := s₁) (g' := (mkF m 19 #[vR sa, vR na, vR xa, vI 2, vI 0] [(.int u0)])) (fun t k => X0.iaload hx (j := (0 : Int32)) (v := (.int u0)) (by rw [e0]; exact Ar5.1) (State.isArrayOf_alike hZ.alike Ar5.2.1) Ar5.2.2 hin5 hat5 (g := (mkF m 18 #[vR sa, vR na, vR xa, vI 2, vI 0] [(.int 0), (.ref na)])) rfl rfl (hb hby d3_18) _ k) ?_
      clear hat5 hin5 G5 Hs5 N5 S5 q5 Ar5 cl5
      exact own_retI X0 hx Bd.notSynchronized Bd.returns (hb hby d3_19) (by decide) (by decide) (by rw [e0]; exact ⟨by rw [own_nvs, if_pos (show c2 = own_ix (0 : Int32) c0 c1 c2 c3 c4 from hc12_4)] <;> rfl, N_, rfl⟩)
    · refine own_by (T' := s₁) (g' := (mkF m 20 #[vR sa, vR na, vR xa, vI 2, vI 0] [])) (fun t k => XS.icmpYes X0.here hx rfl (pc0 := 12) (pc' := 20) rfl (hb hby d3_12) rfl (feq hc12_4).2 (by decide) (by decide) k) ?_
      refine own_by (T' := s₁) (g' := (mkF m 22 #[vR sa, vR na, vR xa, vI 2, vI 0] [(.int 0)])) (fun t k => XS.iload X0.here hx rfl (hb hby d3_20) rfl k) ?_
      exact own_retI X0 hx Bd.notSynchronized Bd.returns (hb hby d3_22) (by decide) (by decide) (by rw [e0]; exact ⟨by rw [own_nvs, if_neg (show ¬ (c2 = own_ix (0 : Int32) c0 c1 c2 c3 c4) from hc12_4)] <;> rfl, N_, rfl⟩)
  · refine own_by (T' := s₁) (g' := (mkF m 6 #[vR sa, vR na, vR xa, vI 2, vI 1] [(.ref sa)])) (fun t k => XS.aloadN X0.here hx rfl (hb hby d3_5) rfl rfl k) ?_
    refine own_by (T' := s₁) (g' := (mkF m 7 #[vR sa, vR na, vR xa, vI 2, vI 1] [(.int 2), (.ref sa)])) (fun t k => XS.iloadN X0.here hx rfl (hb hby d3_6) rfl k) ?_
    obtain ⟨cl6, Ar6, q6, S6, N6, Hs6, G6⟩ := id V_sa
    have hin6 : ¬ ((2 : Int32) < 0 ∨ cl6.slots.size ≤ ((2 : Int32)).toNatClampNeg) := inb_of S6 ⟨by decide, by decide⟩
    have hat6 : cl6.slots[((2 : Int32)).toNatClampNeg]? = some (.int c2) := Hs6.at hin6 rfl
    refine own_by (T' := s₁) (g' := (mkF m 8 #[vR sa, vR na, vR xa, vI 2, vI 1] [(.int c2)])) (fun t k => X0.iaload hx (j := (2 : Int32)) (v := (.int c2)) (by rw [e0]; exact Ar6.1) (State.isArrayOf_alike hZ.alike Ar6.2.1) Ar6.2.2 hin6 hat6 (g := (mkF m 7 #[vR sa, vR na, vR xa, vI 2, vI 1] [(.int 2), (.ref sa)])) rfl rfl (hb hby d3_7) _ k) ?_
    clear hat6 hin6 G6 Hs6 N6 S6 q6 Ar6 cl6
    refine own_by (T' := s₁) (g' := (mkF m 9 #[vR sa, vR na, vR xa, vI 2, vI 1] [(.ref sa), (.int c2)])) (fun t k => XS.aloadN X0.here hx rfl (hb hby d3_8) rfl rfl k) ?_
    refine own_by (T' := s₁) (g' := (mkF m 11 #[vR sa, vR na, vR xa, vI 2, vI 1] [(.int 1), (.ref sa), (.int c2)])) (fun t k => XS.iload X0.here hx rfl (hb hby d3_9) rfl k) ?_
    obtain ⟨cl7, Ar7, q7, S7, N7, Hs7, G7⟩ := id V_sa
    have hin7 : ¬ ((1 : Int32) < 0 ∨ cl7.slots.size ≤ ((1 : Int32)).toNatClampNeg) := inb_of S7 ⟨by decide, by decide⟩
    have hat7 : cl7.slots[((1 : Int32)).toNatClampNeg]? = some (.int c1) := Hs7.at hin7 rfl
    refine own_by (T' := s₁) (g' := (mkF m 12 #[vR sa, vR na, vR xa, vI 2, vI 1] [(.int c1), (.int c2)])) (fun t k => X0.iaload hx (j := (1 : Int32)) (v := (.int c1)) (by rw [e0]; exact Ar7.1) (State.isArrayOf_alike hZ.alike Ar7.2.1) Ar7.2.2 hin7 hat7 (g := (mkF m 11 #[vR sa, vR na, vR xa, vI 2, vI 1] [(.int 1), (.ref sa), (.int c2)])) rfl rfl (hb hby d3_11) _ k) ?_
    clear hat7 hin7 G7 Hs7 N7 S7 q7 Ar7 cl7
    by_cases hc12_8 : c2 = c1
    · refine own_by (T' := s₁) (g' := (mkF m 15 #[vR sa, vR na, vR xa, vI 2, vI 1] [])) (fun t k => XS.icmpNo X0.here hx rfl (hb hby d3_12) rfl (teq hc12_8).2 k) ?_
      refine own_by (T' := s₁) (g' := (mkF m 16 #[vR sa, vR na, vR xa, vI 2, vI 1] [(.ref na)])) (fun t k => XS.aloadN X0.here hx rfl (hb hby d3_15) rfl rfl k) ?_
      refine own_by (T' := s₁) (g' := (mkF m 18 #[vR sa, vR na, vR xa, vI 2, vI 1] [(.int 1), (.ref na)])) (fun t k => XS.iload X0.here hx rfl (hb hby d3_16) rfl k) ?_
      obtain ⟨cl9, Ar9, q9, S9, N9, Hs9, G9⟩ := id V_na
      have hin9 : ¬ ((1 : Int32) < 0 ∨ cl9.slots.size ≤ ((1 : Int32)).toNatClampNeg) := inb_of S9 ⟨by decide, by decide⟩
      have hat9 : cl9.slots[((1 : Int32)).toNatClampNeg]? = some (.int u1) := Hs9.at hin9 rfl
      refine own_by (T' := s₁) (g' := (mkF m 19 #[vR sa, vR na, vR xa, vI 2, vI 1] [(.int u1)])) (fun t k => X0.iaload hx (j := (1 : Int32)) (v := (.int u1)) (by rw [e0]; exact Ar9.1) (State.isArrayOf_alike hZ.alike Ar9.2.1) Ar9.2.2 hin9 hat9 (g := (mkF m 18 #[vR sa, vR na, vR xa, vI 2, vI 1] [(.int 1), (.ref na)])) rfl rfl (hb hby d3_18) _ k) ?_
      clear hat9 hin9 G9 Hs9 N9 S9 q9 Ar9 cl9
      exact own_retI X0 hx Bd.notSynchronized Bd.returns (hb hby d3_19) (by decide) (by decide) (by rw [e0]; exact ⟨by rw [own_nvs, if_pos (show c2 = own_ix (1 : Int32) c0 c1 c2 c3 c4 from hc12_8)] <;> rfl, N_, rfl⟩)
    · refine own_by (T' := s₁) (g' := (mkF m 20 #[vR sa, vR na, vR xa, vI 2, vI 1] [])) (fun t k => XS.icmpYes X0.here hx rfl (pc0 := 12) (pc' := 20) rfl (hb hby d3_12) rfl (feq hc12_8).2 (by decide) (by decide) k) ?_
      refine own_by (T' := s₁) (g' := (mkF m 22 #[vR sa, vR na, vR xa, vI 2, vI 1] [(.int 1)])) (fun t k => XS.iload X0.here hx rfl (hb hby d3_20) rfl k) ?_
      exact own_retI X0 hx Bd.notSynchronized Bd.returns (hb hby d3_22) (by decide) (by decide) (by rw [e0]; exact ⟨by rw [own_nvs, if_neg (show ¬ (c2 = own_ix (1 : Int32) c0 c1 c2 c3 c4) from hc12_8)] <;> rfl, N_, rfl⟩)

def Q3_3 (Z : State) (sa : Addr) (na : Addr) (xa : Addr) (ks : ClassId) (c0 : Int32) (c1 : Int32) (c2 : Int32) (c3 : Int32) (c4 : Int32) (kn : ClassId) (kx : ClassId) (u0 : Int32) (u1 : Int32) (u2 : Int32) (u3 : Int32) (u4 : Int32) (y0 : Int32) (y1 : Int32) (y2 : Int32) (y3 : Int32) (y4 : Int32) (h0 : Heap) (n0 : Nat) (v : Option Value) (h : Heap) (L : List Loc) : Prop := v = some (.int (own_nvs c3 y3 c0 c1 c2 c3 c4 u0 u1 u2 u3 u4)) ∧ Fr n0 L ∧ h = h0
theorem ef_3_3 (m : MethodId) (sa : Addr) (na : Addr) (xa : Addr) : entryFrame m #[(.ref sa), (.ref na), (.ref xa), (.int 3)] 5 = mkF m 0 #[vR sa, vR na, vR xa, vI 3, .unset] [] := by first | (simp [entryFrame, mkF, argsToLocals, Value.category]; done) | rfl
set_option maxRecDepth 65536 in
set_option maxHeartbeats 40000000 in
theorem rm3_3 (l : Launch) (Z : State) (a0 : Array Value) (hw : ∀ d ∈ tables_1, d.before a0 Z = true) (ws : List Jvm.Cond) (sa : Addr) (na : Addr) (xa : Addr) (ks : ClassId) (c0 : Int32) (c1 : Int32) (c2 : Int32) (c3 : Int32) (c4 : Int32) (kn : ClassId) (kx : ClassId) (u0 : Int32) (u1 : Int32) (u2 : Int32) (u3 : Int32) (u4 : Int32) (y0 : Int32) (y1 : Int32) (y2 : Int32) (y3 : Int32) (y4 : Int32) (h0 : Heap) (n0 : Nat) (Zle : n0 ≤ h0.size) (V_sa : Arv Z h0 sa ks .int (5 : Int32) [(.int c0), (.int c1), (.int c2), (.int c3), (.int c4)] (.int 0)) (V_na : Arv Z h0 na kn .int (5 : Int32) [(.int u0), (.int u1), (.int u2), (.int u3), (.int u4)] (.int 0)) (V_xa : Arv Z h0 xa kx .int (5 : Int32) [(.int y0), (.int y1), (.int y2), (.int y3), (.int y4)] (.int 0)) (hk : y3 = 0 ∨ y3 = 1 ∨ y3 = 2) :
    MetFree l (⟨"com/example/emu/emu/TableFormFromPrefixPinLaw", "nextval", "([I[I[II)I"⟩ : MethodName) (head1 (Jvm.Cond.code (⟨"com/example/emu/emu/TableFormFromPrefixPinLaw", "nextval", "([I[I[II)I"⟩ : MethodName) method_5_code 5 (some .int) :: ws) ({ frames := 0, cells := 0, slots := 0, locals := 0 } : Room)) (fun a U => a = #[(.ref sa), (.ref na), (.ref xa), (.int 3)] ∧ Z.Warmed39 U.vm ∧ U.heap = h0) (fun _ _ _ _ _ => True) (fun _ U o U' => ∃ v L, o = .returned v ∧ Q3_3 Z sa na xa ks c0 c1 c2 c3 c4 kn kx u0 u1 u2 u3 u4 y0 y1 y2 y3 y4 h0 n0 v U'.heap L ∧ FrameEnd U o U' L ({ frames := 0, cells := 0, slots := 0, locals := 0 } : Room).cells ({ frames := 0, cells := 0, slots := 0, locals := 0 } : Room).slots) := by
  refine MetFree.of_bodySF (plainFor_of_name pn_com_example_emu_emu_TableFormFromPrefixPinLaw) hisR ?_
  intro p e s m args below meth c s₁ Bd hml0 hP hK
  obtain ⟨rfl, hZ, hh⟩ := hP
  have hx := Bd.exec
  have hby := Bd.bytes
  have hml : c.maxLocals = 5 := hml0
  have hown : s.vm.findClass "com/example/emu/emu/TableFormFromPrefixPinLaw" = some m.cls := findClass_of_methodNamed Bd.named
  have hnm := (name_of_methodNamed Bd.named Bd.method).1
  have X0 : Stand p l e ({ frames := 0, cells := 0, slots := 0, locals := 0 } : Room) s m #[(.ref sa), (.ref na), (.ref xa), (.int 3)] below meth c s₁ [] 0 0 := Stand.of_body Bd
  have e0 : s₁.heap = h0 := by rw [← hh, Bd.state]; rfl
  have N_ := Fr.nil n0
  show own_Goes p.tables e below s (Q3_3 Z sa na xa ks c0 c1 c2 c3 c4 kn kx u0 u1 u2 u3 u4 y0 y1 y2 y3 y4 h0 n0) ({ frames := 0, cells := 0, slots := 0, locals := 0 } : Room).cells ({ frames := 0, cells := 0, slots := 0, locals := 0 } : Room).slots s₁ (entryFrame m #[(.ref sa), (.ref na), (.ref xa), (.int 3)] 5)
  refine own_by (T' := s₁) (g' := (mkF m 0 #[vR sa, vR na, vR xa, vI 3, .unset] [])) (fun t k => castTop (ef_3_3 m sa na xa) k) ?_
  refine own_by (T' := s₁) (g' := (mkF m 1 #[vR sa, vR na, vR xa, vI 3, .unset] [(.ref xa)])) (fun t k => XS.aloadN X0.here hx rfl (hb hby d3_0) rfl rfl k) ?_
  refine own_by (T' := s₁) (g' := (mkF m 2 #[vR sa, vR na, vR xa, vI 3, .unset] [(.int 3), (.ref xa)])) (fun t k => XS.iloadN X0.here hx rfl (hb hby d3_1) rfl k) ?_
  obtain ⟨cl1, Ar1, q1, S1, N1, Hs1, G1⟩ := id V_xa
  have hin1 : ¬ ((3 : Int32) < 0 ∨ cl1.slots.size ≤ ((3 : Int32)).toNatClampNeg) := inb_of S1 ⟨by decide, by decide⟩
  have hat1 : cl1.slots[((3 : Int32)).toNatClampNeg]? = some (.int y3) := Hs1.at hin1 rfl
  refine own_by (T' := s₁) (g' := (mkF m 3 #[vR sa, vR na, vR xa, vI 3, .unset] [(.int y3)])) (fun t k => X0.iaload hx (j := (3 : Int32)) (v := (.int y3)) (by rw [e0]; exact Ar1.1) (State.isArrayOf_alike hZ.alike Ar1.2.1) Ar1.2.2 hin1 hat1 (g := (mkF m 2 #[vR sa, vR na, vR xa, vI 3, .unset] [(.int 3), (.ref xa)])) rfl rfl (hb hby d3_2) _ k) ?_
  clear hat1 hin1 G1 Hs1 N1 S1 q1 Ar1 cl1
  refine own_by (T' := s₁) (g' := (mkF m 5 #[vR sa, vR na, vR xa, vI 3, vI y3] [])) (fun t k => XS.istore X0.here hx rfl (hb hby d3_3) rfl (l' := #[vR sa, vR na, vR xa, vI 3, vI y3]) rfl k) ?_
  rcases hk with rfl | rfl | rfl
  · refine own_by (T' := s₁) (g' := (mkF m 6 #[vR sa, vR na, vR xa, vI 3, vI 0] [(.ref sa)])) (fun t k => XS.aloadN X0.here hx rfl (hb hby d3_5) rfl rfl k) ?_
    refine own_by (T' := s₁) (g' := (mkF m 7 #[vR sa, vR na, vR xa, vI 3, vI 0] [(.int 3), (.ref sa)])) (fun t k => XS.iloadN X0.here hx rfl (hb hby d3_6) rfl k) ?_
    obtain ⟨cl2, Ar2, q2, S2, N2, Hs2, G2⟩ := id V_sa
    have hin2 : ¬ ((3 : Int32) < 0 ∨ cl2.slots.size ≤ ((3 : Int32)).toNatClampNeg) := inb_of S2 ⟨by decide, by decide⟩
    have hat2 : cl2.slots[((3 : Int32)).toNatClampNeg]? = some (.int c3) := Hs2.at hin2 rfl
    refine own_by (T' := s₁) (g' := (mkF m 8 #[vR sa, vR na, vR xa, vI 3, vI 0] [(.int c3)])) (fun t k => X0.iaload hx (j := (3 : Int32)) (v := (.int c3)) (by rw [e0]; exact Ar2.1) (State.isArrayOf_alike hZ.alike Ar2.2.1) Ar2.2.2 hin2 hat2 (g := (mkF m 7 #[vR sa, vR na, vR xa, vI 3, vI 0] [(.int 3), (.ref sa)])) rfl rfl (hb hby d3_7) _ k) ?_
    clear hat2 hin2 G2 Hs2 N2 S2 q2 Ar2 cl2
    refine own_by (T' := s₁) (g' := (mkF m 9 #[vR sa, vR na, vR xa, vI 3, vI 0] [(.ref sa), (.int c3)])) (fun t k => XS.aloadN X0.here hx rfl (hb hby d3_8) rfl rfl k) ?_
    refine own_by (T' := s₁) (g' := (mkF m 11 #[vR sa, vR na, vR xa, vI 3, vI 0] [(.int 0), (.ref sa), (.int c3)])) (fun t k => XS.iload X0.here hx rfl (hb hby d3_9) rfl k) ?_
    obtain ⟨cl3, Ar3, q3, S3, N3, Hs3, G3⟩ := id V_sa
    have hin3 : ¬ ((0 : Int32) < 0 ∨ cl3.slots.size ≤ ((0 : Int32)).toNatClampNeg) := inb_of S3 ⟨by decide, by decide⟩
    have hat3 : cl3.slots[((0 : Int32)).toNatClampNeg]? = some (.int c0) := Hs3.at hin3 rfl
    refine own_by (T' := s₁) (g' := (mkF m 12 #[vR sa, vR na, vR xa, vI 3, vI 0] [(.int c0), (.int c3)])) (fun t k => X0.iaload hx (j := (0 : Int32)) (v := (.int c0)) (by rw [e0]; exact Ar3.1) (State.isArrayOf_alike hZ.alike Ar3.2.1) Ar3.2.2 hin3 hat3 (g := (mkF m 11 #[vR sa, vR na, vR xa, vI 3, vI 0] [(.int 0), (.ref sa), (.int c3)])) rfl rfl (hb hby d3_11) _ k) ?_
    clear hat3 hin3 G3 Hs3 N3 S3 q3 Ar3 cl3
    by_cases hc12_4 : c3 = c0
    · refine own_by (T' := s₁) (g' := (mkF m 15 #[vR sa, vR na, vR xa, vI 3, vI 0] [])) (fun t k => XS.icmpNo X0.here hx rfl (hb hby d3_12) rfl (teq hc12_4).2 k) ?_
      refine own_by (T' := s₁) (g' := (mkF m 16 #[vR sa, vR na, vR xa, vI 3, vI 0] [(.ref na)])) (fun t k => XS.aloadN X0.here hx rfl (hb hby d3_15) rfl rfl k) ?_
      refine own_by (T' := s₁) (g' := (mkF m 18 #[vR sa, vR na, vR xa, vI 3, vI 0] [(.int 0), (.ref na)])) (fun t k => XS.iload X0.here hx rfl (hb hby d3_16) rfl k) ?_
      obtain ⟨cl5, Ar5, q5, S5, N5, Hs5, G5⟩ := id V_na
      have hin5 : ¬ ((0 : Int32) < 0 ∨ cl5.slots.size ≤ ((0 : Int32)).toNatClampNeg) := inb_of S5 ⟨by decide, by decide⟩
      have hat5 : cl5.slots[((0 : Int32)).toNatClampNeg]? = some (.int u0) := Hs5.at hin5 rfl
      refine own_by (T' := s₁) (g' := (mkF m 19 #[vR sa, vR na, vR xa, vI 3, vI 0] [(.int u0)])) (fun t k => X0.iaload hx (j := (0 : Int32)) (v := (.int u0)) (by rw [e0]; exact Ar5.1) (State.isArrayOf_alike hZ.alike Ar5.2.1) Ar5.2.2 hin5 hat5 (g := (mkF m 18 #[vR sa, vR na, vR xa, vI 3, vI 0] [(.int 0), (.ref na)])) rfl rfl (hb hby d3_18) _ k) ?_
      clear hat5 hin5 G5 Hs5 N5 S5 q5 Ar5 cl5
      exact own_retI X0 hx Bd.notSynchronized Bd.returns (hb hby d3_19) (by decide) (by decide) (by rw [e0]; exact ⟨by rw [own_nvs, if_pos (show c3 = own_ix (0 : Int32) c0 c1 c2 c3 c4 from hc12_4)] <;> rfl, N_, rfl⟩)
    · refine own_by (T' := s₁) (g' := (mkF m 20 #[vR sa, vR na, vR xa, vI 3, vI 0] [])) (fun t k => XS.icmpYes X0.here hx rfl (pc0 := 12) (pc' := 20) rfl (hb hby d3_12) rfl (feq hc12_4).2 (by decide) (by decide) k) ?_
      refine own_by (T' := s₁) (g' := (mkF m 22 #[vR sa, vR na, vR xa, vI 3, vI 0] [(.int 0)])) (fun t k => XS.iload X0.here hx rfl (hb hby d3_20) rfl k) ?_
      exact own_retI X0 hx Bd.notSynchronized Bd.returns (hb hby d3_22) (by decide) (by decide) (by rw [e0]; exact ⟨by rw [own_nvs, if_neg (show ¬ (c3 = own_ix (0 : Int32) c0 c1 c2 c3 c4) from hc12_4)] <;> rfl, N_, rfl⟩)
  · refine own_by (T' := s₁) (g' := (mkF m 6 #[vR sa, vR na, vR xa, vI 3, vI 1] [(.ref sa)])) (fun t k => XS.aloadN X0.here hx rfl (hb hby d3_5) rfl rfl k) ?_
    refine own_by (T' := s₁) (g' := (mkF m 7 #[vR sa, vR na, vR xa, vI 3, vI 1] [(.int 3), (.ref sa)])) (fun t k => XS.iloadN X0.here hx rfl (hb hby d3_6) rfl k) ?_
    obtain ⟨cl6, Ar6, q6, S6, N6, Hs6, G6⟩ := id V_sa
    have hin6 : ¬ ((3 : Int32) < 0 ∨ cl6.slots.size ≤ ((3 : Int32)).toNatClampNeg) := inb_of S6 ⟨by decide, by decide⟩
    have hat6 : cl6.slots[((3 : Int32)).toNatClampNeg]? = some (.int c3) := Hs6.at hin6 rfl
    refine own_by (T' := s₁) (g' := (mkF m 8 #[vR sa, vR na, vR xa, vI 3, vI 1] [(.int c3)])) (fun t k => X0.iaload hx (j := (3 : Int32)) (v := (.int c3)) (by rw [e0]; exact Ar6.1) (State.isArrayOf_alike hZ.alike Ar6.2.1) Ar6.2.2 hin6 hat6 (g := (mkF m 7 #[vR sa, vR na, vR xa, vI 3, vI 1] [(.int 3), (.ref sa)])) rfl rfl (hb hby d3_7) _ k) ?_
    clear hat6 hin6 G6 Hs6 N6 S6 q6 Ar6 cl6
    refine own_by (T' := s₁) (g' := (mkF m 9 #[vR sa, vR na, vR xa, vI 3, vI 1] [(.ref sa), (.int c3)])) (fun t k => XS.aloadN X0.here hx rfl (hb hby d3_8) rfl rfl k) ?_
    refine own_by (T' := s₁) (g' := (mkF m 11 #[vR sa, vR na, vR xa, vI 3, vI 1] [(.int 1), (.ref sa), (.int c3)])) (fun t k => XS.iload X0.here hx rfl (hb hby d3_9) rfl k) ?_
    obtain ⟨cl7, Ar7, q7, S7, N7, Hs7, G7⟩ := id V_sa
    have hin7 : ¬ ((1 : Int32) < 0 ∨ cl7.slots.size ≤ ((1 : Int32)).toNatClampNeg) := inb_of S7 ⟨by decide, by decide⟩
    have hat7 : cl7.slots[((1 : Int32)).toNatClampNeg]? = some (.int c1) := Hs7.at hin7 rfl
    refine own_by (T' := s₁) (g' := (mkF m 12 #[vR sa, vR na, vR xa, vI 3, vI 1] [(.int c1), (.int c3)])) (fun t k => X0.iaload hx (j := (1 : Int32)) (v := (.int c1)) (by rw [e0]; exact Ar7.1) (State.isArrayOf_alike hZ.alike Ar7.2.1) Ar7.2.2 hin7 hat7 (g := (mkF m 11 #[vR sa, vR na, vR xa, vI 3, vI 1] [(.int 1), (.ref sa), (.int c3)])) rfl rfl (hb hby d3_11) _ k) ?_
    clear hat7 hin7 G7 Hs7 N7 S7 q7 Ar7 cl7
    by_cases hc12_8 : c3 = c1
    · refine own_by (T' := s₁) (g' := (mkF m 15 #[vR sa, vR na, vR xa, vI 3, vI 1] [])) (fun t k => XS.icmpNo X0.here hx rfl (hb hby d3_12) rfl (teq hc12_8).2 k) ?_
      refine own_by (T' := s₁) (g' := (mkF m 16 #[vR sa, vR na, vR xa, vI 3, vI 1] [(.ref na)])) (fun t k => XS.aloadN X0.here hx rfl (hb hby d3_15) rfl rfl k) ?_
      refine own_by (T' := s₁) (g' := (mkF m 18 #[vR sa, vR na, vR xa, vI 3, vI 1] [(.int 1), (.ref na)])) (fun t k => XS.iload X0.here hx rfl (hb hby d3_16) rfl k) ?_
      obtain ⟨cl9, Ar9, q9, S9, N9, Hs9, G9⟩ := id V_na
      have hin9 : ¬ ((1 : Int32) < 0 ∨ cl9.slots.size ≤ ((1 : Int32)).toNatClampNeg) := inb_of S9 ⟨by decide, by decide⟩
      have hat9 : cl9.slots[((1 : Int32)).toNatClampNeg]? = some (.int u1) := Hs9.at hin9 rfl
      refine own_by (T' := s₁) (g' := (mkF m 19 #[vR sa, vR na, vR xa, vI 3, vI 1] [(.int u1)])) (fun t k => X0.iaload hx (j := (1 : Int32)) (v := (.int u1)) (by rw [e0]; exact Ar9.1) (State.isArrayOf_alike hZ.alike Ar9.2.1) Ar9.2.2 hin9 hat9 (g := (mkF m 18 #[vR sa, vR na, vR xa, vI 3, vI 1] [(.int 1), (.ref na)])) rfl rfl (hb hby d3_18) _ k) ?_
      clear hat9 hin9 G9 Hs9 N9 S9 q9 Ar9 cl9
      exact own_retI X0 hx Bd.notSynchronized Bd.returns (hb hby d3_19) (by decide) (by decide) (by rw [e0]; exact ⟨by rw [own_nvs, if_pos (show c3 = own_ix (1 : Int32) c0 c1 c2 c3 c4 from hc12_8)] <;> rfl, N_, rfl⟩)
    · refine own_by (T' := s₁) (g' := (mkF m 20 #[vR sa, vR na, vR xa, vI 3, vI 1] [])) (fun t k => XS.icmpYes X0.here hx rfl (pc0 := 12) (pc' := 20) rfl (hb hby d3_12) rfl (feq hc12_8).2 (by decide) (by decide) k) ?_
      refine own_by (T' := s₁) (g' := (mkF m 22 #[vR sa, vR na, vR xa, vI 3, vI 1] [(.int 1)])) (fun t k => XS.iload X0.here hx rfl (hb hby d3_20) rfl k) ?_
      exact own_retI X0 hx Bd.notSynchronized Bd.returns (hb hby d3_22) (by decide) (by decide) (by rw [e0]; exact ⟨by rw [own_nvs, if_neg (show ¬ (c3 = own_ix (1 : Int32) c0 c1 c2 c3 c4) from hc12_8)] <;> rfl, N_, rfl⟩)
  · refine own_by (T' := s₁) (g' := (mkF m 6 #[vR sa, vR na, vR xa, vI 3, vI 2] [(.ref sa)])) (fun t k => XS.aloadN X0.here hx rfl (hb hby d3_5) rfl rfl k) ?_
    refine own_by (T' := s₁) (g' := (mkF m 7 #[vR sa, vR na, vR xa, vI 3, vI 2] [(.int 3), (.ref sa)])) (fun t k => XS.iloadN X0.here hx rfl (hb hby d3_6) rfl k) ?_
    obtain ⟨cl10, Ar10, q10, S10, N10, Hs10, G10⟩ := id V_sa
    have hin10 : ¬ ((3 : Int32) < 0 ∨ cl10.slots.size ≤ ((3 : Int32)).toNatClampNeg) := inb_of S10 ⟨by decide, by decide⟩
    have hat10 : cl10.slots[((3 : Int32)).toNatClampNeg]? = some (.int c3) := Hs10.at hin10 rfl
    refine own_by (T' := s₁) (g' := (mkF m 8 #[vR sa, vR na, vR xa, vI 3, vI 2] [(.int c3)])) (fun t k => X0.iaload hx (j := (3 : Int32)) (v := (.int c3)) (by rw [e0]; exact Ar10.1) (State.isArrayOf_alike hZ.alike Ar10.2.1) Ar10.2.2 hin10 hat10 (g := (mkF m 7 #[vR sa, vR na, vR xa, vI 3, vI 2] [(.int 3), (.ref sa)])) rfl rfl (hb hby d3_7) _ k) ?_
    clear hat10 hin10 G10 Hs10 N10 S10 q10 Ar10 cl10
    refine own_by (T' := s₁) (g' := (mkF m 9 #[vR sa, vR na, vR xa, vI 3, vI 2] [(.ref sa), (.int c3)])) (fun t k => XS.aloadN X0.here hx rfl (hb hby d3_8) rfl rfl k) ?_
    refine own_by (T' := s₁) (g' := (mkF m 11 #[vR sa, vR na, vR xa, vI 3, vI 2] [(.int 2), (.ref sa), (.int c3)])) (fun t k => XS.iload X0.here hx rfl (hb hby d3_9) rfl k) ?_
    obtain ⟨cl11, Ar11, q11, S11, N11, Hs11, G11⟩ := id V_sa
    have hin11 : ¬ ((2 : Int32) < 0 ∨ cl11.slots.size ≤ ((2 : Int32)).toNatClampNeg) := inb_of S11 ⟨by decide, by decide⟩
    have hat11 : cl11.slots[((2 : Int32)).toNatClampNeg]? = some (.int c2) := Hs11.at hin11 rfl
    refine own_by (T' := s₁) (g' := (mkF m 12 #[vR sa, vR na, vR xa, vI 3, vI 2] [(.int c2), (.int c3)])) (fun t k => X0.iaload hx (j := (2 : Int32)) (v := (.int c2)) (by rw [e0]; exact Ar11.1) (State.isArrayOf_alike hZ.alike Ar11.2.1) Ar11.2.2 hin11 hat11 (g := (mkF m 11 #[vR sa, vR na, vR xa, vI 3, vI 2] [(.int 2), (.ref sa), (.int c3)])) rfl rfl (hb hby d3_11) _ k) ?_
    clear hat11 hin11 G11 Hs11 N11 S11 q11 Ar11 cl11
    by_cases hc12_12 : c3 = c2
    · refine own_by (T' := s₁) (g' := (mkF m 15 #[vR sa, vR na, vR xa, vI 3, vI 2] [])) (fun t k => XS.icmpNo X0.here hx rfl (hb hby d3_12) rfl (teq hc12_12).2 k) ?_
      refine own_by (T' := s₁) (g' := (mkF m 16 #[vR sa, vR na, vR xa, vI 3, vI 2] [(.ref na)])) (fun t k => XS.aloadN X0.here hx rfl (hb hby d3_15) rfl rfl k) ?_
      refine own_by (T' := s₁) (g' := (mkF m 18 #[vR sa, vR na, vR xa, vI 3, vI 2] [(.int 2), (.ref na)])) (fun t k => XS.iload X0.here hx rfl (hb hby d3_16) rfl k) ?_
      obtain ⟨cl13, Ar13, q13, S13, N13, Hs13, G13⟩ := id V_na
      have hin13 : ¬ ((2 : Int32) < 0 ∨ cl13.slots.size ≤ ((2 : Int32)).toNatClampNeg) := inb_of S13 ⟨by decide, by decide⟩
      have hat13 : cl13.slots[((2 : Int32)).toNatClampNeg]? = some (.int u2) := Hs13.at hin13 rfl
      refine own_by (T' := s₁) (g' := (mkF m 19 #[vR sa, vR na, vR xa, vI 3, vI 2] [(.int u2)])) (fun t k => X0.iaload hx (j := (2 : Int32)) (v := (.int u2)) (by rw [e0]; exact Ar13.1) (State.isArrayOf_alike hZ.alike Ar13.2.1) Ar13.2.2 hin13 hat13 (g := (mkF m 18 #[vR sa, vR na, vR xa, vI 3, vI 2] [(.int 2), (.ref na)])) rfl rfl (hb hby d3_18) _ k) ?_
      clear hat13 hin13 G13 Hs13 N13 S13 q13 Ar13 cl13
      exact own_retI X0 hx Bd.notSynchronized Bd.returns (hb hby d3_19) (by decide) (by decide) (by rw [e0]; exact ⟨by rw [own_nvs, if_pos (show c3 = own_ix (2 : Int32) c0 c1 c2 c3 c4 from hc12_12)] <;> rfl, N_, rfl⟩)
    · refine own_by (T' := s₁) (g' := (mkF m 20 #[vR sa, vR na, vR xa, vI 3, vI 2] [])) (fun t k => XS.icmpYes X0.here hx rfl (pc0 := 12) (pc' := 20) rfl (hb hby d3_12) rfl (feq hc12_12).2 (by decide) (by decide) k) ?_
      refine own_by (T' := s₁) (g' := (mkF m 22 #[vR sa, vR na, vR xa, vI 3, vI 2] [(.int 2)])) (fun t k => XS.iload X0.here hx rfl (hb hby d3_20) rfl k) ?_
      exact own_retI X0 hx Bd.notSynchronized Bd.returns (hb hby d3_22) (by decide) (by decide) (by rw [e0]; exact ⟨by rw [own_nvs, if_neg (show ¬ (c3 = own_ix (2 : Int32) c0 c1 c2 c3 c4) from hc12_12)] <;> rfl, N_, rfl⟩)

def Q3_4 (Z : State) (sa : Addr) (na : Addr) (xa : Addr) (ks : ClassId) (c0 : Int32) (c1 : Int32) (c2 : Int32) (c3 : Int32) (c4 : Int32) (kn : ClassId) (kx : ClassId) (u0 : Int32) (u1 : Int32) (u2 : Int32) (u3 : Int32) (u4 : Int32) (y0 : Int32) (y1 : Int32) (y2 : Int32) (y3 : Int32) (y4 : Int32) (h0 : Heap) (n0 : Nat) (v : Option Value) (h : Heap) (L : List Loc) : Prop := v = some (.int (own_nvs c4 y4 c0 c1 c2 c3 c4 u0 u1 u2 u3 u4)) ∧ Fr n0 L ∧ h = h0
theorem ef_3_4 (m : MethodId) (sa : Addr) (na : Addr) (xa : Addr) : entryFrame m #[(.ref sa), (.ref na), (.ref xa), (.int 4)] 5 = mkF m 0 #[vR sa, vR na, vR xa, vI 4, .unset] [] := by first | (simp [entryFrame, mkF, argsToLocals, Value.category]; done) | rfl
set_option maxRecDepth 65536 in
set_option maxHeartbeats 40000000 in
theorem rm3_4 (l : Launch) (Z : State) (a0 : Array Value) (hw : ∀ d ∈ tables_1, d.before a0 Z = true) (ws : List Jvm.Cond) (sa : Addr) (na : Addr) (xa : Addr) (ks : ClassId) (c0 : Int32) (c1 : Int32) (c2 : Int32) (c3 : Int32) (c4 : Int32) (kn : ClassId) (kx : ClassId) (u0 : Int32) (u1 : Int32) (u2 : Int32) (u3 : Int32) (u4 : Int32) (y0 : Int32) (y1 : Int32) (y2 : Int32) (y3 : Int32) (y4 : Int32) (h0 : Heap) (n0 : Nat) (Zle : n0 ≤ h0.size) (V_sa : Arv Z h0 sa ks .int (5 : Int32) [(.int c0), (.int c1), (.int c2), (.int c3), (.int c4)] (.int 0)) (V_na : Arv Z h0 na kn .int (5 : Int32) [(.int u0), (.int u1), (.int u2), (.int u3), (.int u4)] (.int 0)) (V_xa : Arv Z h0 xa kx .int (5 : Int32) [(.int y0), (.int y1), (.int y2), (.int y3), (.int y4)] (.int 0)) (hk : y4 = 0 ∨ y4 = 1 ∨ y4 = 2 ∨ y4 = 3) :
    MetFree l (⟨"com/example/emu/emu/TableFormFromPrefixPinLaw", "nextval", "([I[I[II)I"⟩ : MethodName) (head1 (Jvm.Cond.code (⟨"com/example/emu/emu/TableFormFromPrefixPinLaw", "nextval", "([I[I[II)I"⟩ : MethodName) method_5_code 5 (some .int) :: ws) ({ frames := 0, cells := 0, slots := 0, locals := 0 } : Room)) (fun a U => a = #[(.ref sa), (.ref na), (.ref xa), (.int 4)] ∧ Z.Warmed39 U.vm ∧ U.heap = h0) (fun _ _ _ _ _ => True) (fun _ U o U' => ∃ v L, o = .returned v ∧ Q3_4 Z sa na xa ks c0 c1 c2 c3 c4 kn kx u0 u1 u2 u3 u4 y0 y1 y2 y3 y4 h0 n0 v U'.heap L ∧ FrameEnd U o U' L ({ frames := 0, cells := 0, slots := 0, locals := 0 } : Room).cells ({ frames := 0, cells := 0, slots := 0, locals := 0 } : Room).slots) := by
  refine MetFree.of_bodySF (plainFor_of_name pn_com_example_emu_emu_TableFormFromPrefixPinLaw) hisR ?_
  intro p e s m args below meth c s₁ Bd hml0 hP hK
  obtain ⟨rfl, hZ, hh⟩ := hP
  have hx := Bd.exec
  have hby := Bd.bytes
  have hml : c.maxLocals = 5 := hml0
  have hown : s.vm.findClass "com/example/emu/emu/TableFormFromPrefixPinLaw" = some m.cls := findClass_of_methodNamed Bd.named
  have hnm := (name_of_methodNamed Bd.named Bd.method).1
  have X0 : Stand p l e ({ frames := 0, cells := 0, slots := 0, locals := 0 } : Room) s m #[(.ref sa), (.ref na), (.ref xa), (.int 4)] below meth c s₁ [] 0 0 := Stand.of_body Bd
  have e0 : s₁.heap = h0 := by rw [← hh, Bd.state]; rfl
  have N_ := Fr.nil n0
  show own_Goes p.tables e below s (Q3_4 Z sa na xa ks c0 c1 c2 c3 c4 kn kx u0 u1 u2 u3 u4 y0 y1 y2 y3 y4 h0 n0) ({ frames := 0, cells := 0, slots := 0, locals := 0 } : Room).cells ({ frames := 0, cells := 0, slots := 0, locals := 0 } : Room).slots s₁ (entryFrame m #[(.ref sa), (.ref na), (.ref xa), (.int 4)] 5)
  refine own_by (T' := s₁) (g' := (mkF m 0 #[vR sa, vR na, vR xa, vI 4, .unset] [])) (fun t k => castTop (ef_3_4 m sa na xa) k) ?_
  refine own_by (T' := s₁) (g' := (mkF m 1 #[vR sa, vR na, vR xa, vI 4, .unset] [(.ref xa)])) (fun t k => XS.aloadN X0.here hx rfl (hb hby d3_0) rfl rfl k) ?_
  refine own_by (T' := s₁) (g' := (mkF m 2 #[vR sa, vR na, vR xa, vI 4, .unset] [(.int 4), (.ref xa)])) (fun t k => XS.iloadN X0.here hx rfl (hb hby d3_1) rfl k) ?_
  obtain ⟨cl1, Ar1, q1, S1, N1, Hs1, G1⟩ := id V_xa
  have hin1 : ¬ ((4 : Int32) < 0 ∨ cl1.slots.size ≤ ((4 : Int32)).toNatClampNeg) := inb_of S1 ⟨by decide, by decide⟩
  have hat1 : cl1.slots[((4 : Int32)).toNatClampNeg]? = some (.int y4) := Hs1.at hin1 rfl
  refine own_by (T' := s₁) (g' := (mkF m 3 #[vR sa, vR na, vR xa, vI 4, .unset] [(.int y4)])) (fun t k => X0.iaload hx (j := (4 : Int32)) (v := (.int y4)) (by rw [e0]; exact Ar1.1) (State.isArrayOf_alike hZ.alike Ar1.2.1) Ar1.2.2 hin1 hat1 (g := (mkF m 2 #[vR sa, vR na, vR xa, vI 4, .unset] [(.int 4), (.ref xa)])) rfl rfl (hb hby d3_2) _ k) ?_
  clear hat1 hin1 G1 Hs1 N1 S1 q1 Ar1 cl1
  refine own_by (T' := s₁) (g' := (mkF m 5 #[vR sa, vR na, vR xa, vI 4, vI y4] [])) (fun t k => XS.istore X0.here hx rfl (hb hby d3_3) rfl (l' := #[vR sa, vR na, vR xa, vI 4, vI y4]) rfl k) ?_
  rcases hk with rfl | rfl | rfl | rfl
  · refine own_by (T' := s₁) (g' := (mkF m 6 #[vR sa, vR na, vR xa, vI 4, vI 0] [(.ref sa)])) (fun t k => XS.aloadN X0.here hx rfl (hb hby d3_5) rfl rfl k) ?_
    refine own_by (T' := s₁) (g' := (mkF m 7 #[vR sa, vR na, vR xa, vI 4, vI 0] [(.int 4), (.ref sa)])) (fun t k => XS.iloadN X0.here hx rfl (hb hby d3_6) rfl k) ?_
    obtain ⟨cl2, Ar2, q2, S2, N2, Hs2, G2⟩ := id V_sa
    have hin2 : ¬ ((4 : Int32) < 0 ∨ cl2.slots.size ≤ ((4 : Int32)).toNatClampNeg) := inb_of S2 ⟨by decide, by decide⟩
    have hat2 : cl2.slots[((4 : Int32)).toNatClampNeg]? = some (.int c4) := Hs2.at hin2 rfl
    refine own_by (T' := s₁) (g' := (mkF m 8 #[vR sa, vR na, vR xa, vI 4, vI 0] [(.int c4)])) (fun t k => X0.iaload hx (j := (4 : Int32)) (v := (.int c4)) (by rw [e0]; exact Ar2.1) (State.isArrayOf_alike hZ.alike Ar2.2.1) Ar2.2.2 hin2 hat2 (g := (mkF m 7 #[vR sa, vR na, vR xa, vI 4, vI 0] [(.int 4), (.ref sa)])) rfl rfl (hb hby d3_7) _ k) ?_
    clear hat2 hin2 G2 Hs2 N2 S2 q2 Ar2 cl2
    refine own_by (T' := s₁) (g' := (mkF m 9 #[vR sa, vR na, vR xa, vI 4, vI 0] [(.ref sa), (.int c4)])) (fun t k => XS.aloadN X0.here hx rfl (hb hby d3_8) rfl rfl k) ?_
    refine own_by (T' := s₁) (g' := (mkF m 11 #[vR sa, vR na, vR xa, vI 4, vI 0] [(.int 0), (.ref sa), (.int c4)])) (fun t k => XS.iload X0.here hx rfl (hb hby d3_9) rfl k) ?_
    obtain ⟨cl3, Ar3, q3, S3, N3, Hs3, G3⟩ := id V_sa
    have hin3 : ¬ ((0 : Int32) < 0 ∨ cl3.slots.size ≤ ((0 : Int32)).toNatClampNeg) := inb_of S3 ⟨by decide, by decide⟩
    have hat3 : cl3.slots[((0 : Int32)).toNatClampNeg]? = some (.int c0) := Hs3.at hin3 rfl
    refine own_by (T' := s₁) (g' := (mkF m 12 #[vR sa, vR na, vR xa, vI 4, vI 0] [(.int c0), (.int c4)])) (fun t k => X0.iaload hx (j := (0 : Int32)) (v := (.int c0)) (by rw [e0]; exact Ar3.1) (State.isArrayOf_alike hZ.alike Ar3.2.1) Ar3.2.2 hin3 hat3 (g := (mkF m 11 #[vR sa, vR na, vR xa, vI 4, vI 0] [(.int 0), (.ref sa), (.int c4)])) rfl rfl (hb hby d3_11) _ k) ?_
    clear hat3 hin3 G3 Hs3 N3 S3 q3 Ar3 cl3
    by_cases hc12_4 : c4 = c0
    · refine own_by (T' := s₁) (g' := (mkF m 15 #[vR sa, vR na, vR xa, vI 4, vI 0] [])) (fun t k => XS.icmpNo X0.here hx rfl (hb hby d3_12) rfl (teq hc12_4).2 k) ?_
      refine own_by (T' := s₁) (g' := (mkF m 16 #[vR sa, vR na, vR xa, vI 4, vI 0] [(.ref na)])) (fun t k => XS.aloadN X0.here hx rfl (hb hby d3_15) rfl rfl k) ?_
      refine own_by (T' := s₁) (g' := (mkF m 18 #[vR sa, vR na, vR xa, vI 4, vI 0] [(.int 0), (.ref na)])) (fun t k => XS.iload X0.here hx rfl (hb hby d3_16) rfl k) ?_
      obtain ⟨cl5, Ar5, q5, S5, N5, Hs5, G5⟩ := id V_na
      have hin5 : ¬ ((0 : Int32) < 0 ∨ cl5.slots.size ≤ ((0 : Int32)).toNatClampNeg) := inb_of S5 ⟨by decide, by decide⟩
      have hat5 : cl5.slots[((0 : Int32)).toNatClampNeg]? = some (.int u0) := Hs5.at hin5 rfl
      refine own_by (T' := s₁) (g' := (mkF m 19 #[vR sa, vR na, vR xa, vI 4, vI 0] [(.int u0)])) (fun t k => X0.iaload hx (j := (0 : Int32)) (v := (.int u0)) (by rw [e0]; exact Ar5.1) (State.isArrayOf_alike hZ.alike Ar5.2.1) Ar5.2.2 hin5 hat5 (g := (mkF m 18 #[vR sa, vR na, vR xa, vI 4, vI 0] [(.int 0), (.ref na)])) rfl rfl (hb hby d3_18) _ k) ?_
      clear hat5 hin5 G5 Hs5 N5 S5 q5 Ar5 cl5
      exact own_retI X0 hx Bd.notSynchronized Bd.returns (hb hby d3_19) (by decide) (by decide) (by rw [e0]; exact ⟨by rw [own_nvs, if_pos (show c4 = own_ix (0 : Int32) c0 c1 c2 c3 c4 from hc12_4)] <;> rfl, N_, rfl⟩)
    · refine own_by (T' := s₁) (g' := (mkF m 20 #[vR sa, vR na, vR xa, vI 4, vI 0] [])) (fun t k => XS.icmpYes X0.here hx rfl (pc0 := 12) (pc' := 20) rfl (hb hby d3_12) rfl (feq hc12_4).2 (by decide) (by decide) k) ?_
      refine own_by (T' := s₁) (g' := (mkF m 22 #[vR sa, vR na, vR xa, vI 4, vI 0] [(.int 0)])) (fun t k => XS.iload X0.here hx rfl (hb hby d3_20) rfl k) ?_
      exact own_retI X0 hx Bd.notSynchronized Bd.returns (hb hby d3_22) (by decide) (by decide) (by rw [e0]; exact ⟨by rw [own_nvs, if_neg (show ¬ (c4 = own_ix (0 : Int32) c0 c1 c2 c3 c4) from hc12_4)] <;> rfl, N_, rfl⟩)
  · refine own_by (T' := s₁) (g' := (mkF m 6 #[vR sa, vR na, vR xa, vI 4, vI 1] [(.ref sa)])) (fun t k => XS.aloadN X0.here hx rfl (hb hby d3_5) rfl rfl k) ?_
    refine own_by (T' := s₁) (g' := (mkF m 7 #[vR sa, vR na, vR xa, vI 4, vI 1] [(.int 4), (.ref sa)])) (fun t k => XS.iloadN X0.here hx rfl (hb hby d3_6) rfl k) ?_
    obtain ⟨cl6, Ar6, q6, S6, N6, Hs6, G6⟩ := id V_sa
    have hin6 : ¬ ((4 : Int32) < 0 ∨ cl6.slots.size ≤ ((4 : Int32)).toNatClampNeg) := inb_of S6 ⟨by decide, by decide⟩
    have hat6 : cl6.slots[((4 : Int32)).toNatClampNeg]? = some (.int c4) := Hs6.at hin6 rfl
    refine own_by (T' := s₁) (g' := (mkF m 8 #[vR sa, vR na, vR xa, vI 4, vI 1] [(.int c4)])) (fun t k => X0.iaload hx (j := (4 : Int32)) (v := (.int c4)) (by rw [e0]; exact Ar6.1) (State.isArrayOf_alike hZ.alike Ar6.2.1) Ar6.2.2 hin6 hat6 (g := (mkF m 7 #[vR sa, vR na, vR xa, vI 4, vI 1] [(.int 4), (.ref sa)])) rfl rfl (hb hby d3_7) _ k) ?_
    clear hat6 hin6 G6 Hs6 N6 S6 q6 Ar6 cl6
    refine own_by (T' := s₁) (g' := (mkF m 9 #[vR sa, vR na, vR xa, vI 4, vI 1] [(.ref sa), (.int c4)])) (fun t k => XS.aloadN X0.here hx rfl (hb hby d3_8) rfl rfl k) ?_
    refine own_by (T' := s₁) (g' := (mkF m 11 #[vR sa, vR na, vR xa, vI 4, vI 1] [(.int 1), (.ref sa), (.int c4)])) (fun t k => XS.iload X0.here hx rfl (hb hby d3_9) rfl k) ?_
    obtain ⟨cl7, Ar7, q7, S7, N7, Hs7, G7⟩ := id V_sa
    have hin7 : ¬ ((1 : Int32) < 0 ∨ cl7.slots.size ≤ ((1 : Int32)).toNatClampNeg) := inb_of S7 ⟨by decide, by decide⟩
    have hat7 : cl7.slots[((1 : Int32)).toNatClampNeg]? = some (.int c1) := Hs7.at hin7 rfl
    refine own_by (T' := s₁) (g' := (mkF m 12 #[vR sa, vR na, vR xa, vI 4, vI 1] [(.int c1), (.int c4)])) (fun t k => X0.iaload hx (j := (1 : Int32)) (v := (.int c1)) (by rw [e0]; exact Ar7.1) (State.isArrayOf_alike hZ.alike Ar7.2.1) Ar7.2.2 hin7 hat7 (g := (mkF m 11 #[vR sa, vR na, vR xa, vI 4, vI 1] [(.int 1), (.ref sa), (.int c4)])) rfl rfl (hb hby d3_11) _ k) ?_
    clear hat7 hin7 G7 Hs7 N7 S7 q7 Ar7 cl7
    by_cases hc12_8 : c4 = c1
    · refine own_by (T' := s₁) (g' := (mkF m 15 #[vR sa, vR na, vR xa, vI 4, vI 1] [])) (fun t k => XS.icmpNo X0.here hx rfl (hb hby d3_12) rfl (teq hc12_8).2 k) ?_
      refine own_by (T' := s₁) (g' := (mkF m 16 #[vR sa, vR na, vR xa, vI 4, vI 1] [(.ref na)])) (fun t k => XS.aloadN X0.here hx rfl (hb hby d3_15) rfl rfl k) ?_
      refine own_by (T' := s₁) (g' := (mkF m 18 #[vR sa, vR na, vR xa, vI 4, vI 1] [(.int 1), (.ref na)])) (fun t k => XS.iload X0.here hx rfl (hb hby d3_16) rfl k) ?_
      obtain ⟨cl9, Ar9, q9, S9, N9, Hs9, G9⟩ := id V_na
      have hin9 : ¬ ((1 : Int32) < 0 ∨ cl9.slots.size ≤ ((1 : Int32)).toNatClampNeg) := inb_of S9 ⟨by decide, by decide⟩
      have hat9 : cl9.slots[((1 : Int32)).toNatClampNeg]? = some (.int u1) := Hs9.at hin9 rfl
      refine own_by (T' := s₁) (g' := (mkF m 19 #[vR sa, vR na, vR xa, vI 4, vI 1] [(.int u1)])) (fun t k => X0.iaload hx (j := (1 : Int32)) (v := (.int u1)) (by rw [e0]; exact Ar9.1) (State.isArrayOf_alike hZ.alike Ar9.2.1) Ar9.2.2 hin9 hat9 (g := (mkF m 18 #[vR sa, vR na, vR xa, vI 4, vI 1] [(.int 1), (.ref na)])) rfl rfl (hb hby d3_18) _ k) ?_
      clear hat9 hin9 G9 Hs9 N9 S9 q9 Ar9 cl9
      exact own_retI X0 hx Bd.notSynchronized Bd.returns (hb hby d3_19) (by decide) (by decide) (by rw [e0]; exact ⟨by rw [own_nvs, if_pos (show c4 = own_ix (1 : Int32) c0 c1 c2 c3 c4 from hc12_8)] <;> rfl, N_, rfl⟩)
    · refine own_by (T' := s₁) (g' := (mkF m 20 #[vR sa, vR na, vR xa, vI 4, vI 1] [])) (fun t k => XS.icmpYes X0.here hx rfl (pc0 := 12) (pc' := 20) rfl (hb hby d3_12) rfl (feq hc12_8).2 (by decide) (by decide) k) ?_
      refine own_by (T' := s₁) (g' := (mkF m 22 #[vR sa, vR na, vR xa, vI 4, vI 1] [(.int 1)])) (fun t k => XS.iload X0.here hx rfl (hb hby d3_20) rfl k) ?_
      exact own_retI X0 hx Bd.notSynchronized Bd.returns (hb hby d3_22) (by decide) (by decide) (by rw [e0]; exact ⟨by rw [own_nvs, if_neg (show ¬ (c4 = own_ix (1 : Int32) c0 c1 c2 c3 c4) from hc12_8)] <;> rfl, N_, rfl⟩)
  · refine own_by (T' := s₁) (g' := (mkF m 6 #[vR sa, vR na, vR xa, vI 4, vI 2] [(.ref sa)])) (fun t k => XS.aloadN X0.here hx rfl (hb hby d3_5) rfl rfl k) ?_
    refine own_by (T' := s₁) (g' := (mkF m 7 #[vR sa, vR na, vR xa, vI 4, vI 2] [(.int 4), (.ref sa)])) (fun t k => XS.iloadN X0.here hx rfl (hb hby d3_6) rfl k) ?_
    obtain ⟨cl10, Ar10, q10, S10, N10, Hs10, G10⟩ := id V_sa
    have hin10 : ¬ ((4 : Int32) < 0 ∨ cl10.slots.size ≤ ((4 : Int32)).toNatClampNeg) := inb_of S10 ⟨by decide, by decide⟩
    have hat10 : cl10.slots[((4 : Int32)).toNatClampNeg]? = some (.int c4) := Hs10.at hin10 rfl
    refine own_by (T' := s₁) (g' := (mkF m 8 #[vR sa, vR na, vR xa, vI 4, vI 2] [(.int c4)])) (fun t k => X0.iaload hx (j := (4 : Int32)) (v := (.int c4)) (by rw [e0]; exact Ar10.1) (State.isArrayOf_alike hZ.alike Ar10.2.1) Ar10.2.2 hin10 hat10 (g := (mkF m 7 #[vR sa, vR na, vR xa, vI 4, vI 2] [(.int 4), (.ref sa)])) rfl rfl (hb hby d3_7) _ k) ?_
    clear hat10 hin10 G10 Hs10 N10 S10 q10 Ar10 cl10
    refine own_by (T' := s₁) (g' := (mkF m 9 #[vR sa, vR na, vR xa, vI 4, vI 2] [(.ref sa), (.int c4)])) (fun t k => XS.aloadN X0.here hx rfl (hb hby d3_8) rfl rfl k) ?_
    refine own_by (T' := s₁) (g' := (mkF m 11 #[vR sa, vR na, vR xa, vI 4, vI 2] [(.int 2), (.ref sa), (.int c4)])) (fun t k => XS.iload X0.here hx rfl (hb hby d3_9) rfl k) ?_
    obtain ⟨cl11, Ar11, q11, S11, N11, Hs11, G11⟩ := id V_sa
    have hin11 : ¬ ((2 : Int32) < 0 ∨ cl11.slots.size ≤ ((2 : Int32)).toNatClampNeg) := inb_of S11 ⟨by decide, by decide⟩
    have hat11 : cl11.slots[((2 : Int32)).toNatClampNeg]? = some (.int c2) := Hs11.at hin11 rfl
    refine own_by (T' := s₁) (g' := (mkF m 12 #[vR sa, vR na, vR xa, vI 4, vI 2] [(.int c2), (.int c4)])) (fun t k => X0.iaload hx (j := (2 : Int32)) (v := (.int c2)) (by rw [e0]; exact Ar11.1) (State.isArrayOf_alike hZ.alike Ar11.2.1) Ar11.2.2 hin11 hat11 (g := (mkF m 11 #[vR sa, vR na, vR xa, vI 4, vI 2] [(.int 2), (.ref sa), (.int c4)])) rfl rfl (hb hby d3_11) _ k) ?_
    clear hat11 hin11 G11 Hs11 N11 S11 q11 Ar11 cl11
    by_cases hc12_12 : c4 = c2
    · refine own_by (T' := s₁) (g' := (mkF m 15 #[vR sa, vR na, vR xa, vI 4, vI 2] [])) (fun t k => XS.icmpNo X0.here hx rfl (hb hby d3_12) rfl (teq hc12_12).2 k) ?_
      refine own_by (T' := s₁) (g' := (mkF m 16 #[vR sa, vR na, vR xa, vI 4, vI 2] [(.ref na)])) (fun t k => XS.aloadN X0.here hx rfl (hb hby d3_15) rfl rfl k) ?_
      refine own_by (T' := s₁) (g' := (mkF m 18 #[vR sa, vR na, vR xa, vI 4, vI 2] [(.int 2), (.ref na)])) (fun t k => XS.iload X0.here hx rfl (hb hby d3_16) rfl k) ?_
      obtain ⟨cl13, Ar13, q13, S13, N13, Hs13, G13⟩ := id V_na
      have hin13 : ¬ ((2 : Int32) < 0 ∨ cl13.slots.size ≤ ((2 : Int32)).toNatClampNeg) := inb_of S13 ⟨by decide, by decide⟩
      have hat13 : cl13.slots[((2 : Int32)).toNatClampNeg]? = some (.int u2) := Hs13.at hin13 rfl
      refine own_by (T' := s₁) (g' := (mkF m 19 #[vR sa, vR na, vR xa, vI 4, vI 2] [(.int u2)])) (fun t k => X0.iaload hx (j := (2 : Int32)) (v := (.int u2)) (by rw [e0]; exact Ar13.1) (State.isArrayOf_alike hZ.alike Ar13.2.1) Ar13.2.2 hin13 hat13 (g := (mkF m 18 #[vR sa, vR na, vR xa, vI 4, vI 2] [(.int 2), (.ref na)])) rfl rfl (hb hby d3_18) _ k) ?_
      clear hat13 hin13 G13 Hs13 N13 S13 q13 Ar13 cl13
      exact own_retI X0 hx Bd.notSynchronized Bd.returns (hb hby d3_19) (by decide) (by decide) (by rw [e0]; exact ⟨by rw [own_nvs, if_pos (show c4 = own_ix (2 : Int32) c0 c1 c2 c3 c4 from hc12_12)] <;> rfl, N_, rfl⟩)
    · refine own_by (T' := s₁) (g' := (mkF m 20 #[vR sa, vR na, vR xa, vI 4, vI 2] [])) (fun t k => XS.icmpYes X0.here hx rfl (pc0 := 12) (pc' := 20) rfl (hb hby d3_12) rfl (feq hc12_12).2 (by decide) (by decide) k) ?_
      refine own_by (T' := s₁) (g' := (mkF m 22 #[vR sa, vR na, vR xa, vI 4, vI 2] [(.int 2)])) (fun t k => XS.iload X0.here hx rfl (hb hby d3_20) rfl k) ?_
      exact own_retI X0 hx Bd.notSynchronized Bd.returns (hb hby d3_22) (by decide) (by decide) (by rw [e0]; exact ⟨by rw [own_nvs, if_neg (show ¬ (c4 = own_ix (2 : Int32) c0 c1 c2 c3 c4) from hc12_12)] <;> rfl, N_, rfl⟩)
  · refine own_by (T' := s₁) (g' := (mkF m 6 #[vR sa, vR na, vR xa, vI 4, vI 3] [(.ref sa)])) (fun t k => XS.aloadN X0.here hx rfl (hb hby d3_5) rfl rfl k) ?_
    refine own_by (T' := s₁) (g' := (mkF m 7 #[vR sa, vR na, vR xa, vI 4, vI 3] [(.int 4), (.ref sa)])) (fun t k => XS.iloadN X0.here hx rfl (hb hby d3_6) rfl k) ?_
    obtain ⟨cl14, Ar14, q14, S14, N14, Hs14, G14⟩ := id V_sa
    have hin14 : ¬ ((4 : Int32) < 0 ∨ cl14.slots.size ≤ ((4 : Int32)).toNatClampNeg) := inb_of S14 ⟨by decide, by decide⟩
    have hat14 : cl14.slots[((4 : Int32)).toNatClampNeg]? = some (.int c4) := Hs14.at hin14 rfl
    refine own_by (T' := s₁) (g' := (mkF m 8 #[vR sa, vR na, vR xa, vI 4, vI 3] [(.int c4)])) (fun t k => X0.iaload hx (j := (4 : Int32)) (v := (.int c4)) (by rw [e0]; exact Ar14.1) (State.isArrayOf_alike hZ.alike Ar14.2.1) Ar14.2.2 hin14 hat14 (g := (mkF m 7 #[vR sa, vR na, vR xa, vI 4, vI 3] [(.int 4), (.ref sa)])) rfl rfl (hb hby d3_7) _ k) ?_
    clear hat14 hin14 G14 Hs14 N14 S14 q14 Ar14 cl14
    refine own_by (T' := s₁) (g' := (mkF m 9 #[vR sa, vR na, vR xa, vI 4, vI 3] [(.ref sa), (.int c4)])) (fun t k => XS.aloadN X0.here hx rfl (hb hby d3_8) rfl rfl k) ?_
    refine own_by (T' := s₁) (g' := (mkF m 11 #[vR sa, vR na, vR xa, vI 4, vI 3] [(.int 3), (.ref sa), (.int c4)])) (fun t k => XS.iload X0.here hx rfl (hb hby d3_9) rfl k) ?_
    obtain ⟨cl15, Ar15, q15, S15, N15, Hs15, G15⟩ := id V_sa
    have hin15 : ¬ ((3 : Int32) < 0 ∨ cl15.slots.size ≤ ((3 : Int32)).toNatClampNeg) := inb_of S15 ⟨by decide, by decide⟩
    have hat15 : cl15.slots[((3 : Int32)).toNatClampNeg]? = some (.int c3) := Hs15.at hin15 rfl
    refine own_by (T' := s₁) (g' := (mkF m 12 #[vR sa, vR na, vR xa, vI 4, vI 3] [(.int c3), (.int c4)])) (fun t k => X0.iaload hx (j := (3 : Int32)) (v := (.int c3)) (by rw [e0]; exact Ar15.1) (State.isArrayOf_alike hZ.alike Ar15.2.1) Ar15.2.2 hin15 hat15 (g := (mkF m 11 #[vR sa, vR na, vR xa, vI 4, vI 3] [(.int 3), (.ref sa), (.int c4)])) rfl rfl (hb hby d3_11) _ k) ?_
    clear hat15 hin15 G15 Hs15 N15 S15 q15 Ar15 cl15
    by_cases hc12_16 : c4 = c3
    · refine own_by (T' := s₁) (g' := (mkF m 15 #[vR sa, vR na, vR xa, vI 4, vI 3] [])) (fun t k => XS.icmpNo X0.here hx rfl (hb hby d3_12) rfl (teq hc12_16).2 k) ?_
      refine own_by (T' := s₁) (g' := (mkF m 16 #[vR sa, vR na, vR xa, vI 4, vI 3] [(.ref na)])) (fun t k => XS.aloadN X0.here hx rfl (hb hby d3_15) rfl rfl k) ?_
      refine own_by (T' := s₁) (g' := (mkF m 18 #[vR sa, vR na, vR xa, vI 4, vI 3] [(.int 3), (.ref na)])) (fun t k => XS.iload X0.here hx rfl (hb hby d3_16) rfl k) ?_
      obtain ⟨cl17, Ar17, q17, S17, N17, Hs17, G17⟩ := id V_na
      have hin17 : ¬ ((3 : Int32) < 0 ∨ cl17.slots.size ≤ ((3 : Int32)).toNatClampNeg) := inb_of S17 ⟨by decide, by decide⟩
      have hat17 : cl17.slots[((3 : Int32)).toNatClampNeg]? = some (.int u3) := Hs17.at hin17 rfl
      refine own_by (T' := s₁) (g' := (mkF m 19 #[vR sa, vR na, vR xa, vI 4, vI 3] [(.int u3)])) (fun t k => X0.iaload hx (j := (3 : Int32)) (v := (.int u3)) (by rw [e0]; exact Ar17.1) (State.isArrayOf_alike hZ.alike Ar17.2.1) Ar17.2.2 hin17 hat17 (g := (mkF m 18 #[vR sa, vR na, vR xa, vI 4, vI 3] [(.int 3), (.ref na)])) rfl rfl (hb hby d3_18) _ k) ?_
      clear hat17 hin17 G17 Hs17 N17 S17 q17 Ar17 cl17
      exact own_retI X0 hx Bd.notSynchronized Bd.returns (hb hby d3_19) (by decide) (by decide) (by rw [e0]; exact ⟨by rw [own_nvs, if_pos (show c4 = own_ix (3 : Int32) c0 c1 c2 c3 c4 from hc12_16)] <;> rfl, N_, rfl⟩)
    · refine own_by (T' := s₁) (g' := (mkF m 20 #[vR sa, vR na, vR xa, vI 4, vI 3] [])) (fun t k => XS.icmpYes X0.here hx rfl (pc0 := 12) (pc' := 20) rfl (hb hby d3_12) rfl (feq hc12_16).2 (by decide) (by decide) k) ?_
      refine own_by (T' := s₁) (g' := (mkF m 22 #[vR sa, vR na, vR xa, vI 4, vI 3] [(.int 3)])) (fun t k => XS.iload X0.here hx rfl (hb hby d3_20) rfl k) ?_
      exact own_retI X0 hx Bd.notSynchronized Bd.returns (hb hby d3_22) (by decide) (by decide) (by rw [e0]; exact ⟨by rw [own_nvs, if_neg (show ¬ (c4 = own_ix (3 : Int32) c0 c1 c2 c3 c4) from hc12_16)] <;> rfl, N_, rfl⟩)

def Q4_0 (Z : State) (ff : Int32) (pa : Addr) (xa : Addr) (na : Addr) (kp : ClassId) (kx : ClassId) (kn : ClassId) (p0 : Int32) (p1 : Int32) (p2 : Int32) (p3 : Int32) (p4 : Int32) (y0 : Int32) (y1 : Int32) (y2 : Int32) (y3 : Int32) (y4 : Int32) (u0 : Int32) (u1 : Int32) (u2 : Int32) (u3 : Int32) (u4 : Int32) (h0 : Heap) (n0 : Nat) (v : Option Value) (h : Heap) (L : List Loc) : Prop := v = some (.int (own_pick ff p0 y0 u0)) ∧ Fr n0 L ∧ h = h0
theorem ef_4_0 (m : MethodId) (ff : Int32) (pa : Addr) (xa : Addr) (na : Addr) : entryFrame m #[(.int ff), (.ref pa), (.ref xa), (.ref na), (.int 0)] 5 = mkF m 0 #[vI ff, vR pa, vR xa, vR na, vI 0] [] := by first | (simp [entryFrame, mkF, argsToLocals, Value.category]; done) | rfl
theorem d4_0 : decode method_4_code 0 = .ok (.iload_n 0, 1) := by decide +kernel
theorem d4_1 : decode method_4_code 1 = .ok (.ifCond .ne 8, 3) := by decide +kernel
theorem d4_4 : decode method_4_code 4 = .ok (.aload_n 1, 1) := by decide +kernel
theorem d4_5 : decode method_4_code 5 = .ok (.iload 4, 2) := by decide +kernel
theorem d4_7 : decode method_4_code 7 = .ok (.iaload, 1) := by decide +kernel
theorem d4_8 : decode method_4_code 8 = .ok (.ireturn, 1) := by decide +kernel
theorem d4_9 : decode method_4_code 9 = .ok (.iload_n 0, 1) := by decide +kernel
theorem d4_10 : decode method_4_code 10 = .ok (.iconst 1, 1) := by decide +kernel
theorem d4_11 : decode method_4_code 11 = .ok (.if_icmp .ne 8, 3) := by decide +kernel
theorem d4_14 : decode method_4_code 14 = .ok (.aload_n 2, 1) := by decide +kernel
theorem d4_15 : decode method_4_code 15 = .ok (.iload 4, 2) := by decide +kernel
theorem d4_17 : decode method_4_code 17 = .ok (.iaload, 1) := by decide +kernel
theorem d4_18 : decode method_4_code 18 = .ok (.ireturn, 1) := by decide +kernel
theorem d4_19 : decode method_4_code 19 = .ok (.iload_n 0, 1) := by decide +kernel
theorem d4_20 : decode method_4_code 20 = .ok (.iconst 2, 1) := by decide +kernel
theorem d4_21 : decode method_4_code 21 = .ok (.if_icmp .ne 10, 3) := by decide +kernel
theorem d4_24 : decode method_4_code 24 = .ok (.aload_n 2, 1) := by decide +kernel
theorem d4_25 : decode method_4_code 25 = .ok (.iload 4, 2) := by decide +kernel
theorem d4_27 : decode method_4_code 27 = .ok (.iaload, 1) := by decide +kernel
theorem d4_28 : decode method_4_code 28 = .ok (.iconst 1, 1) := by decide +kernel
theorem d4_29 : decode method_4_code 29 = .ok (.iadd, 1) := by decide +kernel
theorem d4_30 : decode method_4_code 30 = .ok (.ireturn, 1) := by decide +kernel
theorem d4_31 : decode method_4_code 31 = .ok (.aload_n 3, 1) := by decide +kernel
theorem d4_32 : decode method_4_code 32 = .ok (.iload 4, 2) := by decide +kernel
theorem d4_34 : decode method_4_code 34 = .ok (.iaload, 1) := by decide +kernel
theorem d4_35 : decode method_4_code 35 = .ok (.ireturn, 1) := by decide +kernel
set_option maxRecDepth 65536 in
set_option maxHeartbeats 40000000 in
theorem rm4_0 (l : Launch) (Z : State) (a0 : Array Value) (hw : ∀ d ∈ tables_1, d.before a0 Z = true) (ws : List Jvm.Cond) (ff : Int32) (pa : Addr) (xa : Addr) (na : Addr) (kp : ClassId) (kx : ClassId) (kn : ClassId) (p0 : Int32) (p1 : Int32) (p2 : Int32) (p3 : Int32) (p4 : Int32) (y0 : Int32) (y1 : Int32) (y2 : Int32) (y3 : Int32) (y4 : Int32) (u0 : Int32) (u1 : Int32) (u2 : Int32) (u3 : Int32) (u4 : Int32) (h0 : Heap) (n0 : Nat) (Zle : n0 ≤ h0.size) (V_pa : Arv Z h0 pa kp .int (5 : Int32) [(.int p0), (.int p1), (.int p2), (.int p3), (.int p4)] (.int 0)) (V_xa : Arv Z h0 xa kx .int (5 : Int32) [(.int y0), (.int y1), (.int y2), (.int y3), (.int y4)] (.int 0)) (V_na : Arv Z h0 na kn .int (5 : Int32) [(.int u0), (.int u1), (.int u2), (.int u3), (.int u4)] (.int 0)) :
    MetFree l (⟨"com/example/emu/emu/TableFormFromPrefixPinLaw", "pick", "(I[I[I[II)I"⟩ : MethodName) (head1 (Jvm.Cond.code (⟨"com/example/emu/emu/TableFormFromPrefixPinLaw", "pick", "(I[I[I[II)I"⟩ : MethodName) method_4_code 5 (some .int) :: ws) ({ frames := 0, cells := 0, slots := 0, locals := 0 } : Room)) (fun a U => a = #[(.int ff), (.ref pa), (.ref xa), (.ref na), (.int 0)] ∧ Z.Warmed39 U.vm ∧ U.heap = h0) (fun _ _ _ _ _ => True) (fun _ U o U' => ∃ v L, o = .returned v ∧ Q4_0 Z ff pa xa na kp kx kn p0 p1 p2 p3 p4 y0 y1 y2 y3 y4 u0 u1 u2 u3 u4 h0 n0 v U'.heap L ∧ FrameEnd U o U' L ({ frames := 0, cells := 0, slots := 0, locals := 0 } : Room).cells ({ frames := 0, cells := 0, slots := 0, locals := 0 } : Room).slots) := by
  refine MetFree.of_bodySF (plainFor_of_name pn_com_example_emu_emu_TableFormFromPrefixPinLaw) hisR ?_
  intro p e s m args below meth c s₁ Bd hml0 hP hK
  obtain ⟨rfl, hZ, hh⟩ := hP
  have hx := Bd.exec
  have hby := Bd.bytes
  have hml : c.maxLocals = 5 := hml0
  have hown : s.vm.findClass "com/example/emu/emu/TableFormFromPrefixPinLaw" = some m.cls := findClass_of_methodNamed Bd.named
  have hnm := (name_of_methodNamed Bd.named Bd.method).1
  have X0 : Stand p l e ({ frames := 0, cells := 0, slots := 0, locals := 0 } : Room) s m #[(.int ff), (.ref pa), (.ref xa), (.ref na), (.int 0)] below meth c s₁ [] 0 0 := Stand.of_body Bd
  have e0 : s₁.heap = h0 := by rw [← hh, Bd.state]; rfl
  have N_ := Fr.nil n0
  show own_Goes p.tables e below s (Q4_0 Z ff pa xa na kp kx kn p0 p1 p2 p3 p4 y0 y1 y2 y3 y4 u0 u1 u2 u3 u4 h0 n0) ({ frames := 0, cells := 0, slots := 0, locals := 0 } : Room).cells ({ frames := 0, cells := 0, slots := 0, locals := 0 } : Room).slots s₁ (entryFrame m #[(.int ff), (.ref pa), (.ref xa), (.ref na), (.int 0)] 5)
  refine own_by (T' := s₁) (g' := (mkF m 0 #[vI ff, vR pa, vR xa, vR na, vI 0] [])) (fun t k => castTop (ef_4_0 m ff pa xa na) k) ?_
  refine own_by (T' := s₁) (g' := (mkF m 1 #[vI ff, vR pa, vR xa, vR na, vI 0] [(.int ff)])) (fun t k => XS.iloadN X0.here hx rfl (hb hby d4_0) rfl k) ?_
  by_cases hc1_1 : ff = (0 : Int32)
  · refine own_by (T' := s₁) (g' := (mkF m 4 #[vI ff, vR pa, vR xa, vR na, vI 0] [])) (fun t k => XS.ifNo X0.here hx rfl (hb hby d4_1) rfl ((if0 _ _).trans (teq hc1_1).2) k) ?_
    refine own_by (T' := s₁) (g' := (mkF m 5 #[vI ff, vR pa, vR xa, vR na, vI 0] [(.ref pa)])) (fun t k => XS.aloadN X0.here hx rfl (hb hby d4_4) rfl rfl k) ?_
    refine own_by (T' := s₁) (g' := (mkF m 7 #[vI ff, vR pa, vR xa, vR na, vI 0] [(.int 0), (.ref pa)])) (fun t k => XS.iload X0.here hx rfl (hb hby d4_5) rfl k) ?_
    obtain ⟨cl2, Ar2, q2, S2, N2, Hs2, G2⟩ := id V_pa
    have hin2 : ¬ ((0 : Int32) < 0 ∨ cl2.slots.size ≤ ((0 : Int32)).toNatClampNeg) := inb_of S2 ⟨by decide, by decide⟩
    have hat2 : cl2.slots[((0 : Int32)).toNatClampNeg]? = some (.int p0) := Hs2.at hin2 rfl
    refine own_by (T' := s₁) (g' := (mkF m 8 #[vI ff, vR pa, vR xa, vR na, vI 0] [(.int p0)])) (fun t k => X0.iaload hx (j := (0 : Int32)) (v := (.int p0)) (by rw [e0]; exact Ar2.1) (State.isArrayOf_alike hZ.alike Ar2.2.1) Ar2.2.2 hin2 hat2 (g := (mkF m 7 #[vI ff, vR pa, vR xa, vR na, vI 0] [(.int 0), (.ref pa)])) rfl rfl (hb hby d4_7) _ k) ?_
    clear hat2 hin2 G2 Hs2 N2 S2 q2 Ar2 cl2
    exact own_retI X0 hx Bd.notSynchronized Bd.returns (hb hby d4_8) (by decide) (by decide) (by rw [e0]; exact ⟨by unfold own_pick; rw [if_pos hc1_1], N_, rfl⟩)
  · refine own_by (T' := s₁) (g' := (mkF m 9 #[vI ff, vR pa, vR xa, vR na, vI 0] [])) (fun t k => XS.ifYes X0.here hx rfl (pc0 := 1) (pc' := 9) rfl (hb hby d4_1) rfl ((if0 _ _).trans (feq hc1_1).2) (by decide) (by decide) k) ?_
    refine own_by (T' := s₁) (g' := (mkF m 10 #[vI ff, vR pa, vR xa, vR na, vI 0] [(.int ff)])) (fun t k => XS.iloadN X0.here hx rfl (hb hby d4_9) rfl k) ?_
    refine own_by (T' := s₁) (g' := (mkF m 11 #[vI ff, vR pa, vR xa, vR na, vI 0] [(.int 1), (.int ff)])) (fun t k => XS.iconst X0.here hx rfl (hb hby d4_10) k) ?_
    by_cases hc11_3 : ff = (1 : Int32)
    · refine own_by (T' := s₁) (g' := (mkF m 14 #[vI ff, vR pa, vR xa, vR na, vI 0] [])) (fun t k => XS.icmpNo X0.here hx rfl (hb hby d4_11) rfl (teq hc11_3).2 k) ?_
      refine own_by (T' := s₁) (g' := (mkF m 15 #[vI ff, vR pa, vR xa, vR na, vI 0] [(.ref xa)])) (fun t k => XS.aloadN X0.here hx rfl (hb hby d4_14) rfl rfl k) ?_
      refine own_by (T' := s₁) (g' := (mkF m 17 #[vI ff, vR pa, vR xa, vR na, vI 0] [(.int 0), (.ref xa)])) (fun t k => XS.iload X0.here hx rfl (hb hby d4_15) rfl k) ?_
      obtain ⟨cl4, Ar4, q4, S4, N4, Hs4, G4⟩ := id V_xa
      have hin4 : ¬ ((0 : Int32) < 0 ∨ cl4.slots.size ≤ ((0 : Int32)).toNatClampNeg) := inb_of S4 ⟨by decide, by decide⟩
      have hat4 : cl4.slots[((0 : Int32)).toNatClampNeg]? = some (.int y0) := Hs4.at hin4 rfl
      refine own_by (T' := s₁) (g' := (mkF m 18 #[vI ff, vR pa, vR xa, vR na, vI 0] [(.int y0)])) (fun t k => X0.iaload hx (j := (0 : Int32)) (v := (.int y0)) (by rw [e0]; exact Ar4.1) (State.isArrayOf_alike hZ.alike Ar4.2.1) Ar4.2.2 hin4 hat4 (g := (mkF m 17 #[vI ff, vR pa, vR xa, vR na, vI 0] [(.int 0), (.ref xa)])) rfl rfl (hb hby d4_17) _ k) ?_
      clear hat4 hin4 G4 Hs4 N4 S4 q4 Ar4 cl4
      exact own_retI X0 hx Bd.notSynchronized Bd.returns (hb hby d4_18) (by decide) (by decide) (by rw [e0]; exact ⟨by unfold own_pick; rw [if_neg hc1_1, if_pos hc11_3], N_, rfl⟩)
    · refine own_by (T' := s₁) (g' := (mkF m 19 #[vI ff, vR pa, vR xa, vR na, vI 0] [])) (fun t k => XS.icmpYes X0.here hx rfl (pc0 := 11) (pc' := 19) rfl (hb hby d4_11) rfl (feq hc11_3).2 (by decide) (by decide) k) ?_
      refine own_by (T' := s₁) (g' := (mkF m 20 #[vI ff, vR pa, vR xa, vR na, vI 0] [(.int ff)])) (fun t k => XS.iloadN X0.here hx rfl (hb hby d4_19) rfl k) ?_
      refine own_by (T' := s₁) (g' := (mkF m 21 #[vI ff, vR pa, vR xa, vR na, vI 0] [(.int 2), (.int ff)])) (fun t k => XS.iconst X0.here hx rfl (hb hby d4_20) k) ?_
      by_cases hc21_5 : ff = (2 : Int32)
      · refine own_by (T' := s₁) (g' := (mkF m 24 #[vI ff, vR pa, vR xa, vR na, vI 0] [])) (fun t k => XS.icmpNo X0.here hx rfl (hb hby d4_21) rfl (teq hc21_5).2 k) ?_
        refine own_by (T' := s₁) (g' := (mkF m 25 #[vI ff, vR pa, vR xa, vR na, vI 0] [(.ref xa)])) (fun t k => XS.aloadN X0.here hx rfl (hb hby d4_24) rfl rfl k) ?_
        refine own_by (T' := s₁) (g' := (mkF m 27 #[vI ff, vR pa, vR xa, vR na, vI 0] [(.int 0), (.ref xa)])) (fun t k => XS.iload X0.here hx rfl (hb hby d4_25) rfl k) ?_
        obtain ⟨cl6, Ar6, q6, S6, N6, Hs6, G6⟩ := id V_xa
        have hin6 : ¬ ((0 : Int32) < 0 ∨ cl6.slots.size ≤ ((0 : Int32)).toNatClampNeg) := inb_of S6 ⟨by decide, by decide⟩
        have hat6 : cl6.slots[((0 : Int32)).toNatClampNeg]? = some (.int y0) := Hs6.at hin6 rfl
        refine own_by (T' := s₁) (g' := (mkF m 28 #[vI ff, vR pa, vR xa, vR na, vI 0] [(.int y0)])) (fun t k => X0.iaload hx (j := (0 : Int32)) (v := (.int y0)) (by rw [e0]; exact Ar6.1) (State.isArrayOf_alike hZ.alike Ar6.2.1) Ar6.2.2 hin6 hat6 (g := (mkF m 27 #[vI ff, vR pa, vR xa, vR na, vI 0] [(.int 0), (.ref xa)])) rfl rfl (hb hby d4_27) _ k) ?_
        clear hat6 hin6 G6 Hs6 N6 S6 q6 Ar6 cl6
        refine own_by (T' := s₁) (g' := (mkF m 29 #[vI ff, vR pa, vR xa, vR na, vI 0] [(.int 1), (.int y0)])) (fun t k => XS.iconst X0.here hx rfl (hb hby d4_28) k) ?_
        refine own_by (T' := s₁) (g' := (mkF m 30 #[vI ff, vR pa, vR xa, vR na, vI 0] [(.int (y0 + (1 : Int32)))])) (fun t k => XS.iadd X0.here hx rfl (hb hby d4_29) rfl k) ?_
        exact own_retI X0 hx Bd.notSynchronized Bd.returns (hb hby d4_30) (by decide) (by decide) (by rw [e0]; exact ⟨by unfold own_pick; rw [if_neg hc1_1, if_neg hc11_3, if_pos hc21_5], N_, rfl⟩)
      · refine own_by (T' := s₁) (g' := (mkF m 31 #[vI ff, vR pa, vR xa, vR na, vI 0] [])) (fun t k => XS.icmpYes X0.here hx rfl (pc0 := 21) (pc' := 31) rfl (hb hby d4_21) rfl (feq hc21_5).2 (by decide) (by decide) k) ?_
        refine own_by (T' := s₁) (g' := (mkF m 32 #[vI ff, vR pa, vR xa, vR na, vI 0] [(.ref na)])) (fun t k => XS.aloadN X0.here hx rfl (hb hby d4_31) rfl rfl k) ?_
        refine own_by (T' := s₁) (g' := (mkF m 34 #[vI ff, vR pa, vR xa, vR na, vI 0] [(.int 0), (.ref na)])) (fun t k => XS.iload X0.here hx rfl (hb hby d4_32) rfl k) ?_
        obtain ⟨cl7, Ar7, q7, S7, N7, Hs7, G7⟩ := id V_na
        have hin7 : ¬ ((0 : Int32) < 0 ∨ cl7.slots.size ≤ ((0 : Int32)).toNatClampNeg) := inb_of S7 ⟨by decide, by decide⟩
        have hat7 : cl7.slots[((0 : Int32)).toNatClampNeg]? = some (.int u0) := Hs7.at hin7 rfl
        refine own_by (T' := s₁) (g' := (mkF m 35 #[vI ff, vR pa, vR xa, vR na, vI 0] [(.int u0)])) (fun t k => X0.iaload hx (j := (0 : Int32)) (v := (.int u0)) (by rw [e0]; exact Ar7.1) (State.isArrayOf_alike hZ.alike Ar7.2.1) Ar7.2.2 hin7 hat7 (g := (mkF m 34 #[vI ff, vR pa, vR xa, vR na, vI 0] [(.int 0), (.ref na)])) rfl rfl (hb hby d4_34) _ k) ?_
        clear hat7 hin7 G7 Hs7 N7 S7 q7 Ar7 cl7
        exact own_retI X0 hx Bd.notSynchronized Bd.returns (hb hby d4_35) (by decide) (by decide) (by rw [e0]; exact ⟨by unfold own_pick; rw [if_neg hc1_1, if_neg hc11_3, if_neg hc21_5], N_, rfl⟩)

def Q4_1 (Z : State) (ff : Int32) (pa : Addr) (xa : Addr) (na : Addr) (kp : ClassId) (kx : ClassId) (kn : ClassId) (p0 : Int32) (p1 : Int32) (p2 : Int32) (p3 : Int32) (p4 : Int32) (y0 : Int32) (y1 : Int32) (y2 : Int32) (y3 : Int32) (y4 : Int32) (u0 : Int32) (u1 : Int32) (u2 : Int32) (u3 : Int32) (u4 : Int32) (h0 : Heap) (n0 : Nat) (v : Option Value) (h : Heap) (L : List Loc) : Prop := v = some (.int (own_pick ff p1 y1 u1)) ∧ Fr n0 L ∧ h = h0
theorem ef_4_1 (m : MethodId) (ff : Int32) (pa : Addr) (xa : Addr) (na : Addr) : entryFrame m #[(.int ff), (.ref pa), (.ref xa), (.ref na), (.int 1)] 5 = mkF m 0 #[vI ff, vR pa, vR xa, vR na, vI 1] [] := by first | (simp [entryFrame, mkF, argsToLocals, Value.category]; done) | rfl
set_option maxRecDepth 65536 in
set_option maxHeartbeats 40000000 in
theorem rm4_1 (l : Launch) (Z : State) (a0 : Array Value) (hw : ∀ d ∈ tables_1, d.before a0 Z = true) (ws : List Jvm.Cond) (ff : Int32) (pa : Addr) (xa : Addr) (na : Addr) (kp : ClassId) (kx : ClassId) (kn : ClassId) (p0 : Int32) (p1 : Int32) (p2 : Int32) (p3 : Int32) (p4 : Int32) (y0 : Int32) (y1 : Int32) (y2 : Int32) (y3 : Int32) (y4 : Int32) (u0 : Int32) (u1 : Int32) (u2 : Int32) (u3 : Int32) (u4 : Int32) (h0 : Heap) (n0 : Nat) (Zle : n0 ≤ h0.size) (V_pa : Arv Z h0 pa kp .int (5 : Int32) [(.int p0), (.int p1), (.int p2), (.int p3), (.int p4)] (.int 0)) (V_xa : Arv Z h0 xa kx .int (5 : Int32) [(.int y0), (.int y1), (.int y2), (.int y3), (.int y4)] (.int 0)) (V_na : Arv Z h0 na kn .int (5 : Int32) [(.int u0), (.int u1), (.int u2), (.int u3), (.int u4)] (.int 0)) :
    MetFree l (⟨"com/example/emu/emu/TableFormFromPrefixPinLaw", "pick", "(I[I[I[II)I"⟩ : MethodName) (head1 (Jvm.Cond.code (⟨"com/example/emu/emu/TableFormFromPrefixPinLaw", "pick", "(I[I[I[II)I"⟩ : MethodName) method_4_code 5 (some .int) :: ws) ({ frames := 0, cells := 0, slots := 0, locals := 0 } : Room)) (fun a U => a = #[(.int ff), (.ref pa), (.ref xa), (.ref na), (.int 1)] ∧ Z.Warmed39 U.vm ∧ U.heap = h0) (fun _ _ _ _ _ => True) (fun _ U o U' => ∃ v L, o = .returned v ∧ Q4_1 Z ff pa xa na kp kx kn p0 p1 p2 p3 p4 y0 y1 y2 y3 y4 u0 u1 u2 u3 u4 h0 n0 v U'.heap L ∧ FrameEnd U o U' L ({ frames := 0, cells := 0, slots := 0, locals := 0 } : Room).cells ({ frames := 0, cells := 0, slots := 0, locals := 0 } : Room).slots) := by
  refine MetFree.of_bodySF (plainFor_of_name pn_com_example_emu_emu_TableFormFromPrefixPinLaw) hisR ?_
  intro p e s m args below meth c s₁ Bd hml0 hP hK
  obtain ⟨rfl, hZ, hh⟩ := hP
  have hx := Bd.exec
  have hby := Bd.bytes
  have hml : c.maxLocals = 5 := hml0
  have hown : s.vm.findClass "com/example/emu/emu/TableFormFromPrefixPinLaw" = some m.cls := findClass_of_methodNamed Bd.named
  have hnm := (name_of_methodNamed Bd.named Bd.method).1
  have X0 : Stand p l e ({ frames := 0, cells := 0, slots := 0, locals := 0 } : Room) s m #[(.int ff), (.ref pa), (.ref xa), (.ref na), (.int 1)] below meth c s₁ [] 0 0 := Stand.of_body Bd
  have e0 : s₁.heap = h0 := by rw [← hh, Bd.state]; rfl
  have N_ := Fr.nil n0
  show own_Goes p.tables e below s (Q4_1 Z ff pa xa na kp kx kn p0 p1 p2 p3 p4 y0 y1 y2 y3 y4 u0 u1 u2 u3 u4 h0 n0) ({ frames := 0, cells := 0, slots := 0, locals := 0 } : Room).cells ({ frames := 0, cells := 0, slots := 0, locals := 0 } : Room).slots s₁ (entryFrame m #[(.int ff), (.ref pa), (.ref xa), (.ref na), (.int 1)] 5)
  refine own_by (T' := s₁) (g' := (mkF m 0 #[vI ff, vR pa, vR xa, vR na, vI 1] [])) (fun t k => castTop (ef_4_1 m ff pa xa na) k) ?_
  refine own_by (T' := s₁) (g' := (mkF m 1 #[vI ff, vR pa, vR xa, vR na, vI 1] [(.int ff)])) (fun t k => XS.iloadN X0.here hx rfl (hb hby d4_0) rfl k) ?_
  by_cases hc1_1 : ff = (0 : Int32)
  · refine own_by (T' := s₁) (g' := (mkF m 4 #[vI ff, vR pa, vR xa, vR na, vI 1] [])) (fun t k => XS.ifNo X0.here hx rfl (hb hby d4_1) rfl ((if0 _ _).trans (teq hc1_1).2) k) ?_
    refine own_by (T' := s₁) (g' := (mkF m 5 #[vI ff, vR pa, vR xa, vR na, vI 1] [(.ref pa)])) (fun t k => XS.aloadN X0.here hx rfl (hb hby d4_4) rfl rfl k) ?_
    refine own_by (T' := s₁) (g' := (mkF m 7 #[vI ff, vR pa, vR xa, vR na, vI 1] [(.int 1), (.ref pa)])) (fun t k => XS.iload X0.here hx rfl (hb hby d4_5) rfl k) ?_
    obtain ⟨cl2, Ar2, q2, S2, N2, Hs2, G2⟩ := id V_pa
    have hin2 : ¬ ((1 : Int32) < 0 ∨ cl2.slots.size ≤ ((1 : Int32)).toNatClampNeg) := inb_of S2 ⟨by decide, by decide⟩
    have hat2 : cl2.slots[((1 : Int32)).toNatClampNeg]? = some (.int p1) := Hs2.at hin2 rfl
    refine own_by (T' := s₁) (g' := (mkF m 8 #[vI ff, vR pa, vR xa, vR na, vI 1] [(.int p1)])) (fun t k => X0.iaload hx (j := (1 : Int32)) (v := (.int p1)) (by rw [e0]; exact Ar2.1) (State.isArrayOf_alike hZ.alike Ar2.2.1) Ar2.2.2 hin2 hat2 (g := (mkF m 7 #[vI ff, vR pa, vR xa, vR na, vI 1] [(.int 1), (.ref pa)])) rfl rfl (hb hby d4_7) _ k) ?_
    clear hat2 hin2 G2 Hs2 N2 S2 q2 Ar2 cl2
    exact own_retI X0 hx Bd.notSynchronized Bd.returns (hb hby d4_8) (by decide) (by decide) (by rw [e0]; exact ⟨by unfold own_pick; rw [if_pos hc1_1], N_, rfl⟩)
  · refine own_by (T' := s₁) (g' := (mkF m 9 #[vI ff, vR pa, vR xa, vR na, vI 1] [])) (fun t k => XS.ifYes X0.here hx rfl (pc0 := 1) (pc' := 9) rfl (hb hby d4_1) rfl ((if0 _ _).trans (feq hc1_1).2) (by decide) (by decide) k) ?_
    refine own_by (T' := s₁) (g' := (mkF m 10 #[vI ff, vR pa, vR xa, vR na, vI 1] [(.int ff)])) (fun t k => XS.iloadN X0.here hx rfl (hb hby d4_9) rfl k) ?_
    refine own_by (T' := s₁) (g' := (mkF m 11 #[vI ff, vR pa, vR xa, vR na, vI 1] [(.int 1), (.int ff)])) (fun t k => XS.iconst X0.here hx rfl (hb hby d4_10) k) ?_
    by_cases hc11_3 : ff = (1 : Int32)
    · refine own_by (T' := s₁) (g' := (mkF m 14 #[vI ff, vR pa, vR xa, vR na, vI 1] [])) (fun t k => XS.icmpNo X0.here hx rfl (hb hby d4_11) rfl (teq hc11_3).2 k) ?_
      refine own_by (T' := s₁) (g' := (mkF m 15 #[vI ff, vR pa, vR xa, vR na, vI 1] [(.ref xa)])) (fun t k => XS.aloadN X0.here hx rfl (hb hby d4_14) rfl rfl k) ?_
      refine own_by (T' := s₁) (g' := (mkF m 17 #[vI ff, vR pa, vR xa, vR na, vI 1] [(.int 1), (.ref xa)])) (fun t k => XS.iload X0.here hx rfl (hb hby d4_15) rfl k) ?_
      obtain ⟨cl4, Ar4, q4, S4, N4, Hs4, G4⟩ := id V_xa
      have hin4 : ¬ ((1 : Int32) < 0 ∨ cl4.slots.size ≤ ((1 : Int32)).toNatClampNeg) := inb_of S4 ⟨by decide, by decide⟩
      have hat4 : cl4.slots[((1 : Int32)).toNatClampNeg]? = some (.int y1) := Hs4.at hin4 rfl
      refine own_by (T' := s₁) (g' := (mkF m 18 #[vI ff, vR pa, vR xa, vR na, vI 1] [(.int y1)])) (fun t k => X0.iaload hx (j := (1 : Int32)) (v := (.int y1)) (by rw [e0]; exact Ar4.1) (State.isArrayOf_alike hZ.alike Ar4.2.1) Ar4.2.2 hin4 hat4 (g := (mkF m 17 #[vI ff, vR pa, vR xa, vR na, vI 1] [(.int 1), (.ref xa)])) rfl rfl (hb hby d4_17) _ k) ?_
      clear hat4 hin4 G4 Hs4 N4 S4 q4 Ar4 cl4
      exact own_retI X0 hx Bd.notSynchronized Bd.returns (hb hby d4_18) (by decide) (by decide) (by rw [e0]; exact ⟨by unfold own_pick; rw [if_neg hc1_1, if_pos hc11_3], N_, rfl⟩)
    · refine own_by (T' := s₁) (g' := (mkF m 19 #[vI ff, vR pa, vR xa, vR na, vI 1] [])) (fun t k => XS.icmpYes X0.here hx rfl (pc0 := 11) (pc' := 19) rfl (hb hby d4_11) rfl (feq hc11_3).2 (by decide) (by decide) k) ?_
      refine own_by (T' := s₁) (g' := (mkF m 20 #[vI ff, vR pa, vR xa, vR na, vI 1] [(.int ff)])) (fun t k => XS.iloadN X0.here hx rfl (hb hby d4_19) rfl k) ?_
      refine own_by (T' := s₁) (g' := (mkF m 21 #[vI ff, vR pa, vR xa, vR na, vI 1] [(.int 2), (.int ff)])) (fun t k => XS.iconst X0.here hx rfl (hb hby d4_20) k) ?_
      by_cases hc21_5 : ff = (2 : Int32)
      · refine own_by (T' := s₁) (g' := (mkF m 24 #[vI ff, vR pa, vR xa, vR na, vI 1] [])) (fun t k => XS.icmpNo X0.here hx rfl (hb hby d4_21) rfl (teq hc21_5).2 k) ?_
        refine own_by (T' := s₁) (g' := (mkF m 25 #[vI ff, vR pa, vR xa, vR na, vI 1] [(.ref xa)])) (fun t k => XS.aloadN X0.here hx rfl (hb hby d4_24) rfl rfl k) ?_
        refine own_by (T' := s₁) (g' := (mkF m 27 #[vI ff, vR pa, vR xa, vR na, vI 1] [(.int 1), (.ref xa)])) (fun t k => XS.iload X0.here hx rfl (hb hby d4_25) rfl k) ?_
        obtain ⟨cl6, Ar6, q6, S6, N6, Hs6, G6⟩ := id V_xa
        have hin6 : ¬ ((1 : Int32) < 0 ∨ cl6.slots.size ≤ ((1 : Int32)).toNatClampNeg) := inb_of S6 ⟨by decide, by decide⟩
        have hat6 : cl6.slots[((1 : Int32)).toNatClampNeg]? = some (.int y1) := Hs6.at hin6 rfl
        refine own_by (T' := s₁) (g' := (mkF m 28 #[vI ff, vR pa, vR xa, vR na, vI 1] [(.int y1)])) (fun t k => X0.iaload hx (j := (1 : Int32)) (v := (.int y1)) (by rw [e0]; exact Ar6.1) (State.isArrayOf_alike hZ.alike Ar6.2.1) Ar6.2.2 hin6 hat6 (g := (mkF m 27 #[vI ff, vR pa, vR xa, vR na, vI 1] [(.int 1), (.ref xa)])) rfl rfl (hb hby d4_27) _ k) ?_
        clear hat6 hin6 G6 Hs6 N6 S6 q6 Ar6 cl6
        refine own_by (T' := s₁) (g' := (mkF m 29 #[vI ff, vR pa, vR xa, vR na, vI 1] [(.int 1), (.int y1)])) (fun t k => XS.iconst X0.here hx rfl (hb hby d4_28) k) ?_
        refine own_by (T' := s₁) (g' := (mkF m 30 #[vI ff, vR pa, vR xa, vR na, vI 1] [(.int (y1 + (1 : Int32)))])) (fun t k => XS.iadd X0.here hx rfl (hb hby d4_29) rfl k) ?_
        exact own_retI X0 hx Bd.notSynchronized Bd.returns (hb hby d4_30) (by decide) (by decide) (by rw [e0]; exact ⟨by unfold own_pick; rw [if_neg hc1_1, if_neg hc11_3, if_pos hc21_5], N_, rfl⟩)
      · refine own_by (T' := s₁) (g' := (mkF m 31 #[vI ff, vR pa, vR xa, vR na, vI 1] [])) (fun t k => XS.icmpYes X0.here hx rfl (pc0 := 21) (pc' := 31) rfl (hb hby d4_21) rfl (feq hc21_5).2 (by decide) (by decide) k) ?_
        refine own_by (T' := s₁) (g' := (mkF m 32 #[vI ff, vR pa, vR xa, vR na, vI 1] [(.ref na)])) (fun t k => XS.aloadN X0.here hx rfl (hb hby d4_31) rfl rfl k) ?_
        refine own_by (T' := s₁) (g' := (mkF m 34 #[vI ff, vR pa, vR xa, vR na, vI 1] [(.int 1), (.ref na)])) (fun t k => XS.iload X0.here hx rfl (hb hby d4_32) rfl k) ?_
        obtain ⟨cl7, Ar7, q7, S7, N7, Hs7, G7⟩ := id V_na
        have hin7 : ¬ ((1 : Int32) < 0 ∨ cl7.slots.size ≤ ((1 : Int32)).toNatClampNeg) := inb_of S7 ⟨by decide, by decide⟩
        have hat7 : cl7.slots[((1 : Int32)).toNatClampNeg]? = some (.int u1) := Hs7.at hin7 rfl
        refine own_by (T' := s₁) (g' := (mkF m 35 #[vI ff, vR pa, vR xa, vR na, vI 1] [(.int u1)])) (fun t k => X0.iaload hx (j := (1 : Int32)) (v := (.int u1)) (by rw [e0]; exact Ar7.1) (State.isArrayOf_alike hZ.alike Ar7.2.1) Ar7.2.2 hin7 hat7 (g := (mkF m 34 #[vI ff, vR pa, vR xa, vR na, vI 1] [(.int 1), (.ref na)])) rfl rfl (hb hby d4_34) _ k) ?_
        clear hat7 hin7 G7 Hs7 N7 S7 q7 Ar7 cl7
        exact own_retI X0 hx Bd.notSynchronized Bd.returns (hb hby d4_35) (by decide) (by decide) (by rw [e0]; exact ⟨by unfold own_pick; rw [if_neg hc1_1, if_neg hc11_3, if_neg hc21_5], N_, rfl⟩)

def Q4_2 (Z : State) (ff : Int32) (pa : Addr) (xa : Addr) (na : Addr) (kp : ClassId) (kx : ClassId) (kn : ClassId) (p0 : Int32) (p1 : Int32) (p2 : Int32) (p3 : Int32) (p4 : Int32) (y0 : Int32) (y1 : Int32) (y2 : Int32) (y3 : Int32) (y4 : Int32) (u0 : Int32) (u1 : Int32) (u2 : Int32) (u3 : Int32) (u4 : Int32) (h0 : Heap) (n0 : Nat) (v : Option Value) (h : Heap) (L : List Loc) : Prop := v = some (.int (own_pick ff p2 y2 u2)) ∧ Fr n0 L ∧ h = h0
theorem ef_4_2 (m : MethodId) (ff : Int32) (pa : Addr) (xa : Addr) (na : Addr) : entryFrame m #[(.int ff), (.ref pa), (.ref xa), (.ref na), (.int 2)] 5 = mkF m 0 #[vI ff, vR pa, vR xa, vR na, vI 2] [] := by first | (simp [entryFrame, mkF, argsToLocals, Value.category]; done) | rfl
set_option maxRecDepth 65536 in
set_option maxHeartbeats 40000000 in
theorem rm4_2 (l : Launch) (Z : State) (a0 : Array Value) (hw : ∀ d ∈ tables_1, d.before a0 Z = true) (ws : List Jvm.Cond) (ff : Int32) (pa : Addr) (xa : Addr) (na : Addr) (kp : ClassId) (kx : ClassId) (kn : ClassId) (p0 : Int32) (p1 : Int32) (p2 : Int32) (p3 : Int32) (p4 : Int32) (y0 : Int32) (y1 : Int32) (y2 : Int32) (y3 : Int32) (y4 : Int32) (u0 : Int32) (u1 : Int32) (u2 : Int32) (u3 : Int32) (u4 : Int32) (h0 : Heap) (n0 : Nat) (Zle : n0 ≤ h0.size) (V_pa : Arv Z h0 pa kp .int (5 : Int32) [(.int p0), (.int p1), (.int p2), (.int p3), (.int p4)] (.int 0)) (V_xa : Arv Z h0 xa kx .int (5 : Int32) [(.int y0), (.int y1), (.int y2), (.int y3), (.int y4)] (.int 0)) (V_na : Arv Z h0 na kn .int (5 : Int32) [(.int u0), (.int u1), (.int u2), (.int u3), (.int u4)] (.int 0)) :
    MetFree l (⟨"com/example/emu/emu/TableFormFromPrefixPinLaw", "pick", "(I[I[I[II)I"⟩ : MethodName) (head1 (Jvm.Cond.code (⟨"com/example/emu/emu/TableFormFromPrefixPinLaw", "pick", "(I[I[I[II)I"⟩ : MethodName) method_4_code 5 (some .int) :: ws) ({ frames := 0, cells := 0, slots := 0, locals := 0 } : Room)) (fun a U => a = #[(.int ff), (.ref pa), (.ref xa), (.ref na), (.int 2)] ∧ Z.Warmed39 U.vm ∧ U.heap = h0) (fun _ _ _ _ _ => True) (fun _ U o U' => ∃ v L, o = .returned v ∧ Q4_2 Z ff pa xa na kp kx kn p0 p1 p2 p3 p4 y0 y1 y2 y3 y4 u0 u1 u2 u3 u4 h0 n0 v U'.heap L ∧ FrameEnd U o U' L ({ frames := 0, cells := 0, slots := 0, locals := 0 } : Room).cells ({ frames := 0, cells := 0, slots := 0, locals := 0 } : Room).slots) := by
  refine MetFree.of_bodySF (plainFor_of_name pn_com_example_emu_emu_TableFormFromPrefixPinLaw) hisR ?_
  intro p e s m args below meth c s₁ Bd hml0 hP hK
  obtain ⟨rfl, hZ, hh⟩ := hP
  have hx := Bd.exec
  have hby := Bd.bytes
  have hml : c.maxLocals = 5 := hml0
  have hown : s.vm.findClass "com/example/emu/emu/TableFormFromPrefixPinLaw" = some m.cls := findClass_of_methodNamed Bd.named
  have hnm := (name_of_methodNamed Bd.named Bd.method).1
  have X0 : Stand p l e ({ frames := 0, cells := 0, slots := 0, locals := 0 } : Room) s m #[(.int ff), (.ref pa), (.ref xa), (.ref na), (.int 2)] below meth c s₁ [] 0 0 := Stand.of_body Bd
  have e0 : s₁.heap = h0 := by rw [← hh, Bd.state]; rfl
  have N_ := Fr.nil n0
  show own_Goes p.tables e below s (Q4_2 Z ff pa xa na kp kx kn p0 p1 p2 p3 p4 y0 y1 y2 y3 y4 u0 u1 u2 u3 u4 h0 n0) ({ frames := 0, cells := 0, slots := 0, locals := 0 } : Room).cells ({ frames := 0, cells := 0, slots := 0, locals := 0 } : Room).slots s₁ (entryFrame m #[(.int ff), (.ref pa), (.ref xa), (.ref na), (.int 2)] 5)
  refine own_by (T' := s₁) (g' := (mkF m 0 #[vI ff, vR pa, vR xa, vR na, vI 2] [])) (fun t k => castTop (ef_4_2 m ff pa xa na) k) ?_
  refine own_by (T' := s₁) (g' := (mkF m 1 #[vI ff, vR pa, vR xa, vR na, vI 2] [(.int ff)])) (fun t k => XS.iloadN X0.here hx rfl (hb hby d4_0) rfl k) ?_
  by_cases hc1_1 : ff = (0 : Int32)
  · refine own_by (T' := s₁) (g' := (mkF m 4 #[vI ff, vR pa, vR xa, vR na, vI 2] [])) (fun t k => XS.ifNo X0.here hx rfl (hb hby d4_1) rfl ((if0 _ _).trans (teq hc1_1).2) k) ?_
    refine own_by (T' := s₁) (g' := (mkF m 5 #[vI ff, vR pa, vR xa, vR na, vI 2] [(.ref pa)])) (fun t k => XS.aloadN X0.here hx rfl (hb hby d4_4) rfl rfl k) ?_
    refine own_by (T' := s₁) (g' := (mkF m 7 #[vI ff, vR pa, vR xa, vR na, vI 2] [(.int 2), (.ref pa)])) (fun t k => XS.iload X0.here hx rfl (hb hby d4_5) rfl k) ?_
    obtain ⟨cl2, Ar2, q2, S2, N2, Hs2, G2⟩ := id V_pa
    have hin2 : ¬ ((2 : Int32) < 0 ∨ cl2.slots.size ≤ ((2 : Int32)).toNatClampNeg) := inb_of S2 ⟨by decide, by decide⟩
    have hat2 : cl2.slots[((2 : Int32)).toNatClampNeg]? = some (.int p2) := Hs2.at hin2 rfl
    refine own_by (T' := s₁) (g' := (mkF m 8 #[vI ff, vR pa, vR xa, vR na, vI 2] [(.int p2)])) (fun t k => X0.iaload hx (j := (2 : Int32)) (v := (.int p2)) (by rw [e0]; exact Ar2.1) (State.isArrayOf_alike hZ.alike Ar2.2.1) Ar2.2.2 hin2 hat2 (g := (mkF m 7 #[vI ff, vR pa, vR xa, vR na, vI 2] [(.int 2), (.ref pa)])) rfl rfl (hb hby d4_7) _ k) ?_
    clear hat2 hin2 G2 Hs2 N2 S2 q2 Ar2 cl2
    exact own_retI X0 hx Bd.notSynchronized Bd.returns (hb hby d4_8) (by decide) (by decide) (by rw [e0]; exact ⟨by unfold own_pick; rw [if_pos hc1_1], N_, rfl⟩)
  · refine own_by (T' := s₁) (g' := (mkF m 9 #[vI ff, vR pa, vR xa, vR na, vI 2] [])) (fun t k => XS.ifYes X0.here hx rfl (pc0 := 1) (pc' := 9) rfl (hb hby d4_1) rfl ((if0 _ _).trans (feq hc1_1).2) (by decide) (by decide) k) ?_
    refine own_by (T' := s₁) (g' := (mkF m 10 #[vI ff, vR pa, vR xa, vR na, vI 2] [(.int ff)])) (fun t k => XS.iloadN X0.here hx rfl (hb hby d4_9) rfl k) ?_
    refine own_by (T' := s₁) (g' := (mkF m 11 #[vI ff, vR pa, vR xa, vR na, vI 2] [(.int 1), (.int ff)])) (fun t k => XS.iconst X0.here hx rfl (hb hby d4_10) k) ?_
    by_cases hc11_3 : ff = (1 : Int32)
    · refine own_by (T' := s₁) (g' := (mkF m 14 #[vI ff, vR pa, vR xa, vR na, vI 2] [])) (fun t k => XS.icmpNo X0.here hx rfl (hb hby d4_11) rfl (teq hc11_3).2 k) ?_
      refine own_by (T' := s₁) (g' := (mkF m 15 #[vI ff, vR pa, vR xa, vR na, vI 2] [(.ref xa)])) (fun t k => XS.aloadN X0.here hx rfl (hb hby d4_14) rfl rfl k) ?_
      refine own_by (T' := s₁) (g' := (mkF m 17 #[vI ff, vR pa, vR xa, vR na, vI 2] [(.int 2), (.ref xa)])) (fun t k => XS.iload X0.here hx rfl (hb hby d4_15) rfl k) ?_
      obtain ⟨cl4, Ar4, q4, S4, N4, Hs4, G4⟩ := id V_xa
      have hin4 : ¬ ((2 : Int32) < 0 ∨ cl4.slots.size ≤ ((2 : Int32)).toNatClampNeg) := inb_of S4 ⟨by decide, by decide⟩
      have hat4 : cl4.slots[((2 : Int32)).toNatClampNeg]? = some (.int y2) := Hs4.at hin4 rfl
      refine own_by (T' := s₁) (g' := (mkF m 18 #[vI ff, vR pa, vR xa, vR na, vI 2] [(.int y2)])) (fun t k => X0.iaload hx (j := (2 : Int32)) (v := (.int y2)) (by rw [e0]; exact Ar4.1) (State.isArrayOf_alike hZ.alike Ar4.2.1) Ar4.2.2 hin4 hat4 (g := (mkF m 17 #[vI ff, vR pa, vR xa, vR na, vI 2] [(.int 2), (.ref xa)])) rfl rfl (hb hby d4_17) _ k) ?_
      clear hat4 hin4 G4 Hs4 N4 S4 q4 Ar4 cl4
      exact own_retI X0 hx Bd.notSynchronized Bd.returns (hb hby d4_18) (by decide) (by decide) (by rw [e0]; exact ⟨by unfold own_pick; rw [if_neg hc1_1, if_pos hc11_3], N_, rfl⟩)
    · refine own_by (T' := s₁) (g' := (mkF m 19 #[vI ff, vR pa, vR xa, vR na, vI 2] [])) (fun t k => XS.icmpYes X0.here hx rfl (pc0 := 11) (pc' := 19) rfl (hb hby d4_11) rfl (feq hc11_3).2 (by decide) (by decide) k) ?_
      refine own_by (T' := s₁) (g' := (mkF m 20 #[vI ff, vR pa, vR xa, vR na, vI 2] [(.int ff)])) (fun t k => XS.iloadN X0.here hx rfl (hb hby d4_19) rfl k) ?_
      refine own_by (T' := s₁) (g' := (mkF m 21 #[vI ff, vR pa, vR xa, vR na, vI 2] [(.int 2), (.int ff)])) (fun t k => XS.iconst X0.here hx rfl (hb hby d4_20) k) ?_
      by_cases hc21_5 : ff = (2 : Int32)
      · refine own_by (T' := s₁) (g' := (mkF m 24 #[vI ff, vR pa, vR xa, vR na, vI 2] [])) (fun t k => XS.icmpNo X0.here hx rfl (hb hby d4_21) rfl (teq hc21_5).2 k) ?_
        refine own_by (T' := s₁) (g' := (mkF m 25 #[vI ff, vR pa, vR xa, vR na, vI 2] [(.ref xa)])) (fun t k => XS.aloadN X0.here hx rfl (hb hby d4_24) rfl rfl k) ?_
        refine own_by (T' := s₁) (g' := (mkF m 27 #[vI ff, vR pa, vR xa, vR na, vI 2] [(.int 2), (.ref xa)])) (fun t k => XS.iload X0.here hx rfl (hb hby d4_25) rfl k) ?_
        obtain ⟨cl6, Ar6, q6, S6, N6, Hs6, G6⟩ := id V_xa
        have hin6 : ¬ ((2 : Int32) < 0 ∨ cl6.slots.size ≤ ((2 : Int32)).toNatClampNeg) := inb_of S6 ⟨by decide, by decide⟩
        have hat6 : cl6.slots[((2 : Int32)).toNatClampNeg]? = some (.int y2) := Hs6.at hin6 rfl
        refine own_by (T' := s₁) (g' := (mkF m 28 #[vI ff, vR pa, vR xa, vR na, vI 2] [(.int y2)])) (fun t k => X0.iaload hx (j := (2 : Int32)) (v := (.int y2)) (by rw [e0]; exact Ar6.1) (State.isArrayOf_alike hZ.alike Ar6.2.1) Ar6.2.2 hin6 hat6 (g := (mkF m 27 #[vI ff, vR pa, vR xa, vR na, vI 2] [(.int 2), (.ref xa)])) rfl rfl (hb hby d4_27) _ k) ?_
        clear hat6 hin6 G6 Hs6 N6 S6 q6 Ar6 cl6
        refine own_by (T' := s₁) (g' := (mkF m 29 #[vI ff, vR pa, vR xa, vR na, vI 2] [(.int 1), (.int y2)])) (fun t k => XS.iconst X0.here hx rfl (hb hby d4_28) k) ?_
        refine own_by (T' := s₁) (g' := (mkF m 30 #[vI ff, vR pa, vR xa, vR na, vI 2] [(.int (y2 + (1 : Int32)))])) (fun t k => XS.iadd X0.here hx rfl (hb hby d4_29) rfl k) ?_
        exact own_retI X0 hx Bd.notSynchronized Bd.returns (hb hby d4_30) (by decide) (by decide) (by rw [e0]; exact ⟨by unfold own_pick; rw [if_neg hc1_1, if_neg hc11_3, if_pos hc21_5], N_, rfl⟩)
      · refine own_by (T' := s₁) (g' := (mkF m 31 #[vI ff, vR pa, vR xa, vR na, vI 2] [])) (fun t k => XS.icmpYes X0.here hx rfl (pc0 := 21) (pc' := 31) rfl (hb hby d4_21) rfl (feq hc21_5).2 (by decide) (by decide) k) ?_
        refine own_by (T' := s₁) (g' := (mkF m 32 #[vI ff, vR pa, vR xa, vR na, vI 2] [(.ref na)])) (fun t k => XS.aloadN X0.here hx rfl (hb hby d4_31) rfl rfl k) ?_
        refine own_by (T' := s₁) (g' := (mkF m 34 #[vI ff, vR pa, vR xa, vR na, vI 2] [(.int 2), (.ref na)])) (fun t k => XS.iload X0.here hx rfl (hb hby d4_32) rfl k) ?_
        obtain ⟨cl7, Ar7, q7, S7, N7, Hs7, G7⟩ := id V_na
        have hin7 : ¬ ((2 : Int32) < 0 ∨ cl7.slots.size ≤ ((2 : Int32)).toNatClampNeg) := inb_of S7 ⟨by decide, by decide⟩
        have hat7 : cl7.slots[((2 : Int32)).toNatClampNeg]? = some (.int u2) := Hs7.at hin7 rfl
        refine own_by (T' := s₁) (g' := (mkF m 35 #[vI ff, vR pa, vR xa, vR na, vI 2] [(.int u2)])) (fun t k => X0.iaload hx (j := (2 : Int32)) (v := (.int u2)) (by rw [e0]; exact Ar7.1) (State.isArrayOf_alike hZ.alike Ar7.2.1) Ar7.2.2 hin7 hat7 (g := (mkF m 34 #[vI ff, vR pa, vR xa, vR na, vI 2] [(.int 2), (.ref na)])) rfl rfl (hb hby d4_34) _ k) ?_
        clear hat7 hin7 G7 Hs7 N7 S7 q7 Ar7 cl7
        exact own_retI X0 hx Bd.notSynchronized Bd.returns (hb hby d4_35) (by decide) (by decide) (by rw [e0]; exact ⟨by unfold own_pick; rw [if_neg hc1_1, if_neg hc11_3, if_neg hc21_5], N_, rfl⟩)

def Q4_3 (Z : State) (ff : Int32) (pa : Addr) (xa : Addr) (na : Addr) (kp : ClassId) (kx : ClassId) (kn : ClassId) (p0 : Int32) (p1 : Int32) (p2 : Int32) (p3 : Int32) (p4 : Int32) (y0 : Int32) (y1 : Int32) (y2 : Int32) (y3 : Int32) (y4 : Int32) (u0 : Int32) (u1 : Int32) (u2 : Int32) (u3 : Int32) (u4 : Int32) (h0 : Heap) (n0 : Nat) (v : Option Value) (h : Heap) (L : List Loc) : Prop := v = some (.int (own_pick ff p3 y3 u3)) ∧ Fr n0 L ∧ h = h0
theorem ef_4_3 (m : MethodId) (ff : Int32) (pa : Addr) (xa : Addr) (na : Addr) : entryFrame m #[(.int ff), (.ref pa), (.ref xa), (.ref na), (.int 3)] 5 = mkF m 0 #[vI ff, vR pa, vR xa, vR na, vI 3] [] := by first | (simp [entryFrame, mkF, argsToLocals, Value.category]; done) | rfl
set_option maxRecDepth 65536 in
set_option maxHeartbeats 40000000 in
theorem rm4_3 (l : Launch) (Z : State) (a0 : Array Value) (hw : ∀ d ∈ tables_1, d.before a0 Z = true) (ws : List Jvm.Cond) (ff : Int32) (pa : Addr) (xa : Addr) (na : Addr) (kp : ClassId) (kx : ClassId) (kn : ClassId) (p0 : Int32) (p1 : Int32) (p2 : Int32) (p3 : Int32) (p4 : Int32) (y0 : Int32) (y1 : Int32) (y2 : Int32) (y3 : Int32) (y4 : Int32) (u0 : Int32) (u1 : Int32) (u2 : Int32) (u3 : Int32) (u4 : Int32) (h0 : Heap) (n0 : Nat) (Zle : n0 ≤ h0.size) (V_pa : Arv Z h0 pa kp .int (5 : Int32) [(.int p0), (.int p1), (.int p2), (.int p3), (.int p4)] (.int 0)) (V_xa : Arv Z h0 xa kx .int (5 : Int32) [(.int y0), (.int y1), (.int y2), (.int y3), (.int y4)] (.int 0)) (V_na : Arv Z h0 na kn .int (5 : Int32) [(.int u0), (.int u1), (.int u2), (.int u3), (.int u4)] (.int 0)) :
    MetFree l (⟨"com/example/emu/emu/TableFormFromPrefixPinLaw", "pick", "(I[I[I[II)I"⟩ : MethodName) (head1 (Jvm.Cond.code (⟨"com/example/emu/emu/TableFormFromPrefixPinLaw", "pick", "(I[I[I[II)I"⟩ : MethodName) method_4_code 5 (some .int) :: ws) ({ frames := 0, cells := 0, slots := 0, locals := 0 } : Room)) (fun a U => a = #[(.int ff), (.ref pa), (.ref xa), (.ref na), (.int 3)] ∧ Z.Warmed39 U.vm ∧ U.heap = h0) (fun _ _ _ _ _ => True) (fun _ U o U' => ∃ v L, o = .returned v ∧ Q4_3 Z ff pa xa na kp kx kn p0 p1 p2 p3 p4 y0 y1 y2 y3 y4 u0 u1 u2 u3 u4 h0 n0 v U'.heap L ∧ FrameEnd U o U' L ({ frames := 0, cells := 0, slots := 0, locals := 0 } : Room).cells ({ frames := 0, cells := 0, slots := 0, locals := 0 } : Room).slots) := by
  refine MetFree.of_bodySF (plainFor_of_name pn_com_example_emu_emu_TableFormFromPrefixPinLaw) hisR ?_
  intro p e s m args below meth c s₁ Bd hml0 hP hK
  obtain ⟨rfl, hZ, hh⟩ := hP
  have hx := Bd.exec
  have hby := Bd.bytes
  have hml : c.maxLocals = 5 := hml0
  have hown : s.vm.findClass "com/example/emu/emu/TableFormFromPrefixPinLaw" = some m.cls := findClass_of_methodNamed Bd.named
  have hnm := (name_of_methodNamed Bd.named Bd.method).1
  have X0 : Stand p l e ({ frames := 0, cells := 0, slots := 0, locals := 0 } : Room) s m #[(.int ff), (.ref pa), (.ref xa), (.ref na), (.int 3)] below meth c s₁ [] 0 0 := Stand.of_body Bd
  have e0 : s₁.heap = h0 := by rw [← hh, Bd.state]; rfl
  have N_ := Fr.nil n0
  show own_Goes p.tables e below s (Q4_3 Z ff pa xa na kp kx kn p0 p1 p2 p3 p4 y0 y1 y2 y3 y4 u0 u1 u2 u3 u4 h0 n0) ({ frames := 0, cells := 0, slots := 0, locals := 0 } : Room).cells ({ frames := 0, cells := 0, slots := 0, locals := 0 } : Room).slots s₁ (entryFrame m #[(.int ff), (.ref pa), (.ref xa), (.ref na), (.int 3)] 5)
  refine own_by (T' := s₁) (g' := (mkF m 0 #[vI ff, vR pa, vR xa, vR na, vI 3] [])) (fun t k => castTop (ef_4_3 m ff pa xa na) k) ?_
  refine own_by (T' := s₁) (g' := (mkF m 1 #[vI ff, vR pa, vR xa, vR na, vI 3] [(.int ff)])) (fun t k => XS.iloadN X0.here hx rfl (hb hby d4_0) rfl k) ?_
  by_cases hc1_1 : ff = (0 : Int32)
  · refine own_by (T' := s₁) (g' := (mkF m 4 #[vI ff, vR pa, vR xa, vR na, vI 3] [])) (fun t k => XS.ifNo X0.here hx rfl (hb hby d4_1) rfl ((if0 _ _).trans (teq hc1_1).2) k) ?_
    refine own_by (T' := s₁) (g' := (mkF m 5 #[vI ff, vR pa, vR xa, vR na, vI 3] [(.ref pa)])) (fun t k => XS.aloadN X0.here hx rfl (hb hby d4_4) rfl rfl k) ?_
    refine own_by (T' := s₁) (g' := (mkF m 7 #[vI ff, vR pa, vR xa, vR na, vI 3] [(.int 3), (.ref pa)])) (fun t k => XS.iload X0.here hx rfl (hb hby d4_5) rfl k) ?_
    obtain ⟨cl2, Ar2, q2, S2, N2, Hs2, G2⟩ := id V_pa
    have hin2 : ¬ ((3 : Int32) < 0 ∨ cl2.slots.size ≤ ((3 : Int32)).toNatClampNeg) := inb_of S2 ⟨by decide, by decide⟩
    have hat2 : cl2.slots[((3 : Int32)).toNatClampNeg]? = some (.int p3) := Hs2.at hin2 rfl
    refine own_by (T' := s₁) (g' := (mkF m 8 #[vI ff, vR pa, vR xa, vR na, vI 3] [(.int p3)])) (fun t k => X0.iaload hx (j := (3 : Int32)) (v := (.int p3)) (by rw [e0]; exact Ar2.1) (State.isArrayOf_alike hZ.alike Ar2.2.1) Ar2.2.2 hin2 hat2 (g := (mkF m 7 #[vI ff, vR pa, vR xa, vR na, vI 3] [(.int 3), (.ref pa)])) rfl rfl (hb hby d4_7) _ k) ?_
    clear hat2 hin2 G2 Hs2 N2 S2 q2 Ar2 cl2
    exact own_retI X0 hx Bd.notSynchronized Bd.returns (hb hby d4_8) (by decide) (by decide) (by rw [e0]; exact ⟨by unfold own_pick; rw [if_pos hc1_1], N_, rfl⟩)
  · refine own_by (T' := s₁) (g' := (mkF m 9 #[vI ff, vR pa, vR xa, vR na, vI 3] [])) (fun t k => XS.ifYes X0.here hx rfl (pc0 := 1) (pc' := 9) rfl (hb hby d4_1) rfl ((if0 _ _).trans (feq hc1_1).2) (by decide) (by decide) k) ?_
    refine own_by (T' := s₁) (g' := (mkF m 10 #[vI ff, vR pa, vR xa, vR na, vI 3] [(.int ff)])) (fun t k => XS.iloadN X0.here hx rfl (hb hby d4_9) rfl k) ?_
    refine own_by (T' := s₁) (g' := (mkF m 11 #[vI ff, vR pa, vR xa, vR na, vI 3] [(.int 1), (.int ff)])) (fun t k => XS.iconst X0.here hx rfl (hb hby d4_10) k) ?_
    by_cases hc11_3 : ff = (1 : Int32)
    · refine own_by (T' := s₁) (g' := (mkF m 14 #[vI ff, vR pa, vR xa, vR na, vI 3] [])) (fun t k => XS.icmpNo X0.here hx rfl (hb hby d4_11) rfl (teq hc11_3).2 k) ?_
      refine own_by (T' := s₁) (g' := (mkF m 15 #[vI ff, vR pa, vR xa, vR na, vI 3] [(.ref xa)])) (fun t k => XS.aloadN X0.here hx rfl (hb hby d4_14) rfl rfl k) ?_
      refine own_by (T' := s₁) (g' := (mkF m 17 #[vI ff, vR pa, vR xa, vR na, vI 3] [(.int 3), (.ref xa)])) (fun t k => XS.iload X0.here hx rfl (hb hby d4_15) rfl k) ?_
      obtain ⟨cl4, Ar4, q4, S4, N4, Hs4, G4⟩ := id V_xa
      have hin4 : ¬ ((3 : Int32) < 0 ∨ cl4.slots.size ≤ ((3 : Int32)).toNatClampNeg) := inb_of S4 ⟨by decide, by decide⟩
      have hat4 : cl4.slots[((3 : Int32)).toNatClampNeg]? = some (.int y3) := Hs4.at hin4 rfl
      refine own_by (T' := s₁) (g' := (mkF m 18 #[vI ff, vR pa, vR xa, vR na, vI 3] [(.int y3)])) (fun t k => X0.iaload hx (j := (3 : Int32)) (v := (.int y3)) (by rw [e0]; exact Ar4.1) (State.isArrayOf_alike hZ.alike Ar4.2.1) Ar4.2.2 hin4 hat4 (g := (mkF m 17 #[vI ff, vR pa, vR xa, vR na, vI 3] [(.int 3), (.ref xa)])) rfl rfl (hb hby d4_17) _ k) ?_
      clear hat4 hin4 G4 Hs4 N4 S4 q4 Ar4 cl4
      exact own_retI X0 hx Bd.notSynchronized Bd.returns (hb hby d4_18) (by decide) (by decide) (by rw [e0]; exact ⟨by unfold own_pick; rw [if_neg hc1_1, if_pos hc11_3], N_, rfl⟩)
    · refine own_by (T' := s₁) (g' := (mkF m 19 #[vI ff, vR pa, vR xa, vR na, vI 3] [])) (fun t k => XS.icmpYes X0.here hx rfl (pc0 := 11) (pc' := 19) rfl (hb hby d4_11) rfl (feq hc11_3).2 (by decide) (by decide) k) ?_
      refine own_by (T' := s₁) (g' := (mkF m 20 #[vI ff, vR pa, vR xa, vR na, vI 3] [(.int ff)])) (fun t k => XS.iloadN X0.here hx rfl (hb hby d4_19) rfl k) ?_
      refine own_by (T' := s₁) (g' := (mkF m 21 #[vI ff, vR pa, vR xa, vR na, vI 3] [(.int 2), (.int ff)])) (fun t k => XS.iconst X0.here hx rfl (hb hby d4_20) k) ?_
      by_cases hc21_5 : ff = (2 : Int32)
      · refine own_by (T' := s₁) (g' := (mkF m 24 #[vI ff, vR pa, vR xa, vR na, vI 3] [])) (fun t k => XS.icmpNo X0.here hx rfl (hb hby d4_21) rfl (teq hc21_5).2 k) ?_
        refine own_by (T' := s₁) (g' := (mkF m 25 #[vI ff, vR pa, vR xa, vR na, vI 3] [(.ref xa)])) (fun t k => XS.aloadN X0.here hx rfl (hb hby d4_24) rfl rfl k) ?_
        refine own_by (T' := s₁) (g' := (mkF m 27 #[vI ff, vR pa, vR xa, vR na, vI 3] [(.int 3), (.ref xa)])) (fun t k => XS.iload X0.here hx rfl (hb hby d4_25) rfl k) ?_
        obtain ⟨cl6, Ar6, q6, S6, N6, Hs6, G6⟩ := id V_xa
        have hin6 : ¬ ((3 : Int32) < 0 ∨ cl6.slots.size ≤ ((3 : Int32)).toNatClampNeg) := inb_of S6 ⟨by decide, by decide⟩
        have hat6 : cl6.slots[((3 : Int32)).toNatClampNeg]? = some (.int y3) := Hs6.at hin6 rfl
        refine own_by (T' := s₁) (g' := (mkF m 28 #[vI ff, vR pa, vR xa, vR na, vI 3] [(.int y3)])) (fun t k => X0.iaload hx (j := (3 : Int32)) (v := (.int y3)) (by rw [e0]; exact Ar6.1) (State.isArrayOf_alike hZ.alike Ar6.2.1) Ar6.2.2 hin6 hat6 (g := (mkF m 27 #[vI ff, vR pa, vR xa, vR na, vI 3] [(.int 3), (.ref xa)])) rfl rfl (hb hby d4_27) _ k) ?_
        clear hat6 hin6 G6 Hs6 N6 S6 q6 Ar6 cl6
        refine own_by (T' := s₁) (g' := (mkF m 29 #[vI ff, vR pa, vR xa, vR na, vI 3] [(.int 1), (.int y3)])) (fun t k => XS.iconst X0.here hx rfl (hb hby d4_28) k) ?_
        refine own_by (T' := s₁) (g' := (mkF m 30 #[vI ff, vR pa, vR xa, vR na, vI 3] [(.int (y3 + (1 : Int32)))])) (fun t k => XS.iadd X0.here hx rfl (hb hby d4_29) rfl k) ?_
        exact own_retI X0 hx Bd.notSynchronized Bd.returns (hb hby d4_30) (by decide) (by decide) (by rw [e0]; exact ⟨by unfold own_pick; rw [if_neg hc1_1, if_neg hc11_3, if_pos hc21_5], N_, rfl⟩)
      · refine own_by (T' := s₁) (g' := (mkF m 31 #[vI ff, vR pa, vR xa, vR na, vI 3] [])) (fun t k => XS.icmpYes X0.here hx rfl (pc0 := 21) (pc' := 31) rfl (hb hby d4_21) rfl (feq hc21_5).2 (by decide) (by decide) k) ?_
        refine own_by (T' := s₁) (g' := (mkF m 32 #[vI ff, vR pa, vR xa, vR na, vI 3] [(.ref na)])) (fun t k => XS.aloadN X0.here hx rfl (hb hby d4_31) rfl rfl k) ?_
        refine own_by (T' := s₁) (g' := (mkF m 34 #[vI ff, vR pa, vR xa, vR na, vI 3] [(.int 3), (.ref na)])) (fun t k => XS.iload X0.here hx rfl (hb hby d4_32) rfl k) ?_
        obtain ⟨cl7, Ar7, q7, S7, N7, Hs7, G7⟩ := id V_na
        have hin7 : ¬ ((3 : Int32) < 0 ∨ cl7.slots.size ≤ ((3 : Int32)).toNatClampNeg) := inb_of S7 ⟨by decide, by decide⟩
        have hat7 : cl7.slots[((3 : Int32)).toNatClampNeg]? = some (.int u3) := Hs7.at hin7 rfl
        refine own_by (T' := s₁) (g' := (mkF m 35 #[vI ff, vR pa, vR xa, vR na, vI 3] [(.int u3)])) (fun t k => X0.iaload hx (j := (3 : Int32)) (v := (.int u3)) (by rw [e0]; exact Ar7.1) (State.isArrayOf_alike hZ.alike Ar7.2.1) Ar7.2.2 hin7 hat7 (g := (mkF m 34 #[vI ff, vR pa, vR xa, vR na, vI 3] [(.int 3), (.ref na)])) rfl rfl (hb hby d4_34) _ k) ?_
        clear hat7 hin7 G7 Hs7 N7 S7 q7 Ar7 cl7
        exact own_retI X0 hx Bd.notSynchronized Bd.returns (hb hby d4_35) (by decide) (by decide) (by rw [e0]; exact ⟨by unfold own_pick; rw [if_neg hc1_1, if_neg hc11_3, if_neg hc21_5], N_, rfl⟩)

def Q4_4 (Z : State) (ff : Int32) (pa : Addr) (xa : Addr) (na : Addr) (kp : ClassId) (kx : ClassId) (kn : ClassId) (p0 : Int32) (p1 : Int32) (p2 : Int32) (p3 : Int32) (p4 : Int32) (y0 : Int32) (y1 : Int32) (y2 : Int32) (y3 : Int32) (y4 : Int32) (u0 : Int32) (u1 : Int32) (u2 : Int32) (u3 : Int32) (u4 : Int32) (h0 : Heap) (n0 : Nat) (v : Option Value) (h : Heap) (L : List Loc) : Prop := v = some (.int (own_pick ff p4 y4 u4)) ∧ Fr n0 L ∧ h = h0
theorem ef_4_4 (m : MethodId) (ff : Int32) (pa : Addr) (xa : Addr) (na : Addr) : entryFrame m #[(.int ff), (.ref pa), (.ref xa), (.ref na), (.int 4)] 5 = mkF m 0 #[vI ff, vR pa, vR xa, vR na, vI 4] [] := by first | (simp [entryFrame, mkF, argsToLocals, Value.category]; done) | rfl
set_option maxRecDepth 65536 in
set_option maxHeartbeats 40000000 in
theorem rm4_4 (l : Launch) (Z : State) (a0 : Array Value) (hw : ∀ d ∈ tables_1, d.before a0 Z = true) (ws : List Jvm.Cond) (ff : Int32) (pa : Addr) (xa : Addr) (na : Addr) (kp : ClassId) (kx : ClassId) (kn : ClassId) (p0 : Int32) (p1 : Int32) (p2 : Int32) (p3 : Int32) (p4 : Int32) (y0 : Int32) (y1 : Int32) (y2 : Int32) (y3 : Int32) (y4 : Int32) (u0 : Int32) (u1 : Int32) (u2 : Int32) (u3 : Int32) (u4 : Int32) (h0 : Heap) (n0 : Nat) (Zle : n0 ≤ h0.size) (V_pa : Arv Z h0 pa kp .int (5 : Int32) [(.int p0), (.int p1), (.int p2), (.int p3), (.int p4)] (.int 0)) (V_xa : Arv Z h0 xa kx .int (5 : Int32) [(.int y0), (.int y1), (.int y2), (.int y3), (.int y4)] (.int 0)) (V_na : Arv Z h0 na kn .int (5 : Int32) [(.int u0), (.int u1), (.int u2), (.int u3), (.int u4)] (.int 0)) :
    MetFree l (⟨"com/example/emu/emu/TableFormFromPrefixPinLaw", "pick", "(I[I[I[II)I"⟩ : MethodName) (head1 (Jvm.Cond.code (⟨"com/example/emu/emu/TableFormFromPrefixPinLaw", "pick", "(I[I[I[II)I"⟩ : MethodName) method_4_code 5 (some .int) :: ws) ({ frames := 0, cells := 0, slots := 0, locals := 0 } : Room)) (fun a U => a = #[(.int ff), (.ref pa), (.ref xa), (.ref na), (.int 4)] ∧ Z.Warmed39 U.vm ∧ U.heap = h0) (fun _ _ _ _ _ => True) (fun _ U o U' => ∃ v L, o = .returned v ∧ Q4_4 Z ff pa xa na kp kx kn p0 p1 p2 p3 p4 y0 y1 y2 y3 y4 u0 u1 u2 u3 u4 h0 n0 v U'.heap L ∧ FrameEnd U o U' L ({ frames := 0, cells := 0, slots := 0, locals := 0 } : Room).cells ({ frames := 0, cells := 0, slots := 0, locals := 0 } : Room).slots) := by
  refine MetFree.of_bodySF (plainFor_of_name pn_com_example_emu_emu_TableFormFromPrefixPinLaw) hisR ?_
  intro p e s m args below meth c s₁ Bd hml0 hP hK
  obtain ⟨rfl, hZ, hh⟩ := hP
  have hx := Bd.exec
  have hby := Bd.bytes
  have hml : c.maxLocals = 5 := hml0
  have hown : s.vm.findClass "com/example/emu/emu/TableFormFromPrefixPinLaw" = some m.cls := findClass_of_methodNamed Bd.named
  have hnm := (name_of_methodNamed Bd.named Bd.method).1
  have X0 : Stand p l e ({ frames := 0, cells := 0, slots := 0, locals := 0 } : Room) s m #[(.int ff), (.ref pa), (.ref xa), (.ref na), (.int 4)] below meth c s₁ [] 0 0 := Stand.of_body Bd
  have e0 : s₁.heap = h0 := by rw [← hh, Bd.state]; rfl
  have N_ := Fr.nil n0
  show own_Goes p.tables e below s (Q4_4 Z ff pa xa na kp kx kn p0 p1 p2 p3 p4 y0 y1 y2 y3 y4 u0 u1 u2 u3 u4 h0 n0) ({ frames := 0, cells := 0, slots := 0, locals := 0 } : Room).cells ({ frames := 0, cells := 0, slots := 0, locals := 0 } : Room).slots s₁ (entryFrame m #[(.int ff), (.ref pa), (.ref xa), (.ref na), (.int 4)] 5)
  refine own_by (T' := s₁) (g' := (mkF m 0 #[vI ff, vR pa, vR xa, vR na, vI 4] [])) (fun t k => castTop (ef_4_4 m ff pa xa na) k) ?_
  refine own_by (T' := s₁) (g' := (mkF m 1 #[vI ff, vR pa, vR xa, vR na, vI 4] [(.int ff)])) (fun t k => XS.iloadN X0.here hx rfl (hb hby d4_0) rfl k) ?_
  by_cases hc1_1 : ff = (0 : Int32)
  · refine own_by (T' := s₁) (g' := (mkF m 4 #[vI ff, vR pa, vR xa, vR na, vI 4] [])) (fun t k => XS.ifNo X0.here hx rfl (hb hby d4_1) rfl ((if0 _ _).trans (teq hc1_1).2) k) ?_
    refine own_by (T' := s₁) (g' := (mkF m 5 #[vI ff, vR pa, vR xa, vR na, vI 4] [(.ref pa)])) (fun t k => XS.aloadN X0.here hx rfl (hb hby d4_4) rfl rfl k) ?_
    refine own_by (T' := s₁) (g' := (mkF m 7 #[vI ff, vR pa, vR xa, vR na, vI 4] [(.int 4), (.ref pa)])) (fun t k => XS.iload X0.here hx rfl (hb hby d4_5) rfl k) ?_
    obtain ⟨cl2, Ar2, q2, S2, N2, Hs2, G2⟩ := id V_pa
    have hin2 : ¬ ((4 : Int32) < 0 ∨ cl2.slots.size ≤ ((4 : Int32)).toNatClampNeg) := inb_of S2 ⟨by decide, by decide⟩
    have hat2 : cl2.slots[((4 : Int32)).toNatClampNeg]? = some (.int p4) := Hs2.at hin2 rfl
    refine own_by (T' := s₁) (g' := (mkF m 8 #[vI ff, vR pa, vR xa, vR na, vI 4] [(.int p4)])) (fun t k => X0.iaload hx (j := (4 : Int32)) (v := (.int p4)) (by rw [e0]; exact Ar2.1) (State.isArrayOf_alike hZ.alike Ar2.2.1) Ar2.2.2 hin2 hat2 (g := (mkF m 7 #[vI ff, vR pa, vR xa, vR na, vI 4] [(.int 4), (.ref pa)])) rfl rfl (hb hby d4_7) _ k) ?_
    clear hat2 hin2 G2 Hs2 N2 S2 q2 Ar2 cl2
    exact own_retI X0 hx Bd.notSynchronized Bd.returns (hb hby d4_8) (by decide) (by decide) (by rw [e0]; exact ⟨by unfold own_pick; rw [if_pos hc1_1], N_, rfl⟩)
  · refine own_by (T' := s₁) (g' := (mkF m 9 #[vI ff, vR pa, vR xa, vR na, vI 4] [])) (fun t k => XS.ifYes X0.here hx rfl (pc0 := 1) (pc' := 9) rfl (hb hby d4_1) rfl ((if0 _ _).trans (feq hc1_1).2) (by decide) (by decide) k) ?_
    refine own_by (T' := s₁) (g' := (mkF m 10 #[vI ff, vR pa, vR xa, vR na, vI 4] [(.int ff)])) (fun t k => XS.iloadN X0.here hx rfl (hb hby d4_9) rfl k) ?_
    refine own_by (T' := s₁) (g' := (mkF m 11 #[vI ff, vR pa, vR xa, vR na, vI 4] [(.int 1), (.int ff)])) (fun t k => XS.iconst X0.here hx rfl (hb hby d4_10) k) ?_
    by_cases hc11_3 : ff = (1 : Int32)
    · refine own_by (T' := s₁) (g' := (mkF m 14 #[vI ff, vR pa, vR xa, vR na, vI 4] [])) (fun t k => XS.icmpNo X0.here hx rfl (hb hby d4_11) rfl (teq hc11_3).2 k) ?_
      refine own_by (T' := s₁) (g' := (mkF m 15 #[vI ff, vR pa, vR xa, vR na, vI 4] [(.ref xa)])) (fun t k => XS.aloadN X0.here hx rfl (hb hby d4_14) rfl rfl k) ?_
      refine own_by (T' := s₁) (g' := (mkF m 17 #[vI ff, vR pa, vR xa, vR na, vI 4] [(.int 4), (.ref xa)])) (fun t k => XS.iload X0.here hx rfl (hb hby d4_15) rfl k) ?_
      obtain ⟨cl4, Ar4, q4, S4, N4, Hs4, G4⟩ := id V_xa
      have hin4 : ¬ ((4 : Int32) < 0 ∨ cl4.slots.size ≤ ((4 : Int32)).toNatClampNeg) := inb_of S4 ⟨by decide, by decide⟩
      have hat4 : cl4.slots[((4 : Int32)).toNatClampNeg]? = some (.int y4) := Hs4.at hin4 rfl
      refine own_by (T' := s₁) (g' := (mkF m 18 #[vI ff, vR pa, vR xa, vR na, vI 4] [(.int y4)])) (fun t k => X0.iaload hx (j := (4 : Int32)) (v := (.int y4)) (by rw [e0]; exact Ar4.1) (State.isArrayOf_alike hZ.alike Ar4.2.1) Ar4.2.2 hin4 hat4 (g := (mkF m 17 #[vI ff, vR pa, vR xa, vR na, vI 4] [(.int 4), (.ref xa)])) rfl rfl (hb hby d4_17) _ k) ?_
      clear hat4 hin4 G4 Hs4 N4 S4 q4 Ar4 cl4
      exact own_retI X0 hx Bd.notSynchronized Bd.returns (hb hby d4_18) (by decide) (by decide) (by rw [e0]; exact ⟨by unfold own_pick; rw [if_neg hc1_1, if_pos hc11_3], N_, rfl⟩)
    · refine own_by (T' := s₁) (g' := (mkF m 19 #[vI ff, vR pa, vR xa, vR na, vI 4] [])) (fun t k => XS.icmpYes X0.here hx rfl (pc0 := 11) (pc' := 19) rfl (hb hby d4_11) rfl (feq hc11_3).2 (by decide) (by decide) k) ?_
      refine own_by (T' := s₁) (g' := (mkF m 20 #[vI ff, vR pa, vR xa, vR na, vI 4] [(.int ff)])) (fun t k => XS.iloadN X0.here hx rfl (hb hby d4_19) rfl k) ?_
      refine own_by (T' := s₁) (g' := (mkF m 21 #[vI ff, vR pa, vR xa, vR na, vI 4] [(.int 2), (.int ff)])) (fun t k => XS.iconst X0.here hx rfl (hb hby d4_20) k) ?_
      by_cases hc21_5 : ff = (2 : Int32)
      · refine own_by (T' := s₁) (g' := (mkF m 24 #[vI ff, vR pa, vR xa, vR na, vI 4] [])) (fun t k => XS.icmpNo X0.here hx rfl (hb hby d4_21) rfl (teq hc21_5).2 k) ?_
        refine own_by (T' := s₁) (g' := (mkF m 25 #[vI ff, vR pa, vR xa, vR na, vI 4] [(.ref xa)])) (fun t k => XS.aloadN X0.here hx rfl (hb hby d4_24) rfl rfl k) ?_
        refine own_by (T' := s₁) (g' := (mkF m 27 #[vI ff, vR pa, vR xa, vR na, vI 4] [(.int 4), (.ref xa)])) (fun t k => XS.iload X0.here hx rfl (hb hby d4_25) rfl k) ?_
        obtain ⟨cl6, Ar6, q6, S6, N6, Hs6, G6⟩ := id V_xa
        have hin6 : ¬ ((4 : Int32) < 0 ∨ cl6.slots.size ≤ ((4 : Int32)).toNatClampNeg) := inb_of S6 ⟨by decide, by decide⟩
        have hat6 : cl6.slots[((4 : Int32)).toNatClampNeg]? = some (.int y4) := Hs6.at hin6 rfl
        refine own_by (T' := s₁) (g' := (mkF m 28 #[vI ff, vR pa, vR xa, vR na, vI 4] [(.int y4)])) (fun t k => X0.iaload hx (j := (4 : Int32)) (v := (.int y4)) (by rw [e0]; exact Ar6.1) (State.isArrayOf_alike hZ.alike Ar6.2.1) Ar6.2.2 hin6 hat6 (g := (mkF m 27 #[vI ff, vR pa, vR xa, vR na, vI 4] [(.int 4), (.ref xa)])) rfl rfl (hb hby d4_27) _ k) ?_
        clear hat6 hin6 G6 Hs6 N6 S6 q6 Ar6 cl6
        refine own_by (T' := s₁) (g' := (mkF m 29 #[vI ff, vR pa, vR xa, vR na, vI 4] [(.int 1), (.int y4)])) (fun t k => XS.iconst X0.here hx rfl (hb hby d4_28) k) ?_
        refine own_by (T' := s₁) (g' := (mkF m 30 #[vI ff, vR pa, vR xa, vR na, vI 4] [(.int (y4 + (1 : Int32)))])) (fun t k => XS.iadd X0.here hx rfl (hb hby d4_29) rfl k) ?_
        exact own_retI X0 hx Bd.notSynchronized Bd.returns (hb hby d4_30) (by decide) (by decide) (by rw [e0]; exact ⟨by unfold own_pick; rw [if_neg hc1_1, if_neg hc11_3, if_pos hc21_5], N_, rfl⟩)
      · refine own_by (T' := s₁) (g' := (mkF m 31 #[vI ff, vR pa, vR xa, vR na, vI 4] [])) (fun t k => XS.icmpYes X0.here hx rfl (pc0 := 21) (pc' := 31) rfl (hb hby d4_21) rfl (feq hc21_5).2 (by decide) (by decide) k) ?_
        refine own_by (T' := s₁) (g' := (mkF m 32 #[vI ff, vR pa, vR xa, vR na, vI 4] [(.ref na)])) (fun t k => XS.aloadN X0.here hx rfl (hb hby d4_31) rfl rfl k) ?_
        refine own_by (T' := s₁) (g' := (mkF m 34 #[vI ff, vR pa, vR xa, vR na, vI 4] [(.int 4), (.ref na)])) (fun t k => XS.iload X0.here hx rfl (hb hby d4_32) rfl k) ?_
        obtain ⟨cl7, Ar7, q7, S7, N7, Hs7, G7⟩ := id V_na
        have hin7 : ¬ ((4 : Int32) < 0 ∨ cl7.slots.size ≤ ((4 : Int32)).toNatClampNeg) := inb_of S7 ⟨by decide, by decide⟩
        have hat7 : cl7.slots[((4 : Int32)).toNatClampNeg]? = some (.int u4) := Hs7.at hin7 rfl
        refine own_by (T' := s₁) (g' := (mkF m 35 #[vI ff, vR pa, vR xa, vR na, vI 4] [(.int u4)])) (fun t k => X0.iaload hx (j := (4 : Int32)) (v := (.int u4)) (by rw [e0]; exact Ar7.1) (State.isArrayOf_alike hZ.alike Ar7.2.1) Ar7.2.2 hin7 hat7 (g := (mkF m 34 #[vI ff, vR pa, vR xa, vR na, vI 4] [(.int 4), (.ref na)])) rfl rfl (hb hby d4_34) _ k) ?_
        clear hat7 hin7 G7 Hs7 N7 S7 q7 Ar7 cl7
        exact own_retI X0 hx Bd.notSynchronized Bd.returns (hb hby d4_35) (by decide) (by decide) (by rw [e0]; exact ⟨by unfold own_pick; rw [if_neg hc1_1, if_neg hc11_3, if_neg hc21_5], N_, rfl⟩)

def Q7 (Z : State) (ob : Addr) (kk : Int32) (h0 : Heap) (n0 : Nat) (v : Option Value) (h : Heap) (L : List Loc) : Prop := v = some (.int kk) ∧ Fr n0 L ∧ h = h0
theorem pn_java_lang_Enum : plainName "java/lang/Enum" = true := by first | (simp [plainName, overriddenIn]; done) | decide +kernel
theorem ef_7 (m : MethodId) (ob : Addr) : entryFrame m #[(.ref ob)] 1 = mkF m 0 #[vR ob] [] := by first | (simp [entryFrame, mkF, argsToLocals, Value.category]; done) | rfl
theorem d7_0 : decode jdk_37_method_2_code 0 = .ok (.aload_n 0, 1) := by decide +kernel
theorem d7_1 : decode jdk_37_method_2_code 1 = .ok (.getfield 7, 3) := by decide +kernel
theorem d7_4 : decode jdk_37_method_2_code 4 = .ok (.ireturn, 1) := by decide +kernel
set_option maxRecDepth 65536 in
set_option maxHeartbeats 40000000 in
theorem rm7 (l : Launch) (Z : State) (a0 : Array Value) (hw : ∀ d ∈ tables_1, d.before a0 Z = true) (ws : List Jvm.Cond) (ob : Addr) (kk : Int32) (h0 : Heap) (n0 : Nat) (Zle : n0 ≤ h0.size) (F_ordinal_ob : Fld Z h0 ob "java/lang/Enum" "ordinal" "I" (.int kk)) :
    MetFree l (⟨"java/lang/Enum", "ordinal", "()I"⟩ : MethodName) (head1 (Jvm.Cond.code (⟨"java/lang/Enum", "ordinal", "()I"⟩ : MethodName) jdk_37_method_2_code 1 (some .int) :: ws) ({ frames := 0, cells := 0, slots := 0, locals := 0 } : Room)) (fun a U => a = #[(.ref ob)] ∧ Z.Warmed39 U.vm ∧ U.heap = h0) (fun _ _ _ _ _ => True) (fun _ U o U' => ∃ v L, o = .returned v ∧ Q7 Z ob kk h0 n0 v U'.heap L ∧ FrameEnd U o U' L ({ frames := 0, cells := 0, slots := 0, locals := 0 } : Room).cells ({ frames := 0, cells := 0, slots := 0, locals := 0 } : Room).slots) := by
  refine MetFree.of_bodySF (plainFor_of_name pn_java_lang_Enum) hisR ?_
  intro p e s m args below meth c s₁ Bd hml0 hP hK
  obtain ⟨rfl, hZ, hh⟩ := hP
  have hx := Bd.exec
  have hby := Bd.bytes
  have hml : c.maxLocals = 1 := hml0
  have hown : s.vm.findClass "java/lang/Enum" = some m.cls := findClass_of_methodNamed Bd.named
  have hnm := (name_of_methodNamed Bd.named Bd.method).1
  have X0 : Stand p l e ({ frames := 0, cells := 0, slots := 0, locals := 0 } : Room) s m #[(.ref ob)] below meth c s₁ [] 0 0 := Stand.of_body Bd
  have e0 : s₁.heap = h0 := by rw [← hh, Bd.state]; rfl
  have N_ := Fr.nil n0
  show own_Goes p.tables e below s (Q7 Z ob kk h0 n0) ({ frames := 0, cells := 0, slots := 0, locals := 0 } : Room).cells ({ frames := 0, cells := 0, slots := 0, locals := 0 } : Room).slots s₁ (entryFrame m #[(.ref ob)] 1)
  refine own_by (T' := s₁) (g' := (mkF m 0 #[vR ob] [])) (fun t k => castTop (ef_7 m ob) k) ?_
  refine own_by (T' := s₁) (g' := (mkF m 1 #[vR ob] [(.ref ob)])) (fun t k => XS.aloadN X0.here hx rfl (hb hby d7_0) rfl rfl k) ?_
  obtain ⟨T1, X1, e1, st1⟩ := getF X0 hx hZ hown (host := "") (Or.inl (hw _ (own_m 33 rfl))) Via.refl e0 F_ordinal_ob (g := (mkF m 1 #[vR ob] [(.ref ob)])) rfl rfl (hb hby d7_1)
  refine own_by (T' := T1) (g' := (mkF m 4 #[vR ob] [(.int kk)])) (fun t k => st1 t k) ?_
  clear st1 X0 e0
  exact own_retI X1 hx Bd.notSynchronized Bd.returns (hb hby d7_4) (by decide) (by decide) (by rw [e1]; exact ⟨rfl, N_, rfl⟩)

def Q6_0 (Z : State) (ob : Addr) (pa : Addr) (ta : Addr) (nn : Int32) (kk : Int32) (kp : ClassId) (kt : ClassId) (p0 : Int32) (p1 : Int32) (p2 : Int32) (p3 : Int32) (p4 : Int32) (g0 : Int32) (g1 : Int32) (g2 : Int32) (g3 : Int32) (g4 : Int32) (h0 : Heap) (n0 : Nat) (v : Option Value) (h : Heap) (L : List Loc) : Prop := v = some (.int (own_ev0 kk p0)) ∧ Fr n0 L ∧ h = h0
theorem pn_com_example_emu_emu_TableForm : plainName "com/example/emu/emu/TableForm" = true := by first | (simp [plainName, overriddenIn]; done) | decide +kernel
theorem ef_6_0 (m : MethodId) (ob : Addr) (pa : Addr) (ta : Addr) : entryFrame m #[(.ref ob), (.ref pa), (.ref ta), (.int 0)] 6 = mkF m 0 #[vR ob, vR pa, vR ta, vI 0, .unset, .unset] [] := by first | (simp [entryFrame, mkF, argsToLocals, Value.category]; done) | rfl
theorem d6_0 : decode prog_24_method_5_code 0 = .ok (.iload_n 3, 1) := by decide +kernel
theorem d6_1 : decode prog_24_method_5_code 1 = .ok (.ifCond .ne 7, 3) := by decide +kernel
theorem d6_4 : decode prog_24_method_5_code 4 = .ok (.iconst (-1), 1) := by decide +kernel
theorem d6_5 : decode prog_24_method_5_code 5 = .ok (.goto 8, 3) := by decide +kernel
theorem d6_13 : decode prog_24_method_5_code 13 = .ok (.istore 4, 2) := by decide +kernel
theorem d6_15 : decode prog_24_method_5_code 15 = .ok (.iload_n 3, 1) := by decide +kernel
theorem d6_16 : decode prog_24_method_5_code 16 = .ok (.ifCond .le 17, 3) := by decide +kernel
theorem d6_33 : decode prog_24_method_5_code 33 = .ok (.iconst 0, 1) := by decide +kernel
theorem d6_34 : decode prog_24_method_5_code 34 = .ok (.istore 5, 2) := by decide +kernel
theorem d6_36 : decode prog_24_method_5_code 36 = .ok (.aload_n 0, 1) := by decide +kernel
theorem d6_37 : decode prog_24_method_5_code 37 = .ok (.invokevirtual 39, 3) := by decide +kernel
theorem pd_6 : parseMethodDescriptor "()I" = some ⟨[], some .int⟩ := by decide +kernel
theorem d6_40 : decode prog_24_method_5_code 40 = .ok (.tableswitch 32 0 3 #[42, 48, 53, 60], 32) := by decide +kernel
theorem d6_82 : decode prog_24_method_5_code 82 = .ok (.aload_n 1, 1) := by decide +kernel
theorem d6_83 : decode prog_24_method_5_code 83 = .ok (.iload_n 3, 1) := by decide +kernel
theorem d6_84 : decode prog_24_method_5_code 84 = .ok (.iaload, 1) := by decide +kernel
theorem d6_85 : decode prog_24_method_5_code 85 = .ok (.goto 29, 3) := by decide +kernel
theorem d6_114 : decode prog_24_method_5_code 114 = .ok (.ireturn, 1) := by decide +kernel
theorem d6_88 : decode prog_24_method_5_code 88 = .ok (.iload 4, 2) := by decide +kernel
theorem d6_90 : decode prog_24_method_5_code 90 = .ok (.goto 24, 3) := by decide +kernel
theorem d6_93 : decode prog_24_method_5_code 93 = .ok (.iload 4, 2) := by decide +kernel
theorem d6_95 : decode prog_24_method_5_code 95 = .ok (.iconst 1, 1) := by decide +kernel
theorem d6_96 : decode prog_24_method_5_code 96 = .ok (.iadd, 1) := by decide +kernel
theorem d6_97 : decode prog_24_method_5_code 97 = .ok (.goto 17, 3) := by decide +kernel
theorem d6_100 : decode prog_24_method_5_code 100 = .ok (.iload 5, 2) := by decide +kernel
theorem d6_102 : decode prog_24_method_5_code 102 = .ok (.ifCond .eq 10, 3) := by decide +kernel
theorem d6_112 : decode prog_24_method_5_code 112 = .ok (.iload 4, 2) := by decide +kernel
set_option maxRecDepth 65536 in
set_option maxHeartbeats 40000000 in
theorem rm6_0 (l : Launch) (Z : State) (a0 : Array Value) (hw : ∀ d ∈ tables_1, d.before a0 Z = true) (ws : List Jvm.Cond) (ob : Addr) (pa : Addr) (ta : Addr) (nn : Int32) (kk : Int32) (kp : ClassId) (kt : ClassId) (p0 : Int32) (p1 : Int32) (p2 : Int32) (p3 : Int32) (p4 : Int32) (g0 : Int32) (g1 : Int32) (g2 : Int32) (g3 : Int32) (g4 : Int32) (h0 : Heap) (n0 : Nat) (Zle : n0 ≤ h0.size) (E_ob : Exa Z h0 ob "com/example/emu/emu/TableForm") (F_ordinal_ob : Fld Z h0 ob "java/lang/Enum" "ordinal" "I" (.int kk)) (V_pa : Arv Z h0 pa kp .int nn [(.int p0), (.int p1), (.int p2), (.int p3), (.int p4)] (.int 0)) (V_ta : Arv Z h0 ta kt .int nn [(.int g0), (.int g1), (.int g2), (.int g3), (.int g4)] (.int 0)) (hj : (0 : Int32) < nn) (hkk : kk = 0 ∨ kk = 1 ∨ kk = 2 ∨ kk = 3) :
    MetFree l (⟨"com/example/emu/emu/TableForm", "entry", "([I[II)I"⟩ : MethodName) (head1 (Jvm.Cond.code (⟨"com/example/emu/emu/TableForm", "entry", "([I[II)I"⟩ : MethodName) prog_24_method_5_code 6 (some .int) :: ws) ({ frames := 1, cells := 0, slots := 0, locals := 12 } : Room)) (fun a U => a = #[(.ref ob), (.ref pa), (.ref ta), (.int 0)] ∧ Z.Warmed39 U.vm ∧ U.heap = h0) (fun _ _ _ _ _ => True) (fun _ U o U' => ∃ v L, o = .returned v ∧ Q6_0 Z ob pa ta nn kk kp kt p0 p1 p2 p3 p4 g0 g1 g2 g3 g4 h0 n0 v U'.heap L ∧ FrameEnd U o U' L ({ frames := 1, cells := 0, slots := 0, locals := 12 } : Room).cells ({ frames := 1, cells := 0, slots := 0, locals := 12 } : Room).slots) := by
  refine MetFree.of_bodySF (plainFor_of_name pn_com_example_emu_emu_TableForm) hisR ?_
  intro p e s m args below meth c s₁ Bd hml0 hP hK
  obtain ⟨rfl, hZ, hh⟩ := hP
  have hx := Bd.exec
  have hby := Bd.bytes
  have hml : c.maxLocals = 6 := hml0
  have hown : s.vm.findClass "com/example/emu/emu/TableForm" = some m.cls := findClass_of_methodNamed Bd.named
  have hnm := (name_of_methodNamed Bd.named Bd.method).1
  have X0 : Stand p l e ({ frames := 1, cells := 0, slots := 0, locals := 12 } : Room) s m #[(.ref ob), (.ref pa), (.ref ta), (.int 0)] below meth c s₁ [] 0 0 := Stand.of_body Bd
  have e0 : s₁.heap = h0 := by rw [← hh, Bd.state]; rfl
  have N_ := Fr.nil n0
  show own_Goes p.tables e below s (Q6_0 Z ob pa ta nn kk kp kt p0 p1 p2 p3 p4 g0 g1 g2 g3 g4 h0 n0) ({ frames := 1, cells := 0, slots := 0, locals := 12 } : Room).cells ({ frames := 1, cells := 0, slots := 0, locals := 12 } : Room).slots s₁ (entryFrame m #[(.ref ob), (.ref pa), (.ref ta), (.int 0)] 6)
  refine own_by (T' := s₁) (g' := (mkF m 0 #[vR ob, vR pa, vR ta, vI 0, .unset, .unset] [])) (fun t k => castTop (ef_6_0 m ob pa ta) k) ?_
  refine own_by (T' := s₁) (g' := (mkF m 1 #[vR ob, vR pa, vR ta, vI 0, .unset, .unset] [(.int 0)])) (fun t k => XS.iloadN X0.here hx rfl (hb hby d6_0) rfl k) ?_
  refine own_by (T' := s₁) (g' := (mkF m 4 #[vR ob, vR pa, vR ta, vI 0, .unset, .unset] [])) (fun t k => XS.ifNo X0.here hx rfl (hb hby d6_1) rfl ((if0 _ _).trans (teq (by decide)).2) k) ?_
  refine own_by (T' := s₁) (g' := (mkF m 5 #[vR ob, vR pa, vR ta, vI 0, .unset, .unset] [(.int (-1))])) (fun t k => XS.iconst X0.here hx rfl (hb hby d6_4) k) ?_
  refine own_by (T' := s₁) (g' := (mkF m 13 #[vR ob, vR pa, vR ta, vI 0, .unset, .unset] [(.int (-1))])) (fun t k => XS.goto X0.here hx rfl (pc0 := 5) (pc' := 13) rfl (hb hby d6_5) (by decide) (by decide) k) ?_
  refine own_by (T' := s₁) (g' := (mkF m 15 #[vR ob, vR pa, vR ta, vI 0, vI (-1), .unset] [])) (fun t k => XS.istore X0.here hx rfl (hb hby d6_13) rfl (l' := #[vR ob, vR pa, vR ta, vI 0, vI (-1), .unset]) rfl k) ?_
  refine own_by (T' := s₁) (g' := (mkF m 16 #[vR ob, vR pa, vR ta, vI 0, vI (-1), .unset] [(.int 0)])) (fun t k => XS.iloadN X0.here hx rfl (hb hby d6_15) rfl k) ?_
  refine own_by (T' := s₁) (g' := (mkF m 33 #[vR ob, vR pa, vR ta, vI 0, vI (-1), .unset] [])) (fun t k => XS.ifYes X0.here hx rfl (pc0 := 16) (pc' := 33) rfl (hb hby d6_16) rfl ((if0 _ _).trans (flt (by decide)).2.2.2) (by decide) (by decide) k) ?_
  refine own_by (T' := s₁) (g' := (mkF m 34 #[vR ob, vR pa, vR ta, vI 0, vI (-1), .unset] [(.int 0)])) (fun t k => XS.iconst X0.here hx rfl (hb hby d6_33) k) ?_
  refine own_by (T' := s₁) (g' := (mkF m 36 #[vR ob, vR pa, vR ta, vI 0, vI (-1), vI 0] [])) (fun t k => XS.istore X0.here hx rfl (hb hby d6_34) rfl (l' := #[vR ob, vR pa, vR ta, vI 0, vI (-1), vI 0]) rfl k) ?_
  refine own_by (T' := s₁) (g' := (mkF m 37 #[vR ob, vR pa, vR ta, vI 0, vI (-1), vI 0] [(.ref ob)])) (fun t k => XS.aloadN X0.here hx rfl (hb hby d6_36) rfl rfl k) ?_
  obtain ⟨cq1, kq1, q1a, q1b, q1c⟩ := isOf hZ e0 E_ob
  obtain ⟨_, _, ⟨T1, L1, k1, n1⟩, -, X1, ⟨Lc1, hQ1, l1, y1, z1⟩, st1⟩ := X0.virtualBackUp hx (x := (⟨"com/example/emu/emu/TableForm", "ordinal", "()I"⟩ : MethodName)) (y := (⟨"java/lang/Enum", "ordinal", "()I"⟩ : MethodName)) (owner := "java/lang/Enum") hown (mvT hZ (hw _ (own_m 26 rfl))) (mvT hZ (hw _ (own_m 27 rfl))) (mvT hZ (hw _ (own_m 28 rfl))) (by decide) (mvT hZ (hw _ (own_m 30 rfl))) (mvT hZ (hw _ (own_m 29 rfl))) (backOf (W := 0) (rm7 l Z a0 hw [] ob kk h0 n0 Zle F_ordinal_ob) hZ (hw _ (own_m 32 rfl)) (hw _ (own_m 31 rfl)) (by decide) (by decide)) q1a q1c (g := (mkF m 37 #[vR ob, vR pa, vR ta, vI 0, vI (-1), vI 0] [(.ref ob)])) rfl (by rw [hml]; rfl) (Steps.refl _) (argsL := []) (rest := []) (lenOf pd_6 rfl) rfl (own_le rfl) (hb hby d6_37) (fun _ _ => ⟨rfl, e0, (by decide : 0 + 0 ≤ _), (by decide : 0 + 0 ≤ _)⟩)
  dsimp only [Pt.U, Pt.locs, Pt.cells, Pt.slots] at X1 l1 y1 z1 st1 hQ1
  subst l1 y1 z1
  obtain ⟨rfl, Nq1, e1⟩ := hQ1
  replace N_ := Fr.app N_ Nq1
  clear Nq1
  refine own_by (T' := T1) (g' := (mkF m 40 #[vR ob, vR pa, vR ta, vI 0, vI (-1), vI 0] [(.int kk)])) (fun t k => st1.trans k) ?_
  clear st1 X0 e0
  rcases hkk with rfl | rfl | rfl | rfl
  · refine own_by (T' := T1) (g' := (mkF m 82 #[vR ob, vR pa, vR ta, vI 0, vI (-1), vI 0] [])) (fun t k => XS.tswIn X1.here hx rfl (pc0 := 40) (pc' := 82) rfl (hb hby d6_40) rfl (by decide) (o := 42) (by first | rfl | decide) (by decide) (by decide) k) ?_
    refine own_by (T' := T1) (g' := (mkF m 83 #[vR ob, vR pa, vR ta, vI 0, vI (-1), vI 0] [(.ref pa)])) (fun t k => XS.aloadN X1.here hx rfl (hb hby d6_82) rfl rfl k) ?_
    refine own_by (T' := T1) (g' := (mkF m 84 #[vR ob, vR pa, vR ta, vI 0, vI (-1), vI 0] [(.int 0), (.ref pa)])) (fun t k => XS.iloadN X1.here hx rfl (hb hby d6_83) rfl k) ?_
    obtain ⟨cl2, Ar2, q2, S2, N2, Hs2, G2⟩ := id V_pa
    have hin2 : ¬ ((0 : Int32) < 0 ∨ cl2.slots.size ≤ ((0 : Int32)).toNatClampNeg) := inb_of S2 ⟨by decide, own_lt (by decide) hj⟩
    have hat2 : cl2.slots[((0 : Int32)).toNatClampNeg]? = some (.int p0) := Hs2.at hin2 rfl
    refine own_by (T' := T1) (g' := (mkF m 85 #[vR ob, vR pa, vR ta, vI 0, vI (-1), vI 0] [(.int p0)])) (fun t k => X1.iaload hx (j := (0 : Int32)) (v := (.int p0)) (by rw [e1]; exact Ar2.1) (State.isArrayOf_alike hZ.alike Ar2.2.1) Ar2.2.2 hin2 hat2 (g := (mkF m 84 #[vR ob, vR pa, vR ta, vI 0, vI (-1), vI 0] [(.int 0), (.ref pa)])) rfl rfl (hb hby d6_84) _ k) ?_
    clear hat2 hin2 G2 Hs2 N2 S2 q2 Ar2 cl2
    refine own_by (T' := T1) (g' := (mkF m 114 #[vR ob, vR pa, vR ta, vI 0, vI (-1), vI 0] [(.int p0)])) (fun t k => XS.goto X1.here hx rfl (pc0 := 85) (pc' := 114) rfl (hb hby d6_85) (by decide) (by decide) k) ?_
    exact own_retI X1 hx Bd.notSynchronized Bd.returns (hb hby d6_114) (by decide) (by decide) (by rw [e1]; exact ⟨rfl, N_, rfl⟩)
  · refine own_by (T' := T1) (g' := (mkF m 88 #[vR ob, vR pa, vR ta, vI 0, vI (-1), vI 0] [])) (fun t k => XS.tswIn X1.here hx rfl (pc0 := 40) (pc' := 88) rfl (hb hby d6_40) rfl (by decide) (o := 48) (by first | rfl | decide) (by decide) (by decide) k) ?_
    refine own_by (T' := T1) (g' := (mkF m 90 #[vR ob, vR pa, vR ta, vI 0, vI (-1), vI 0] [(.int (-1))])) (fun t k => XS.iload X1.here hx rfl (hb hby d6_88) rfl k) ?_
    refine own_by (T' := T1) (g' := (mkF m 114 #[vR ob, vR pa, vR ta, vI 0, vI (-1), vI 0] [(.int (-1))])) (fun t k => XS.goto X1.here hx rfl (pc0 := 90) (pc' := 114) rfl (hb hby d6_90) (by decide) (by decide) k) ?_
    exact own_retI X1 hx Bd.notSynchronized Bd.returns (hb hby d6_114) (by decide) (by decide) (by rw [e1]; exact ⟨rfl, N_, rfl⟩)
  · refine own_by (T' := T1) (g' := (mkF m 93 #[vR ob, vR pa, vR ta, vI 0, vI (-1), vI 0] [])) (fun t k => XS.tswIn X1.here hx rfl (pc0 := 40) (pc' := 93) rfl (hb hby d6_40) rfl (by decide) (o := 53) (by first | rfl | decide) (by decide) (by decide) k) ?_
    refine own_by (T' := T1) (g' := (mkF m 95 #[vR ob, vR pa, vR ta, vI 0, vI (-1), vI 0] [(.int (-1))])) (fun t k => XS.iload X1.here hx rfl (hb hby d6_93) rfl k) ?_
    refine own_by (T' := T1) (g' := (mkF m 96 #[vR ob, vR pa, vR ta, vI 0, vI (-1), vI 0] [(.int 1), (.int (-1))])) (fun t k => XS.iconst X1.here hx rfl (hb hby d6_95) k) ?_
    refine own_by (T' := T1) (g' := (mkF m 97 #[vR ob, vR pa, vR ta, vI 0, vI (-1), vI 0] [(.int 0)])) (fun t k => XS.iadd X1.here hx rfl (hb hby d6_96) rfl k) ?_
    refine own_by (T' := T1) (g' := (mkF m 114 #[vR ob, vR pa, vR ta, vI 0, vI (-1), vI 0] [(.int 0)])) (fun t k => XS.goto X1.here hx rfl (pc0 := 97) (pc' := 114) rfl (hb hby d6_97) (by decide) (by decide) k) ?_
    exact own_retI X1 hx Bd.notSynchronized Bd.returns (hb hby d6_114) (by decide) (by decide) (by rw [e1]; exact ⟨rfl, N_, rfl⟩)
  · refine own_by (T' := T1) (g' := (mkF m 100 #[vR ob, vR pa, vR ta, vI 0, vI (-1), vI 0] [])) (fun t k => XS.tswIn X1.here hx rfl (pc0 := 40) (pc' := 100) rfl (hb hby d6_40) rfl (by decide) (o := 60) (by first | rfl | decide) (by decide) (by decide) k) ?_
    refine own_by (T' := T1) (g' := (mkF m 102 #[vR ob, vR pa, vR ta, vI 0, vI (-1), vI 0] [(.int 0)])) (fun t k => XS.iload X1.here hx rfl (hb hby d6_100) rfl k) ?_
    refine own_by (T' := T1) (g' := (mkF m 112 #[vR ob, vR pa, vR ta, vI 0, vI (-1), vI 0] [])) (fun t k => XS.ifYes X1.here hx rfl (pc0 := 102) (pc' := 112) rfl (hb hby d6_102) rfl ((if0 _ _).trans (teq (by decide)).1) (by decide) (by decide) k) ?_
    refine own_by (T' := T1) (g' := (mkF m 114 #[vR ob, vR pa, vR ta, vI 0, vI (-1), vI 0] [(.int (-1))])) (fun t k => XS.iload X1.here hx rfl (hb hby d6_112) rfl k) ?_
    exact own_retI X1 hx Bd.notSynchronized Bd.returns (hb hby d6_114) (by decide) (by decide) (by rw [e1]; exact ⟨rfl, N_, rfl⟩)

def Q6_1 (Z : State) (ob : Addr) (pa : Addr) (ta : Addr) (nn : Int32) (kk : Int32) (kp : ClassId) (kt : ClassId) (p0 : Int32) (p1 : Int32) (p2 : Int32) (p3 : Int32) (p4 : Int32) (g0 : Int32) (g1 : Int32) (g2 : Int32) (g3 : Int32) (g4 : Int32) (h0 : Heap) (n0 : Nat) (v : Option Value) (h : Heap) (L : List Loc) : Prop := v = some (.int (own_ev kk p1 p0 g0 g1 g2 g3 g4)) ∧ Fr n0 L ∧ h = h0
theorem ef_6_1 (m : MethodId) (ob : Addr) (pa : Addr) (ta : Addr) : entryFrame m #[(.ref ob), (.ref pa), (.ref ta), (.int 1)] 6 = mkF m 0 #[vR ob, vR pa, vR ta, vI 1, .unset, .unset] [] := by first | (simp [entryFrame, mkF, argsToLocals, Value.category]; done) | rfl
theorem d6_8 : decode prog_24_method_5_code 8 = .ok (.aload_n 1, 1) := by decide +kernel
theorem d6_9 : decode prog_24_method_5_code 9 = .ok (.iload_n 3, 1) := by decide +kernel
theorem d6_10 : decode prog_24_method_5_code 10 = .ok (.iconst 1, 1) := by decide +kernel
theorem d6_11 : decode prog_24_method_5_code 11 = .ok (.isub, 1) := by decide +kernel
theorem d6_12 : decode prog_24_method_5_code 12 = .ok (.iaload, 1) := by decide +kernel
theorem d6_105 : decode prog_24_method_5_code 105 = .ok (.aload_n 2, 1) := by decide +kernel
theorem d6_106 : decode prog_24_method_5_code 106 = .ok (.iload 4, 2) := by decide +kernel
theorem d6_108 : decode prog_24_method_5_code 108 = .ok (.iaload, 1) := by decide +kernel
theorem d6_109 : decode prog_24_method_5_code 109 = .ok (.goto 5, 3) := by decide +kernel
theorem d6_19 : decode prog_24_method_5_code 19 = .ok (.aload_n 1, 1) := by decide +kernel
theorem d6_20 : decode prog_24_method_5_code 20 = .ok (.iload_n 3, 1) := by decide +kernel
theorem d6_21 : decode prog_24_method_5_code 21 = .ok (.iaload, 1) := by decide +kernel
theorem d6_22 : decode prog_24_method_5_code 22 = .ok (.iload 4, 2) := by decide +kernel
theorem d6_24 : decode prog_24_method_5_code 24 = .ok (.iconst 1, 1) := by decide +kernel
theorem d6_25 : decode prog_24_method_5_code 25 = .ok (.iadd, 1) := by decide +kernel
theorem d6_26 : decode prog_24_method_5_code 26 = .ok (.if_icmp .ne 7, 3) := by decide +kernel
theorem d6_29 : decode prog_24_method_5_code 29 = .ok (.iconst 1, 1) := by decide +kernel
theorem d6_30 : decode prog_24_method_5_code 30 = .ok (.goto 4, 3) := by decide +kernel
set_option maxRecDepth 65536 in
set_option maxHeartbeats 40000000 in
theorem rm6_1 (l : Launch) (Z : State) (a0 : Array Value) (hw : ∀ d ∈ tables_1, d.before a0 Z = true) (ws : List Jvm.Cond) (ob : Addr) (pa : Addr) (ta : Addr) (nn : Int32) (kk : Int32) (kp : ClassId) (kt : ClassId) (p0 : Int32) (p1 : Int32) (p2 : Int32) (p3 : Int32) (p4 : Int32) (g0 : Int32) (g1 : Int32) (g2 : Int32) (g3 : Int32) (g4 : Int32) (h0 : Heap) (n0 : Nat) (Zle : n0 ≤ h0.size) (E_ob : Exa Z h0 ob "com/example/emu/emu/TableForm") (F_ordinal_ob : Fld Z h0 ob "java/lang/Enum" "ordinal" "I" (.int kk)) (V_pa : Arv Z h0 pa kp .int nn [(.int p0), (.int p1), (.int p2), (.int p3), (.int p4)] (.int 0)) (V_ta : Arv Z h0 ta kt .int nn [(.int g0), (.int g1), (.int g2), (.int g3), (.int g4)] (.int 0)) (hj : (1 : Int32) < nn) (hkk : kk = 0 ∨ kk = 1 ∨ kk = 2 ∨ kk = 3) (hk : p0 = 0) :
    MetFree l (⟨"com/example/emu/emu/TableForm", "entry", "([I[II)I"⟩ : MethodName) (head1 (Jvm.Cond.code (⟨"com/example/emu/emu/TableForm", "entry", "([I[II)I"⟩ : MethodName) prog_24_method_5_code 6 (some .int) :: ws) ({ frames := 1, cells := 0, slots := 0, locals := 12 } : Room)) (fun a U => a = #[(.ref ob), (.ref pa), (.ref ta), (.int 1)] ∧ Z.Warmed39 U.vm ∧ U.heap = h0) (fun _ _ _ _ _ => True) (fun _ U o U' => ∃ v L, o = .returned v ∧ Q6_1 Z ob pa ta nn kk kp kt p0 p1 p2 p3 p4 g0 g1 g2 g3 g4 h0 n0 v U'.heap L ∧ FrameEnd U o U' L ({ frames := 1, cells := 0, slots := 0, locals := 12 } : Room).cells ({ frames := 1, cells := 0, slots := 0, locals := 12 } : Room).slots) := by
  refine MetFree.of_bodySF (plainFor_of_name pn_com_example_emu_emu_TableForm) hisR ?_
  intro p e s m args below meth c s₁ Bd hml0 hP hK
  obtain ⟨rfl, hZ, hh⟩ := hP
  have hx := Bd.exec
  have hby := Bd.bytes
  have hml : c.maxLocals = 6 := hml0
  have hown : s.vm.findClass "com/example/emu/emu/TableForm" = some m.cls := findClass_of_methodNamed Bd.named
  have hnm := (name_of_methodNamed Bd.named Bd.method).1
  have X0 : Stand p l e ({ frames := 1, cells := 0, slots := 0, locals := 12 } : Room) s m #[(.ref ob), (.ref pa), (.ref ta), (.int 1)] below meth c s₁ [] 0 0 := Stand.of_body Bd
  have e0 : s₁.heap = h0 := by rw [← hh, Bd.state]; rfl
  have N_ := Fr.nil n0
  show own_Goes p.tables e below s (Q6_1 Z ob pa ta nn kk kp kt p0 p1 p2 p3 p4 g0 g1 g2 g3 g4 h0 n0) ({ frames := 1, cells := 0, slots := 0, locals := 12 } : Room).cells ({ frames := 1, cells := 0, slots := 0, locals := 12 } : Room).slots s₁ (entryFrame m #[(.ref ob), (.ref pa), (.ref ta), (.int 1)] 6)
  refine own_by (T' := s₁) (g' := (mkF m 0 #[vR ob, vR pa, vR ta, vI 1, .unset, .unset] [])) (fun t k => castTop (ef_6_1 m ob pa ta) k) ?_
  refine own_by (T' := s₁) (g' := (mkF m 1 #[vR ob, vR pa, vR ta, vI 1, .unset, .unset] [(.int 1)])) (fun t k => XS.iloadN X0.here hx rfl (hb hby d6_0) rfl k) ?_
  refine own_by (T' := s₁) (g' := (mkF m 8 #[vR ob, vR pa, vR ta, vI 1, .unset, .unset] [])) (fun t k => XS.ifYes X0.here hx rfl (pc0 := 1) (pc' := 8) rfl (hb hby d6_1) rfl ((if0 _ _).trans (feq (by decide)).2) (by decide) (by decide) k) ?_
  refine own_by (T' := s₁) (g' := (mkF m 9 #[vR ob, vR pa, vR ta, vI 1, .unset, .unset] [(.ref pa)])) (fun t k => XS.aloadN X0.here hx rfl (hb hby d6_8) rfl rfl k) ?_
  refine own_by (T' := s₁) (g' := (mkF m 10 #[vR ob, vR pa, vR ta, vI 1, .unset, .unset] [(.int 1), (.ref pa)])) (fun t k => XS.iloadN X0.here hx rfl (hb hby d6_9) rfl k) ?_
  refine own_by (T' := s₁) (g' := (mkF m 11 #[vR ob, vR pa, vR ta, vI 1, .unset, .unset] [(.int 1), (.int 1), (.ref pa)])) (fun t k => XS.iconst X0.here hx rfl (hb hby d6_10) k) ?_
  refine own_by (T' := s₁) (g' := (mkF m 12 #[vR ob, vR pa, vR ta, vI 1, .unset, .unset] [(.int 0), (.ref pa)])) (fun t k => XS.isub X0.here hx rfl (hb hby d6_11) rfl k) ?_
  obtain ⟨cl1, Ar1, q1, S1, N1, Hs1, G1⟩ := id V_pa
  have hin1 : ¬ ((0 : Int32) < 0 ∨ cl1.slots.size ≤ ((0 : Int32)).toNatClampNeg) := inb_of S1 ⟨by decide, own_lt (by decide) hj⟩
  have hat1 : cl1.slots[((0 : Int32)).toNatClampNeg]? = some (.int p0) := Hs1.at hin1 rfl
  refine own_by (T' := s₁) (g' := (mkF m 13 #[vR ob, vR pa, vR ta, vI 1, .unset, .unset] [(.int p0)])) (fun t k => X0.iaload hx (j := (0 : Int32)) (v := (.int p0)) (by rw [e0]; exact Ar1.1) (State.isArrayOf_alike hZ.alike Ar1.2.1) Ar1.2.2 hin1 hat1 (g := (mkF m 12 #[vR ob, vR pa, vR ta, vI 1, .unset, .unset] [(.int 0), (.ref pa)])) rfl rfl (hb hby d6_12) _ k) ?_
  clear hat1 hin1 G1 Hs1 N1 S1 q1 Ar1 cl1
  refine own_by (T' := s₁) (g' := (mkF m 15 #[vR ob, vR pa, vR ta, vI 1, vI p0, .unset] [])) (fun t k => XS.istore X0.here hx rfl (hb hby d6_13) rfl (l' := #[vR ob, vR pa, vR ta, vI 1, vI p0, .unset]) rfl k) ?_
  have J36_2 : ∀ ss : Int32, ss = own_ss p1 (p0 + (1 : Int32)) → own_Goes p.tables e below s (Q6_1 Z ob pa ta nn kk kp kt p0 p1 p2 p3 p4 g0 g1 g2 g3 g4 h0 n0) ({ frames := 1, cells := 0, slots := 0, locals := 12 } : Room).cells ({ frames := 1, cells := 0, slots := 0, locals := 12 } : Room).slots s₁ (mkF m 36 #[vR ob, vR pa, vR ta, vI 1, vI p0, vI ss] []) := by
    intro ss h_ss
    refine own_by (T' := s₁) (g' := (mkF m 37 #[vR ob, vR pa, vR ta, vI 1, vI p0, vI ss] [(.ref ob)])) (fun t k => XS.aloadN X0.here hx rfl (hb hby d6_36) rfl rfl k) ?_
    obtain ⟨cq3, kq3, q3a, q3b, q3c⟩ := isOf hZ e0 E_ob
    obtain ⟨_, _, ⟨T3, L3, k3, n3⟩, -, X3, ⟨Lc3, hQ3, l3, y3, z3⟩, st3⟩ := X0.virtualBackUp hx (x := (⟨"com/example/emu/emu/TableForm", "ordinal", "()I"⟩ : MethodName)) (y := (⟨"java/lang/Enum", "ordinal", "()I"⟩ : MethodName)) (owner := "java/lang/Enum") hown (mvT hZ (hw _ (own_m 26 rfl))) (mvT hZ (hw _ (own_m 27 rfl))) (mvT hZ (hw _ (own_m 28 rfl))) (by decide) (mvT hZ (hw _ (own_m 30 rfl))) (mvT hZ (hw _ (own_m 29 rfl))) (backOf (W := 0) (rm7 l Z a0 hw [] ob kk h0 n0 Zle F_ordinal_ob) hZ (hw _ (own_m 32 rfl)) (hw _ (own_m 31 rfl)) (by decide) (by decide)) q3a q3c (g := (mkF m 37 #[vR ob, vR pa, vR ta, vI 1, vI p0, vI ss] [(.ref ob)])) rfl (by rw [hml]; rfl) (Steps.refl _) (argsL := []) (rest := []) (lenOf pd_6 rfl) rfl (own_le rfl) (hb hby d6_37) (fun _ _ => ⟨rfl, e0, (by decide : 0 + 0 ≤ _), (by decide : 0 + 0 ≤ _)⟩)
    dsimp only [Pt.U, Pt.locs, Pt.cells, Pt.slots] at X3 l3 y3 z3 st3 hQ3
    subst l3 y3 z3
    obtain ⟨rfl, Nq3, e3⟩ := hQ3
    replace N_ := Fr.app N_ Nq3
    clear Nq3
    refine own_by (T' := T3) (g' := (mkF m 40 #[vR ob, vR pa, vR ta, vI 1, vI p0, vI ss] [(.int kk)])) (fun t k => st3.trans k) ?_
    clear st3 X0 e0
    rcases hkk with rfl | rfl | rfl | rfl
    · refine own_by (T' := T3) (g' := (mkF m 82 #[vR ob, vR pa, vR ta, vI 1, vI p0, vI ss] [])) (fun t k => XS.tswIn X3.here hx rfl (pc0 := 40) (pc' := 82) rfl (hb hby d6_40) rfl (by decide) (o := 42) (by first | rfl | decide) (by decide) (by decide) k) ?_
      refine own_by (T' := T3) (g' := (mkF m 83 #[vR ob, vR pa, vR ta, vI 1, vI p0, vI ss] [(.ref pa)])) (fun t k => XS.aloadN X3.here hx rfl (hb hby d6_82) rfl rfl k) ?_
      refine own_by (T' := T3) (g' := (mkF m 84 #[vR ob, vR pa, vR ta, vI 1, vI p0, vI ss] [(.int 1), (.ref pa)])) (fun t k => XS.iloadN X3.here hx rfl (hb hby d6_83) rfl k) ?_
      obtain ⟨cl4, Ar4, q4, S4, N4, Hs4, G4⟩ := id V_pa
      have hin4 : ¬ ((1 : Int32) < 0 ∨ cl4.slots.size ≤ ((1 : Int32)).toNatClampNeg) := inb_of S4 ⟨by decide, own_lt (by decide) hj⟩
      have hat4 : cl4.slots[((1 : Int32)).toNatClampNeg]? = some (.int p1) := Hs4.at hin4 rfl
      refine own_by (T' := T3) (g' := (mkF m 85 #[vR ob, vR pa, vR ta, vI 1, vI p0, vI ss] [(.int p1)])) (fun t k => X3.iaload hx (j := (1 : Int32)) (v := (.int p1)) (by rw [e3]; exact Ar4.1) (State.isArrayOf_alike hZ.alike Ar4.2.1) Ar4.2.2 hin4 hat4 (g := (mkF m 84 #[vR ob, vR pa, vR ta, vI 1, vI p0, vI ss] [(.int 1), (.ref pa)])) rfl rfl (hb hby d6_84) _ k) ?_
      clear hat4 hin4 G4 Hs4 N4 S4 q4 Ar4 cl4
      refine own_by (T' := T3) (g' := (mkF m 114 #[vR ob, vR pa, vR ta, vI 1, vI p0, vI ss] [(.int p1)])) (fun t k => XS.goto X3.here hx rfl (pc0 := 85) (pc' := 114) rfl (hb hby d6_85) (by decide) (by decide) k) ?_
      exact own_retI X3 hx Bd.notSynchronized Bd.returns (hb hby d6_114) (by decide) (by decide) (by rw [e3]; exact ⟨rfl, N_, rfl⟩)
    · refine own_by (T' := T3) (g' := (mkF m 88 #[vR ob, vR pa, vR ta, vI 1, vI p0, vI ss] [])) (fun t k => XS.tswIn X3.here hx rfl (pc0 := 40) (pc' := 88) rfl (hb hby d6_40) rfl (by decide) (o := 48) (by first | rfl | decide) (by decide) (by decide) k) ?_
      refine own_by (T' := T3) (g' := (mkF m 90 #[vR ob, vR pa, vR ta, vI 1, vI p0, vI ss] [(.int p0)])) (fun t k => XS.iload X3.here hx rfl (hb hby d6_88) rfl k) ?_
      refine own_by (T' := T3) (g' := (mkF m 114 #[vR ob, vR pa, vR ta, vI 1, vI p0, vI ss] [(.int p0)])) (fun t k => XS.goto X3.here hx rfl (pc0 := 90) (pc' := 114) rfl (hb hby d6_90) (by decide) (by decide) k) ?_
      exact own_retI X3 hx Bd.notSynchronized Bd.returns (hb hby d6_114) (by decide) (by decide) (by rw [e3]; exact ⟨rfl, N_, rfl⟩)
    · refine own_by (T' := T3) (g' := (mkF m 93 #[vR ob, vR pa, vR ta, vI 1, vI p0, vI ss] [])) (fun t k => XS.tswIn X3.here hx rfl (pc0 := 40) (pc' := 93) rfl (hb hby d6_40) rfl (by decide) (o := 53) (by first | rfl | decide) (by decide) (by decide) k) ?_
      refine own_by (T' := T3) (g' := (mkF m 95 #[vR ob, vR pa, vR ta, vI 1, vI p0, vI ss] [(.int p0)])) (fun t k => XS.iload X3.here hx rfl (hb hby d6_93) rfl k) ?_
      refine own_by (T' := T3) (g' := (mkF m 96 #[vR ob, vR pa, vR ta, vI 1, vI p0, vI ss] [(.int 1), (.int p0)])) (fun t k => XS.iconst X3.here hx rfl (hb hby d6_95) k) ?_
      refine own_by (T' := T3) (g' := (mkF m 97 #[vR ob, vR pa, vR ta, vI 1, vI p0, vI ss] [(.int (p0 + (1 : Int32)))])) (fun t k => XS.iadd X3.here hx rfl (hb hby d6_96) rfl k) ?_
      refine own_by (T' := T3) (g' := (mkF m 114 #[vR ob, vR pa, vR ta, vI 1, vI p0, vI ss] [(.int (p0 + (1 : Int32)))])) (fun t k => XS.goto X3.here hx rfl (pc0 := 97) (pc' := 114) rfl (hb hby d6_97) (by decide) (by decide) k) ?_
      exact own_retI X3 hx Bd.notSynchronized Bd.returns (hb hby d6_114) (by decide) (by decide) (by rw [e3]; exact ⟨rfl, N_, rfl⟩)
    · refine own_by (T' := T3) (g' := (mkF m 100 #[vR ob, vR pa, vR ta, vI 1, vI p0, vI ss] [])) (fun t k => XS.tswIn X3.here hx rfl (pc0 := 40) (pc' := 100) rfl (hb hby d6_40) rfl (by decide) (o := 60) (by first | rfl | decide) (by decide) (by decide) k) ?_
      refine own_by (T' := T3) (g' := (mkF m 102 #[vR ob, vR pa, vR ta, vI 1, vI p0, vI ss] [(.int ss)])) (fun t k => XS.iload X3.here hx rfl (hb hby d6_100) rfl k) ?_
      by_cases hc102_5 : ss = (0 : Int32)
      · refine own_by (T' := T3) (g' := (mkF m 112 #[vR ob, vR pa, vR ta, vI 1, vI p0, vI ss] [])) (fun t k => XS.ifYes X3.here hx rfl (pc0 := 102) (pc' := 112) rfl (hb hby d6_102) rfl ((if0 _ _).trans (teq hc102_5).1) (by decide) (by decide) k) ?_
        refine own_by (T' := T3) (g' := (mkF m 114 #[vR ob, vR pa, vR ta, vI 1, vI p0, vI ss] [(.int p0)])) (fun t k => XS.iload X3.here hx rfl (hb hby d6_112) rfl k) ?_
        exact own_retI X3 hx Bd.notSynchronized Bd.returns (hb hby d6_114) (by decide) (by decide) (by rw [e3]; exact ⟨by show some (Value.int _) = some (Value.int (own_gvs p1 p0 g0 g1 g2 g3 g4)); rw [own_gvs, if_neg ((own_ss0 _ _).mp (h_ss ▸ hc102_5))], N_, rfl⟩)
      · refine own_by (T' := T3) (g' := (mkF m 105 #[vR ob, vR pa, vR ta, vI 1, vI p0, vI ss] [])) (fun t k => XS.ifNo X3.here hx rfl (hb hby d6_102) rfl ((if0 _ _).trans (feq hc102_5).1) k) ?_
        rcases hk with rfl
        · refine own_by (T' := T3) (g' := (mkF m 106 #[vR ob, vR pa, vR ta, vI 1, vI 0, vI ss] [(.ref ta)])) (fun t k => XS.aloadN X3.here hx rfl (hb hby d6_105) rfl rfl k) ?_
          refine own_by (T' := T3) (g' := (mkF m 108 #[vR ob, vR pa, vR ta, vI 1, vI 0, vI ss] [(.int 0), (.ref ta)])) (fun t k => XS.iload X3.here hx rfl (hb hby d6_106) rfl k) ?_
          obtain ⟨cl6, Ar6, q6, S6, N6, Hs6, G6⟩ := id V_ta
          have hin6 : ¬ ((0 : Int32) < 0 ∨ cl6.slots.size ≤ ((0 : Int32)).toNatClampNeg) := inb_of S6 ⟨by decide, own_lt (by decide) hj⟩
          have hat6 : cl6.slots[((0 : Int32)).toNatClampNeg]? = some (.int g0) := Hs6.at hin6 rfl
          refine own_by (T' := T3) (g' := (mkF m 109 #[vR ob, vR pa, vR ta, vI 1, vI 0, vI ss] [(.int g0)])) (fun t k => X3.iaload hx (j := (0 : Int32)) (v := (.int g0)) (by rw [e3]; exact Ar6.1) (State.isArrayOf_alike hZ.alike Ar6.2.1) Ar6.2.2 hin6 hat6 (g := (mkF m 108 #[vR ob, vR pa, vR ta, vI 1, vI 0, vI ss] [(.int 0), (.ref ta)])) rfl rfl (hb hby d6_108) _ k) ?_
          clear hat6 hin6 G6 Hs6 N6 S6 q6 Ar6 cl6
          refine own_by (T' := T3) (g' := (mkF m 114 #[vR ob, vR pa, vR ta, vI 1, vI 0, vI ss] [(.int g0)])) (fun t k => XS.goto X3.here hx rfl (pc0 := 109) (pc' := 114) rfl (hb hby d6_109) (by decide) (by decide) k) ?_
          exact own_retI X3 hx Bd.notSynchronized Bd.returns (hb hby d6_114) (by decide) (by decide) (by rw [e3]; exact ⟨by show some (Value.int _) = some (Value.int (own_gvs p1 (0) g0 g1 g2 g3 g4)); rw [own_gvs, if_pos (Decidable.of_not_not fun q => hc102_5 (h_ss ▸ (own_ss0 _ _).mpr q))]; rfl, N_, rfl⟩)
  refine own_by (T' := s₁) (g' := (mkF m 16 #[vR ob, vR pa, vR ta, vI 1, vI p0, .unset] [(.int 1)])) (fun t k => XS.iloadN X0.here hx rfl (hb hby d6_15) rfl k) ?_
  refine own_by (T' := s₁) (g' := (mkF m 19 #[vR ob, vR pa, vR ta, vI 1, vI p0, .unset] [])) (fun t k => XS.ifNo X0.here hx rfl (hb hby d6_16) rfl ((if0 _ _).trans (tlt (by decide)).2.2.2) k) ?_
  refine own_by (T' := s₁) (g' := (mkF m 20 #[vR ob, vR pa, vR ta, vI 1, vI p0, .unset] [(.ref pa)])) (fun t k => XS.aloadN X0.here hx rfl (hb hby d6_19) rfl rfl k) ?_
  refine own_by (T' := s₁) (g' := (mkF m 21 #[vR ob, vR pa, vR ta, vI 1, vI p0, .unset] [(.int 1), (.ref pa)])) (fun t k => XS.iloadN X0.here hx rfl (hb hby d6_20) rfl k) ?_
  obtain ⟨cl7, Ar7, q7, S7, N7, Hs7, G7⟩ := id V_pa
  have hin7 : ¬ ((1 : Int32) < 0 ∨ cl7.slots.size ≤ ((1 : Int32)).toNatClampNeg) := inb_of S7 ⟨by decide, own_lt (by decide) hj⟩
  have hat7 : cl7.slots[((1 : Int32)).toNatClampNeg]? = some (.int p1) := Hs7.at hin7 rfl
  refine own_by (T' := s₁) (g' := (mkF m 22 #[vR ob, vR pa, vR ta, vI 1, vI p0, .unset] [(.int p1)])) (fun t k => X0.iaload hx (j := (1 : Int32)) (v := (.int p1)) (by rw [e0]; exact Ar7.1) (State.isArrayOf_alike hZ.alike Ar7.2.1) Ar7.2.2 hin7 hat7 (g := (mkF m 21 #[vR ob, vR pa, vR ta, vI 1, vI p0, .unset] [(.int 1), (.ref pa)])) rfl rfl (hb hby d6_21) _ k) ?_
  clear hat7 hin7 G7 Hs7 N7 S7 q7 Ar7 cl7
  refine own_by (T' := s₁) (g' := (mkF m 24 #[vR ob, vR pa, vR ta, vI 1, vI p0, .unset] [(.int p0), (.int p1)])) (fun t k => XS.iload X0.here hx rfl (hb hby d6_22) rfl k) ?_
  refine own_by (T' := s₁) (g' := (mkF m 25 #[vR ob, vR pa, vR ta, vI 1, vI p0, .unset] [(.int 1), (.int p0), (.int p1)])) (fun t k => XS.iconst X0.here hx rfl (hb hby d6_24) k) ?_
  refine own_by (T' := s₁) (g' := (mkF m 26 #[vR ob, vR pa, vR ta, vI 1, vI p0, .unset] [(.int (p0 + (1 : Int32))), (.int p1)])) (fun t k => XS.iadd X0.here hx rfl (hb hby d6_25) rfl k) ?_
  by_cases hc26_8 : p1 = (p0 + (1 : Int32))
  · refine own_by (T' := s₁) (g' := (mkF m 29 #[vR ob, vR pa, vR ta, vI 1, vI p0, .unset] [])) (fun t k => XS.icmpNo X0.here hx rfl (hb hby d6_26) rfl (teq hc26_8).2 k) ?_
    refine own_by (T' := s₁) (g' := (mkF m 30 #[vR ob, vR pa, vR ta, vI 1, vI p0, .unset] [(.int 1)])) (fun t k => XS.iconst X0.here hx rfl (hb hby d6_29) k) ?_
    refine own_by (T' := s₁) (g' := (mkF m 34 #[vR ob, vR pa, vR ta, vI 1, vI p0, .unset] [(.int 1)])) (fun t k => XS.goto X0.here hx rfl (pc0 := 30) (pc' := 34) rfl (hb hby d6_30) (by decide) (by decide) k) ?_
    refine own_by (T' := s₁) (g' := (mkF m 36 #[vR ob, vR pa, vR ta, vI 1, vI p0, vI 1] [])) (fun t k => XS.istore X0.here hx rfl (hb hby d6_34) rfl (l' := #[vR ob, vR pa, vR ta, vI 1, vI p0, vI 1]) rfl k) ?_
    exact J36_2 _ (by unfold own_ss; rw [if_pos hc26_8])
  · refine own_by (T' := s₁) (g' := (mkF m 33 #[vR ob, vR pa, vR ta, vI 1, vI p0, .unset] [])) (fun t k => XS.icmpYes X0.here hx rfl (pc0 := 26) (pc' := 33) rfl (hb hby d6_26) rfl (feq hc26_8).2 (by decide) (by decide) k) ?_
    refine own_by (T' := s₁) (g' := (mkF m 34 #[vR ob, vR pa, vR ta, vI 1, vI p0, .unset] [(.int 0)])) (fun t k => XS.iconst X0.here hx rfl (hb hby d6_33) k) ?_
    refine own_by (T' := s₁) (g' := (mkF m 36 #[vR ob, vR pa, vR ta, vI 1, vI p0, vI 0] [])) (fun t k => XS.istore X0.here hx rfl (hb hby d6_34) rfl (l' := #[vR ob, vR pa, vR ta, vI 1, vI p0, vI 0]) rfl k) ?_
    exact J36_2 _ (by unfold own_ss; rw [if_neg hc26_8])

def Q6_2 (Z : State) (ob : Addr) (pa : Addr) (ta : Addr) (nn : Int32) (kk : Int32) (kp : ClassId) (kt : ClassId) (p0 : Int32) (p1 : Int32) (p2 : Int32) (p3 : Int32) (p4 : Int32) (g0 : Int32) (g1 : Int32) (g2 : Int32) (g3 : Int32) (g4 : Int32) (h0 : Heap) (n0 : Nat) (v : Option Value) (h : Heap) (L : List Loc) : Prop := v = some (.int (own_ev kk p2 p1 g0 g1 g2 g3 g4)) ∧ Fr n0 L ∧ h = h0
theorem ef_6_2 (m : MethodId) (ob : Addr) (pa : Addr) (ta : Addr) : entryFrame m #[(.ref ob), (.ref pa), (.ref ta), (.int 2)] 6 = mkF m 0 #[vR ob, vR pa, vR ta, vI 2, .unset, .unset] [] := by first | (simp [entryFrame, mkF, argsToLocals, Value.category]; done) | rfl
set_option maxRecDepth 65536 in
set_option maxHeartbeats 40000000 in
theorem rm6_2 (l : Launch) (Z : State) (a0 : Array Value) (hw : ∀ d ∈ tables_1, d.before a0 Z = true) (ws : List Jvm.Cond) (ob : Addr) (pa : Addr) (ta : Addr) (nn : Int32) (kk : Int32) (kp : ClassId) (kt : ClassId) (p0 : Int32) (p1 : Int32) (p2 : Int32) (p3 : Int32) (p4 : Int32) (g0 : Int32) (g1 : Int32) (g2 : Int32) (g3 : Int32) (g4 : Int32) (h0 : Heap) (n0 : Nat) (Zle : n0 ≤ h0.size) (E_ob : Exa Z h0 ob "com/example/emu/emu/TableForm") (F_ordinal_ob : Fld Z h0 ob "java/lang/Enum" "ordinal" "I" (.int kk)) (V_pa : Arv Z h0 pa kp .int nn [(.int p0), (.int p1), (.int p2), (.int p3), (.int p4)] (.int 0)) (V_ta : Arv Z h0 ta kt .int nn [(.int g0), (.int g1), (.int g2), (.int g3), (.int g4)] (.int 0)) (hj : (2 : Int32) < nn) (hkk : kk = 0 ∨ kk = 1 ∨ kk = 2 ∨ kk = 3) (hk : p1 = 0 ∨ p1 = 1) :
    MetFree l (⟨"com/example/emu/emu/TableForm", "entry", "([I[II)I"⟩ : MethodName) (head1 (Jvm.Cond.code (⟨"com/example/emu/emu/TableForm", "entry", "([I[II)I"⟩ : MethodName) prog_24_method_5_code 6 (some .int) :: ws) ({ frames := 1, cells := 0, slots := 0, locals := 12 } : Room)) (fun a U => a = #[(.ref ob), (.ref pa), (.ref ta), (.int 2)] ∧ Z.Warmed39 U.vm ∧ U.heap = h0) (fun _ _ _ _ _ => True) (fun _ U o U' => ∃ v L, o = .returned v ∧ Q6_2 Z ob pa ta nn kk kp kt p0 p1 p2 p3 p4 g0 g1 g2 g3 g4 h0 n0 v U'.heap L ∧ FrameEnd U o U' L ({ frames := 1, cells := 0, slots := 0, locals := 12 } : Room).cells ({ frames := 1, cells := 0, slots := 0, locals := 12 } : Room).slots) := by
  refine MetFree.of_bodySF (plainFor_of_name pn_com_example_emu_emu_TableForm) hisR ?_
  intro p e s m args below meth c s₁ Bd hml0 hP hK
  obtain ⟨rfl, hZ, hh⟩ := hP
  have hx := Bd.exec
  have hby := Bd.bytes
  have hml : c.maxLocals = 6 := hml0
  have hown : s.vm.findClass "com/example/emu/emu/TableForm" = some m.cls := findClass_of_methodNamed Bd.named
  have hnm := (name_of_methodNamed Bd.named Bd.method).1
  have X0 : Stand p l e ({ frames := 1, cells := 0, slots := 0, locals := 12 } : Room) s m #[(.ref ob), (.ref pa), (.ref ta), (.int 2)] below meth c s₁ [] 0 0 := Stand.of_body Bd
  have e0 : s₁.heap = h0 := by rw [← hh, Bd.state]; rfl
  have N_ := Fr.nil n0
  show own_Goes p.tables e below s (Q6_2 Z ob pa ta nn kk kp kt p0 p1 p2 p3 p4 g0 g1 g2 g3 g4 h0 n0) ({ frames := 1, cells := 0, slots := 0, locals := 12 } : Room).cells ({ frames := 1, cells := 0, slots := 0, locals := 12 } : Room).slots s₁ (entryFrame m #[(.ref ob), (.ref pa), (.ref ta), (.int 2)] 6)
  refine own_by (T' := s₁) (g' := (mkF m 0 #[vR ob, vR pa, vR ta, vI 2, .unset, .unset] [])) (fun t k => castTop (ef_6_2 m ob pa ta) k) ?_
  refine own_by (T' := s₁) (g' := (mkF m 1 #[vR ob, vR pa, vR ta, vI 2, .unset, .unset] [(.int 2)])) (fun t k => XS.iloadN X0.here hx rfl (hb hby d6_0) rfl k) ?_
  refine own_by (T' := s₁) (g' := (mkF m 8 #[vR ob, vR pa, vR ta, vI 2, .unset, .unset] [])) (fun t k => XS.ifYes X0.here hx rfl (pc0 := 1) (pc' := 8) rfl (hb hby d6_1) rfl ((if0 _ _).trans (feq (by decide)).2) (by decide) (by decide) k) ?_
  refine own_by (T' := s₁) (g' := (mkF m 9 #[vR ob, vR pa, vR ta, vI 2, .unset, .unset] [(.ref pa)])) (fun t k => XS.aloadN X0.here hx rfl (hb hby d6_8) rfl rfl k) ?_
  refine own_by (T' := s₁) (g' := (mkF m 10 #[vR ob, vR pa, vR ta, vI 2, .unset, .unset] [(.int 2), (.ref pa)])) (fun t k => XS.iloadN X0.here hx rfl (hb hby d6_9) rfl k) ?_
  refine own_by (T' := s₁) (g' := (mkF m 11 #[vR ob, vR pa, vR ta, vI 2, .unset, .unset] [(.int 1), (.int 2), (.ref pa)])) (fun t k => XS.iconst X0.here hx rfl (hb hby d6_10) k) ?_
  refine own_by (T' := s₁) (g' := (mkF m 12 #[vR ob, vR pa, vR ta, vI 2, .unset, .unset] [(.int 1), (.ref pa)])) (fun t k => XS.isub X0.here hx rfl (hb hby d6_11) rfl k) ?_
  obtain ⟨cl1, Ar1, q1, S1, N1, Hs1, G1⟩ := id V_pa
  have hin1 : ¬ ((1 : Int32) < 0 ∨ cl1.slots.size ≤ ((1 : Int32)).toNatClampNeg) := inb_of S1 ⟨by decide, own_lt (by decide) hj⟩
  have hat1 : cl1.slots[((1 : Int32)).toNatClampNeg]? = some (.int p1) := Hs1.at hin1 rfl
  refine own_by (T' := s₁) (g' := (mkF m 13 #[vR ob, vR pa, vR ta, vI 2, .unset, .unset] [(.int p1)])) (fun t k => X0.iaload hx (j := (1 : Int32)) (v := (.int p1)) (by rw [e0]; exact Ar1.1) (State.isArrayOf_alike hZ.alike Ar1.2.1) Ar1.2.2 hin1 hat1 (g := (mkF m 12 #[vR ob, vR pa, vR ta, vI 2, .unset, .unset] [(.int 1), (.ref pa)])) rfl rfl (hb hby d6_12) _ k) ?_
  clear hat1 hin1 G1 Hs1 N1 S1 q1 Ar1 cl1
  refine own_by (T' := s₁) (g' := (mkF m 15 #[vR ob, vR pa, vR ta, vI 2, vI p1, .unset] [])) (fun t k => XS.istore X0.here hx rfl (hb hby d6_13) rfl (l' := #[vR ob, vR pa, vR ta, vI 2, vI p1, .unset]) rfl k) ?_
  have J36_2 : ∀ ss : Int32, ss = own_ss p2 (p1 + (1 : Int32)) → own_Goes p.tables e below s (Q6_2 Z ob pa ta nn kk kp kt p0 p1 p2 p3 p4 g0 g1 g2 g3 g4 h0 n0) ({ frames := 1, cells := 0, slots := 0, locals := 12 } : Room).cells ({ frames := 1, cells := 0, slots := 0, locals := 12 } : Room).slots s₁ (mkF m 36 #[vR ob, vR pa, vR ta, vI 2, vI p1, vI ss] []) := by
    intro ss h_ss
    refine own_by (T' := s₁) (g' := (mkF m 37 #[vR ob, vR pa, vR ta, vI 2, vI p1, vI ss] [(.ref ob)])) (fun t k => XS.aloadN X0.here hx rfl (hb hby d6_36) rfl rfl k) ?_
    obtain ⟨cq3, kq3, q3a, q3b, q3c⟩ := isOf hZ e0 E_ob
    obtain ⟨_, _, ⟨T3, L3, k3, n3⟩, -, X3, ⟨Lc3, hQ3, l3, y3, z3⟩, st3⟩ := X0.virtualBackUp hx (x := (⟨"com/example/emu/emu/TableForm", "ordinal", "()I"⟩ : MethodName)) (y := (⟨"java/lang/Enum", "ordinal", "()I"⟩ : MethodName)) (owner := "java/lang/Enum") hown (mvT hZ (hw _ (own_m 26 rfl))) (mvT hZ (hw _ (own_m 27 rfl))) (mvT hZ (hw _ (own_m 28 rfl))) (by decide) (mvT hZ (hw _ (own_m 30 rfl))) (mvT hZ (hw _ (own_m 29 rfl))) (backOf (W := 0) (rm7 l Z a0 hw [] ob kk h0 n0 Zle F_ordinal_ob) hZ (hw _ (own_m 32 rfl)) (hw _ (own_m 31 rfl)) (by decide) (by decide)) q3a q3c (g := (mkF m 37 #[vR ob, vR pa, vR ta, vI 2, vI p1, vI ss] [(.ref ob)])) rfl (by rw [hml]; rfl) (Steps.refl _) (argsL := []) (rest := []) (lenOf pd_6 rfl) rfl (own_le rfl) (hb hby d6_37) (fun _ _ => ⟨rfl, e0, (by decide : 0 + 0 ≤ _), (by decide : 0 + 0 ≤ _)⟩)
    dsimp only [Pt.U, Pt.locs, Pt.cells, Pt.slots] at X3 l3 y3 z3 st3 hQ3
    subst l3 y3 z3
    obtain ⟨rfl, Nq3, e3⟩ := hQ3
    replace N_ := Fr.app N_ Nq3
    clear Nq3
    refine own_by (T' := T3) (g' := (mkF m 40 #[vR ob, vR pa, vR ta, vI 2, vI p1, vI ss] [(.int kk)])) (fun t k => st3.trans k) ?_
    clear st3 X0 e0
    rcases hkk with rfl | rfl | rfl | rfl
    · refine own_by (T' := T3) (g' := (mkF m 82 #[vR ob, vR pa, vR ta, vI 2, vI p1, vI ss] [])) (fun t k => XS.tswIn X3.here hx rfl (pc0 := 40) (pc' := 82) rfl (hb hby d6_40) rfl (by decide) (o := 42) (by first | rfl | decide) (by decide) (by decide) k) ?_
      refine own_by (T' := T3) (g' := (mkF m 83 #[vR ob, vR pa, vR ta, vI 2, vI p1, vI ss] [(.ref pa)])) (fun t k => XS.aloadN X3.here hx rfl (hb hby d6_82) rfl rfl k) ?_
      refine own_by (T' := T3) (g' := (mkF m 84 #[vR ob, vR pa, vR ta, vI 2, vI p1, vI ss] [(.int 2), (.ref pa)])) (fun t k => XS.iloadN X3.here hx rfl (hb hby d6_83) rfl k) ?_
      obtain ⟨cl4, Ar4, q4, S4, N4, Hs4, G4⟩ := id V_pa
      have hin4 : ¬ ((2 : Int32) < 0 ∨ cl4.slots.size ≤ ((2 : Int32)).toNatClampNeg) := inb_of S4 ⟨by decide, own_lt (by decide) hj⟩
      have hat4 : cl4.slots[((2 : Int32)).toNatClampNeg]? = some (.int p2) := Hs4.at hin4 rfl
      refine own_by (T' := T3) (g' := (mkF m 85 #[vR ob, vR pa, vR ta, vI 2, vI p1, vI ss] [(.int p2)])) (fun t k => X3.iaload hx (j := (2 : Int32)) (v := (.int p2)) (by rw [e3]; exact Ar4.1) (State.isArrayOf_alike hZ.alike Ar4.2.1) Ar4.2.2 hin4 hat4 (g := (mkF m 84 #[vR ob, vR pa, vR ta, vI 2, vI p1, vI ss] [(.int 2), (.ref pa)])) rfl rfl (hb hby d6_84) _ k) ?_
      clear hat4 hin4 G4 Hs4 N4 S4 q4 Ar4 cl4
      refine own_by (T' := T3) (g' := (mkF m 114 #[vR ob, vR pa, vR ta, vI 2, vI p1, vI ss] [(.int p2)])) (fun t k => XS.goto X3.here hx rfl (pc0 := 85) (pc' := 114) rfl (hb hby d6_85) (by decide) (by decide) k) ?_
      exact own_retI X3 hx Bd.notSynchronized Bd.returns (hb hby d6_114) (by decide) (by decide) (by rw [e3]; exact ⟨rfl, N_, rfl⟩)
    · refine own_by (T' := T3) (g' := (mkF m 88 #[vR ob, vR pa, vR ta, vI 2, vI p1, vI ss] [])) (fun t k => XS.tswIn X3.here hx rfl (pc0 := 40) (pc' := 88) rfl (hb hby d6_40) rfl (by decide) (o := 48) (by first | rfl | decide) (by decide) (by decide) k) ?_
      refine own_by (T' := T3) (g' := (mkF m 90 #[vR ob, vR pa, vR ta, vI 2, vI p1, vI ss] [(.int p1)])) (fun t k => XS.iload X3.here hx rfl (hb hby d6_88) rfl k) ?_
      refine own_by (T' := T3) (g' := (mkF m 114 #[vR ob, vR pa, vR ta, vI 2, vI p1, vI ss] [(.int p1)])) (fun t k => XS.goto X3.here hx rfl (pc0 := 90) (pc' := 114) rfl (hb hby d6_90) (by decide) (by decide) k) ?_
      exact own_retI X3 hx Bd.notSynchronized Bd.returns (hb hby d6_114) (by decide) (by decide) (by rw [e3]; exact ⟨rfl, N_, rfl⟩)
    · refine own_by (T' := T3) (g' := (mkF m 93 #[vR ob, vR pa, vR ta, vI 2, vI p1, vI ss] [])) (fun t k => XS.tswIn X3.here hx rfl (pc0 := 40) (pc' := 93) rfl (hb hby d6_40) rfl (by decide) (o := 53) (by first | rfl | decide) (by decide) (by decide) k) ?_
      refine own_by (T' := T3) (g' := (mkF m 95 #[vR ob, vR pa, vR ta, vI 2, vI p1, vI ss] [(.int p1)])) (fun t k => XS.iload X3.here hx rfl (hb hby d6_93) rfl k) ?_
      refine own_by (T' := T3) (g' := (mkF m 96 #[vR ob, vR pa, vR ta, vI 2, vI p1, vI ss] [(.int 1), (.int p1)])) (fun t k => XS.iconst X3.here hx rfl (hb hby d6_95) k) ?_
      refine own_by (T' := T3) (g' := (mkF m 97 #[vR ob, vR pa, vR ta, vI 2, vI p1, vI ss] [(.int (p1 + (1 : Int32)))])) (fun t k => XS.iadd X3.here hx rfl (hb hby d6_96) rfl k) ?_
      refine own_by (T' := T3) (g' := (mkF m 114 #[vR ob, vR pa, vR ta, vI 2, vI p1, vI ss] [(.int (p1 + (1 : Int32)))])) (fun t k => XS.goto X3.here hx rfl (pc0 := 97) (pc' := 114) rfl (hb hby d6_97) (by decide) (by decide) k) ?_
      exact own_retI X3 hx Bd.notSynchronized Bd.returns (hb hby d6_114) (by decide) (by decide) (by rw [e3]; exact ⟨rfl, N_, rfl⟩)
    · refine own_by (T' := T3) (g' := (mkF m 100 #[vR ob, vR pa, vR ta, vI 2, vI p1, vI ss] [])) (fun t k => XS.tswIn X3.here hx rfl (pc0 := 40) (pc' := 100) rfl (hb hby d6_40) rfl (by decide) (o := 60) (by first | rfl | decide) (by decide) (by decide) k) ?_
      refine own_by (T' := T3) (g' := (mkF m 102 #[vR ob, vR pa, vR ta, vI 2, vI p1, vI ss] [(.int ss)])) (fun t k => XS.iload X3.here hx rfl (hb hby d6_100) rfl k) ?_
      by_cases hc102_5 : ss = (0 : Int32)
      · refine own_by (T' := T3) (g' := (mkF m 112 #[vR ob, vR pa, vR ta, vI 2, vI p1, vI ss] [])) (fun t k => XS.ifYes X3.here hx rfl (pc0 := 102) (pc' := 112) rfl (hb hby d6_102) rfl ((if0 _ _).trans (teq hc102_5).1) (by decide) (by decide) k) ?_
        refine own_by (T' := T3) (g' := (mkF m 114 #[vR ob, vR pa, vR ta, vI 2, vI p1, vI ss] [(.int p1)])) (fun t k => XS.iload X3.here hx rfl (hb hby d6_112) rfl k) ?_
        exact own_retI X3 hx Bd.notSynchronized Bd.returns (hb hby d6_114) (by decide) (by decide) (by rw [e3]; exact ⟨by show some (Value.int _) = some (Value.int (own_gvs p2 p1 g0 g1 g2 g3 g4)); rw [own_gvs, if_neg ((own_ss0 _ _).mp (h_ss ▸ hc102_5))], N_, rfl⟩)
      · refine own_by (T' := T3) (g' := (mkF m 105 #[vR ob, vR pa, vR ta, vI 2, vI p1, vI ss] [])) (fun t k => XS.ifNo X3.here hx rfl (hb hby d6_102) rfl ((if0 _ _).trans (feq hc102_5).1) k) ?_
        rcases hk with rfl | rfl
        · refine own_by (T' := T3) (g' := (mkF m 106 #[vR ob, vR pa, vR ta, vI 2, vI 0, vI ss] [(.ref ta)])) (fun t k => XS.aloadN X3.here hx rfl (hb hby d6_105) rfl rfl k) ?_
          refine own_by (T' := T3) (g' := (mkF m 108 #[vR ob, vR pa, vR ta, vI 2, vI 0, vI ss] [(.int 0), (.ref ta)])) (fun t k => XS.iload X3.here hx rfl (hb hby d6_106) rfl k) ?_
          obtain ⟨cl6, Ar6, q6, S6, N6, Hs6, G6⟩ := id V_ta
          have hin6 : ¬ ((0 : Int32) < 0 ∨ cl6.slots.size ≤ ((0 : Int32)).toNatClampNeg) := inb_of S6 ⟨by decide, own_lt (by decide) hj⟩
          have hat6 : cl6.slots[((0 : Int32)).toNatClampNeg]? = some (.int g0) := Hs6.at hin6 rfl
          refine own_by (T' := T3) (g' := (mkF m 109 #[vR ob, vR pa, vR ta, vI 2, vI 0, vI ss] [(.int g0)])) (fun t k => X3.iaload hx (j := (0 : Int32)) (v := (.int g0)) (by rw [e3]; exact Ar6.1) (State.isArrayOf_alike hZ.alike Ar6.2.1) Ar6.2.2 hin6 hat6 (g := (mkF m 108 #[vR ob, vR pa, vR ta, vI 2, vI 0, vI ss] [(.int 0), (.ref ta)])) rfl rfl (hb hby d6_108) _ k) ?_
          clear hat6 hin6 G6 Hs6 N6 S6 q6 Ar6 cl6
          refine own_by (T' := T3) (g' := (mkF m 114 #[vR ob, vR pa, vR ta, vI 2, vI 0, vI ss] [(.int g0)])) (fun t k => XS.goto X3.here hx rfl (pc0 := 109) (pc' := 114) rfl (hb hby d6_109) (by decide) (by decide) k) ?_
          exact own_retI X3 hx Bd.notSynchronized Bd.returns (hb hby d6_114) (by decide) (by decide) (by rw [e3]; exact ⟨by show some (Value.int _) = some (Value.int (own_gvs p2 (0) g0 g1 g2 g3 g4)); rw [own_gvs, if_pos (Decidable.of_not_not fun q => hc102_5 (h_ss ▸ (own_ss0 _ _).mpr q))]; rfl, N_, rfl⟩)
        · refine own_by (T' := T3) (g' := (mkF m 106 #[vR ob, vR pa, vR ta, vI 2, vI 1, vI ss] [(.ref ta)])) (fun t k => XS.aloadN X3.here hx rfl (hb hby d6_105) rfl rfl k) ?_
          refine own_by (T' := T3) (g' := (mkF m 108 #[vR ob, vR pa, vR ta, vI 2, vI 1, vI ss] [(.int 1), (.ref ta)])) (fun t k => XS.iload X3.here hx rfl (hb hby d6_106) rfl k) ?_
          obtain ⟨cl7, Ar7, q7, S7, N7, Hs7, G7⟩ := id V_ta
          have hin7 : ¬ ((1 : Int32) < 0 ∨ cl7.slots.size ≤ ((1 : Int32)).toNatClampNeg) := inb_of S7 ⟨by decide, own_lt (by decide) hj⟩
          have hat7 : cl7.slots[((1 : Int32)).toNatClampNeg]? = some (.int g1) := Hs7.at hin7 rfl
          refine own_by (T' := T3) (g' := (mkF m 109 #[vR ob, vR pa, vR ta, vI 2, vI 1, vI ss] [(.int g1)])) (fun t k => X3.iaload hx (j := (1 : Int32)) (v := (.int g1)) (by rw [e3]; exact Ar7.1) (State.isArrayOf_alike hZ.alike Ar7.2.1) Ar7.2.2 hin7 hat7 (g := (mkF m 108 #[vR ob, vR pa, vR ta, vI 2, vI 1, vI ss] [(.int 1), (.ref ta)])) rfl rfl (hb hby d6_108) _ k) ?_
          clear hat7 hin7 G7 Hs7 N7 S7 q7 Ar7 cl7
          refine own_by (T' := T3) (g' := (mkF m 114 #[vR ob, vR pa, vR ta, vI 2, vI 1, vI ss] [(.int g1)])) (fun t k => XS.goto X3.here hx rfl (pc0 := 109) (pc' := 114) rfl (hb hby d6_109) (by decide) (by decide) k) ?_
          exact own_retI X3 hx Bd.notSynchronized Bd.returns (hb hby d6_114) (by decide) (by decide) (by rw [e3]; exact ⟨by show some (Value.int _) = some (Value.int (own_gvs p2 (1) g0 g1 g2 g3 g4)); rw [own_gvs, if_pos (Decidable.of_not_not fun q => hc102_5 (h_ss ▸ (own_ss0 _ _).mpr q))]; rfl, N_, rfl⟩)
  refine own_by (T' := s₁) (g' := (mkF m 16 #[vR ob, vR pa, vR ta, vI 2, vI p1, .unset] [(.int 2)])) (fun t k => XS.iloadN X0.here hx rfl (hb hby d6_15) rfl k) ?_
  refine own_by (T' := s₁) (g' := (mkF m 19 #[vR ob, vR pa, vR ta, vI 2, vI p1, .unset] [])) (fun t k => XS.ifNo X0.here hx rfl (hb hby d6_16) rfl ((if0 _ _).trans (tlt (by decide)).2.2.2) k) ?_
  refine own_by (T' := s₁) (g' := (mkF m 20 #[vR ob, vR pa, vR ta, vI 2, vI p1, .unset] [(.ref pa)])) (fun t k => XS.aloadN X0.here hx rfl (hb hby d6_19) rfl rfl k) ?_
  refine own_by (T' := s₁) (g' := (mkF m 21 #[vR ob, vR pa, vR ta, vI 2, vI p1, .unset] [(.int 2), (.ref pa)])) (fun t k => XS.iloadN X0.here hx rfl (hb hby d6_20) rfl k) ?_
  obtain ⟨cl8, Ar8, q8, S8, N8, Hs8, G8⟩ := id V_pa
  have hin8 : ¬ ((2 : Int32) < 0 ∨ cl8.slots.size ≤ ((2 : Int32)).toNatClampNeg) := inb_of S8 ⟨by decide, own_lt (by decide) hj⟩
  have hat8 : cl8.slots[((2 : Int32)).toNatClampNeg]? = some (.int p2) := Hs8.at hin8 rfl
  refine own_by (T' := s₁) (g' := (mkF m 22 #[vR ob, vR pa, vR ta, vI 2, vI p1, .unset] [(.int p2)])) (fun t k => X0.iaload hx (j := (2 : Int32)) (v := (.int p2)) (by rw [e0]; exact Ar8.1) (State.isArrayOf_alike hZ.alike Ar8.2.1) Ar8.2.2 hin8 hat8 (g := (mkF m 21 #[vR ob, vR pa, vR ta, vI 2, vI p1, .unset] [(.int 2), (.ref pa)])) rfl rfl (hb hby d6_21) _ k) ?_
  clear hat8 hin8 G8 Hs8 N8 S8 q8 Ar8 cl8
  refine own_by (T' := s₁) (g' := (mkF m 24 #[vR ob, vR pa, vR ta, vI 2, vI p1, .unset] [(.int p1), (.int p2)])) (fun t k => XS.iload X0.here hx rfl (hb hby d6_22) rfl k) ?_
  refine own_by (T' := s₁) (g' := (mkF m 25 #[vR ob, vR pa, vR ta, vI 2, vI p1, .unset] [(.int 1), (.int p1), (.int p2)])) (fun t k => XS.iconst X0.here hx rfl (hb hby d6_24) k) ?_
  refine own_by (T' := s₁) (g' := (mkF m 26 #[vR ob, vR pa, vR ta, vI 2, vI p1, .unset] [(.int (p1 + (1 : Int32))), (.int p2)])) (fun t k => XS.iadd X0.here hx rfl (hb hby d6_25) rfl k) ?_
  by_cases hc26_9 : p2 = (p1 + (1 : Int32))
  · refine own_by (T' := s₁) (g' := (mkF m 29 #[vR ob, vR pa, vR ta, vI 2, vI p1, .unset] [])) (fun t k => XS.icmpNo X0.here hx rfl (hb hby d6_26) rfl (teq hc26_9).2 k) ?_
    refine own_by (T' := s₁) (g' := (mkF m 30 #[vR ob, vR pa, vR ta, vI 2, vI p1, .unset] [(.int 1)])) (fun t k => XS.iconst X0.here hx rfl (hb hby d6_29) k) ?_
    refine own_by (T' := s₁) (g' := (mkF m 34 #[vR ob, vR pa, vR ta, vI 2, vI p1, .unset] [(.int 1)])) (fun t k => XS.goto X0.here hx rfl (pc0 := 30) (pc' := 34) rfl (hb hby d6_30) (by decide) (by decide) k) ?_
    refine own_by (T' := s₁) (g' := (mkF m 36 #[vR ob, vR pa, vR ta, vI 2, vI p1, vI 1] [])) (fun t k => XS.istore X0.here hx rfl (hb hby d6_34) rfl (l' := #[vR ob, vR pa, vR ta, vI 2, vI p1, vI 1]) rfl k) ?_
    exact J36_2 _ (by unfold own_ss; rw [if_pos hc26_9])
  · refine own_by (T' := s₁) (g' := (mkF m 33 #[vR ob, vR pa, vR ta, vI 2, vI p1, .unset] [])) (fun t k => XS.icmpYes X0.here hx rfl (pc0 := 26) (pc' := 33) rfl (hb hby d6_26) rfl (feq hc26_9).2 (by decide) (by decide) k) ?_
    refine own_by (T' := s₁) (g' := (mkF m 34 #[vR ob, vR pa, vR ta, vI 2, vI p1, .unset] [(.int 0)])) (fun t k => XS.iconst X0.here hx rfl (hb hby d6_33) k) ?_
    refine own_by (T' := s₁) (g' := (mkF m 36 #[vR ob, vR pa, vR ta, vI 2, vI p1, vI 0] [])) (fun t k => XS.istore X0.here hx rfl (hb hby d6_34) rfl (l' := #[vR ob, vR pa, vR ta, vI 2, vI p1, vI 0]) rfl k) ?_
    exact J36_2 _ (by unfold own_ss; rw [if_neg hc26_9])

def Q6_3 (Z : State) (ob : Addr) (pa : Addr) (ta : Addr) (nn : Int32) (kk : Int32) (kp : ClassId) (kt : ClassId) (p0 : Int32) (p1 : Int32) (p2 : Int32) (p3 : Int32) (p4 : Int32) (g0 : Int32) (g1 : Int32) (g2 : Int32) (g3 : Int32) (g4 : Int32) (h0 : Heap) (n0 : Nat) (v : Option Value) (h : Heap) (L : List Loc) : Prop := v = some (.int (own_ev kk p3 p2 g0 g1 g2 g3 g4)) ∧ Fr n0 L ∧ h = h0
theorem ef_6_3 (m : MethodId) (ob : Addr) (pa : Addr) (ta : Addr) : entryFrame m #[(.ref ob), (.ref pa), (.ref ta), (.int 3)] 6 = mkF m 0 #[vR ob, vR pa, vR ta, vI 3, .unset, .unset] [] := by first | (simp [entryFrame, mkF, argsToLocals, Value.category]; done) | rfl
set_option maxRecDepth 65536 in
set_option maxHeartbeats 40000000 in
theorem rm6_3 (l : Launch) (Z : State) (a0 : Array Value) (hw : ∀ d ∈ tables_1, d.before a0 Z = true) (ws : List Jvm.Cond) (ob : Addr) (pa : Addr) (ta : Addr) (nn : Int32) (kk : Int32) (kp : ClassId) (kt : ClassId) (p0 : Int32) (p1 : Int32) (p2 : Int32) (p3 : Int32) (p4 : Int32) (g0 : Int32) (g1 : Int32) (g2 : Int32) (g3 : Int32) (g4 : Int32) (h0 : Heap) (n0 : Nat) (Zle : n0 ≤ h0.size) (E_ob : Exa Z h0 ob "com/example/emu/emu/TableForm") (F_ordinal_ob : Fld Z h0 ob "java/lang/Enum" "ordinal" "I" (.int kk)) (V_pa : Arv Z h0 pa kp .int nn [(.int p0), (.int p1), (.int p2), (.int p3), (.int p4)] (.int 0)) (V_ta : Arv Z h0 ta kt .int nn [(.int g0), (.int g1), (.int g2), (.int g3), (.int g4)] (.int 0)) (hj : (3 : Int32) < nn) (hkk : kk = 0 ∨ kk = 1 ∨ kk = 2 ∨ kk = 3) (hk : p2 = 0 ∨ p2 = 1 ∨ p2 = 2) :
    MetFree l (⟨"com/example/emu/emu/TableForm", "entry", "([I[II)I"⟩ : MethodName) (head1 (Jvm.Cond.code (⟨"com/example/emu/emu/TableForm", "entry", "([I[II)I"⟩ : MethodName) prog_24_method_5_code 6 (some .int) :: ws) ({ frames := 1, cells := 0, slots := 0, locals := 12 } : Room)) (fun a U => a = #[(.ref ob), (.ref pa), (.ref ta), (.int 3)] ∧ Z.Warmed39 U.vm ∧ U.heap = h0) (fun _ _ _ _ _ => True) (fun _ U o U' => ∃ v L, o = .returned v ∧ Q6_3 Z ob pa ta nn kk kp kt p0 p1 p2 p3 p4 g0 g1 g2 g3 g4 h0 n0 v U'.heap L ∧ FrameEnd U o U' L ({ frames := 1, cells := 0, slots := 0, locals := 12 } : Room).cells ({ frames := 1, cells := 0, slots := 0, locals := 12 } : Room).slots) := by
  refine MetFree.of_bodySF (plainFor_of_name pn_com_example_emu_emu_TableForm) hisR ?_
  intro p e s m args below meth c s₁ Bd hml0 hP hK
  obtain ⟨rfl, hZ, hh⟩ := hP
  have hx := Bd.exec
  have hby := Bd.bytes
  have hml : c.maxLocals = 6 := hml0
  have hown : s.vm.findClass "com/example/emu/emu/TableForm" = some m.cls := findClass_of_methodNamed Bd.named
  have hnm := (name_of_methodNamed Bd.named Bd.method).1
  have X0 : Stand p l e ({ frames := 1, cells := 0, slots := 0, locals := 12 } : Room) s m #[(.ref ob), (.ref pa), (.ref ta), (.int 3)] below meth c s₁ [] 0 0 := Stand.of_body Bd
  have e0 : s₁.heap = h0 := by rw [← hh, Bd.state]; rfl
  have N_ := Fr.nil n0
  show own_Goes p.tables e below s (Q6_3 Z ob pa ta nn kk kp kt p0 p1 p2 p3 p4 g0 g1 g2 g3 g4 h0 n0) ({ frames := 1, cells := 0, slots := 0, locals := 12 } : Room).cells ({ frames := 1, cells := 0, slots := 0, locals := 12 } : Room).slots s₁ (entryFrame m #[(.ref ob), (.ref pa), (.ref ta), (.int 3)] 6)
  refine own_by (T' := s₁) (g' := (mkF m 0 #[vR ob, vR pa, vR ta, vI 3, .unset, .unset] [])) (fun t k => castTop (ef_6_3 m ob pa ta) k) ?_
  refine own_by (T' := s₁) (g' := (mkF m 1 #[vR ob, vR pa, vR ta, vI 3, .unset, .unset] [(.int 3)])) (fun t k => XS.iloadN X0.here hx rfl (hb hby d6_0) rfl k) ?_
  refine own_by (T' := s₁) (g' := (mkF m 8 #[vR ob, vR pa, vR ta, vI 3, .unset, .unset] [])) (fun t k => XS.ifYes X0.here hx rfl (pc0 := 1) (pc' := 8) rfl (hb hby d6_1) rfl ((if0 _ _).trans (feq (by decide)).2) (by decide) (by decide) k) ?_
  refine own_by (T' := s₁) (g' := (mkF m 9 #[vR ob, vR pa, vR ta, vI 3, .unset, .unset] [(.ref pa)])) (fun t k => XS.aloadN X0.here hx rfl (hb hby d6_8) rfl rfl k) ?_
  refine own_by (T' := s₁) (g' := (mkF m 10 #[vR ob, vR pa, vR ta, vI 3, .unset, .unset] [(.int 3), (.ref pa)])) (fun t k => XS.iloadN X0.here hx rfl (hb hby d6_9) rfl k) ?_
  refine own_by (T' := s₁) (g' := (mkF m 11 #[vR ob, vR pa, vR ta, vI 3, .unset, .unset] [(.int 1), (.int 3), (.ref pa)])) (fun t k => XS.iconst X0.here hx rfl (hb hby d6_10) k) ?_
  refine own_by (T' := s₁) (g' := (mkF m 12 #[vR ob, vR pa, vR ta, vI 3, .unset, .unset] [(.int 2), (.ref pa)])) (fun t k => XS.isub X0.here hx rfl (hb hby d6_11) rfl k) ?_
  obtain ⟨cl1, Ar1, q1, S1, N1, Hs1, G1⟩ := id V_pa
  have hin1 : ¬ ((2 : Int32) < 0 ∨ cl1.slots.size ≤ ((2 : Int32)).toNatClampNeg) := inb_of S1 ⟨by decide, own_lt (by decide) hj⟩
  have hat1 : cl1.slots[((2 : Int32)).toNatClampNeg]? = some (.int p2) := Hs1.at hin1 rfl
  refine own_by (T' := s₁) (g' := (mkF m 13 #[vR ob, vR pa, vR ta, vI 3, .unset, .unset] [(.int p2)])) (fun t k => X0.iaload hx (j := (2 : Int32)) (v := (.int p2)) (by rw [e0]; exact Ar1.1) (State.isArrayOf_alike hZ.alike Ar1.2.1) Ar1.2.2 hin1 hat1 (g := (mkF m 12 #[vR ob, vR pa, vR ta, vI 3, .unset, .unset] [(.int 2), (.ref pa)])) rfl rfl (hb hby d6_12) _ k) ?_
  clear hat1 hin1 G1 Hs1 N1 S1 q1 Ar1 cl1
  refine own_by (T' := s₁) (g' := (mkF m 15 #[vR ob, vR pa, vR ta, vI 3, vI p2, .unset] [])) (fun t k => XS.istore X0.here hx rfl (hb hby d6_13) rfl (l' := #[vR ob, vR pa, vR ta, vI 3, vI p2, .unset]) rfl k) ?_
  have J36_2 : ∀ ss : Int32, ss = own_ss p3 (p2 + (1 : Int32)) → own_Goes p.tables e below s (Q6_3 Z ob pa ta nn kk kp kt p0 p1 p2 p3 p4 g0 g1 g2 g3 g4 h0 n0) ({ frames := 1, cells := 0, slots := 0, locals := 12 } : Room).cells ({ frames := 1, cells := 0, slots := 0, locals := 12 } : Room).slots s₁ (mkF m 36 #[vR ob, vR pa, vR ta, vI 3, vI p2, vI ss] []) := by
    intro ss h_ss
    refine own_by (T' := s₁) (g' := (mkF m 37 #[vR ob, vR pa, vR ta, vI 3, vI p2, vI ss] [(.ref ob)])) (fun t k => XS.aloadN X0.here hx rfl (hb hby d6_36) rfl rfl k) ?_
    obtain ⟨cq3, kq3, q3a, q3b, q3c⟩ := isOf hZ e0 E_ob
    obtain ⟨_, _, ⟨T3, L3, k3, n3⟩, -, X3, ⟨Lc3, hQ3, l3, y3, z3⟩, st3⟩ := X0.virtualBackUp hx (x := (⟨"com/example/emu/emu/TableForm", "ordinal", "()I"⟩ : MethodName)) (y := (⟨"java/lang/Enum", "ordinal", "()I"⟩ : MethodName)) (owner := "java/lang/Enum") hown (mvT hZ (hw _ (own_m 26 rfl))) (mvT hZ (hw _ (own_m 27 rfl))) (mvT hZ (hw _ (own_m 28 rfl))) (by decide) (mvT hZ (hw _ (own_m 30 rfl))) (mvT hZ (hw _ (own_m 29 rfl))) (backOf (W := 0) (rm7 l Z a0 hw [] ob kk h0 n0 Zle F_ordinal_ob) hZ (hw _ (own_m 32 rfl)) (hw _ (own_m 31 rfl)) (by decide) (by decide)) q3a q3c (g := (mkF m 37 #[vR ob, vR pa, vR ta, vI 3, vI p2, vI ss] [(.ref ob)])) rfl (by rw [hml]; rfl) (Steps.refl _) (argsL := []) (rest := []) (lenOf pd_6 rfl) rfl (own_le rfl) (hb hby d6_37) (fun _ _ => ⟨rfl, e0, (by decide : 0 + 0 ≤ _), (by decide : 0 + 0 ≤ _)⟩)
    dsimp only [Pt.U, Pt.locs, Pt.cells, Pt.slots] at X3 l3 y3 z3 st3 hQ3
    subst l3 y3 z3
    obtain ⟨rfl, Nq3, e3⟩ := hQ3
    replace N_ := Fr.app N_ Nq3
    clear Nq3
    refine own_by (T' := T3) (g' := (mkF m 40 #[vR ob, vR pa, vR ta, vI 3, vI p2, vI ss] [(.int kk)])) (fun t k => st3.trans k) ?_
    clear st3 X0 e0
    rcases hkk with rfl | rfl | rfl | rfl
    · refine own_by (T' := T3) (g' := (mkF m 82 #[vR ob, vR pa, vR ta, vI 3, vI p2, vI ss] [])) (fun t k => XS.tswIn X3.here hx rfl (pc0 := 40) (pc' := 82) rfl (hb hby d6_40) rfl (by decide) (o := 42) (by first | rfl | decide) (by decide) (by decide) k) ?_
      refine own_by (T' := T3) (g' := (mkF m 83 #[vR ob, vR pa, vR ta, vI 3, vI p2, vI ss] [(.ref pa)])) (fun t k => XS.aloadN X3.here hx rfl (hb hby d6_82) rfl rfl k) ?_
      refine own_by (T' := T3) (g' := (mkF m 84 #[vR ob, vR pa, vR ta, vI 3, vI p2, vI ss] [(.int 3), (.ref pa)])) (fun t k => XS.iloadN X3.here hx rfl (hb hby d6_83) rfl k) ?_
      obtain ⟨cl4, Ar4, q4, S4, N4, Hs4, G4⟩ := id V_pa
      have hin4 : ¬ ((3 : Int32) < 0 ∨ cl4.slots.size ≤ ((3 : Int32)).toNatClampNeg) := inb_of S4 ⟨by decide, own_lt (by decide) hj⟩
      have hat4 : cl4.slots[((3 : Int32)).toNatClampNeg]? = some (.int p3) := Hs4.at hin4 rfl
      refine own_by (T' := T3) (g' := (mkF m 85 #[vR ob, vR pa, vR ta, vI 3, vI p2, vI ss] [(.int p3)])) (fun t k => X3.iaload hx (j := (3 : Int32)) (v := (.int p3)) (by rw [e3]; exact Ar4.1) (State.isArrayOf_alike hZ.alike Ar4.2.1) Ar4.2.2 hin4 hat4 (g := (mkF m 84 #[vR ob, vR pa, vR ta, vI 3, vI p2, vI ss] [(.int 3), (.ref pa)])) rfl rfl (hb hby d6_84) _ k) ?_
      clear hat4 hin4 G4 Hs4 N4 S4 q4 Ar4 cl4
      refine own_by (T' := T3) (g' := (mkF m 114 #[vR ob, vR pa, vR ta, vI 3, vI p2, vI ss] [(.int p3)])) (fun t k => XS.goto X3.here hx rfl (pc0 := 85) (pc' := 114) rfl (hb hby d6_85) (by decide) (by decide) k) ?_
      exact own_retI X3 hx Bd.notSynchronized Bd.returns (hb hby d6_114) (by decide) (by decide) (by rw [e3]; exact ⟨rfl, N_, rfl⟩)
    · refine own_by (T' := T3) (g' := (mkF m 88 #[vR ob, vR pa, vR ta, vI 3, vI p2, vI ss] [])) (fun t k => XS.tswIn X3.here hx rfl (pc0 := 40) (pc' := 88) rfl (hb hby d6_40) rfl (by decide) (o := 48) (by first | rfl | decide) (by decide) (by decide) k) ?_
      refine own_by (T' := T3) (g' := (mkF m 90 #[vR ob, vR pa, vR ta, vI 3, vI p2, vI ss] [(.int p2)])) (fun t k => XS.iload X3.here hx rfl (hb hby d6_88) rfl k) ?_
      refine own_by (T' := T3) (g' := (mkF m 114 #[vR ob, vR pa, vR ta, vI 3, vI p2, vI ss] [(.int p2)])) (fun t k => XS.goto X3.here hx rfl (pc0 := 90) (pc' := 114) rfl (hb hby d6_90) (by decide) (by decide) k) ?_
      exact own_retI X3 hx Bd.notSynchronized Bd.returns (hb hby d6_114) (by decide) (by decide) (by rw [e3]; exact ⟨rfl, N_, rfl⟩)
    · refine own_by (T' := T3) (g' := (mkF m 93 #[vR ob, vR pa, vR ta, vI 3, vI p2, vI ss] [])) (fun t k => XS.tswIn X3.here hx rfl (pc0 := 40) (pc' := 93) rfl (hb hby d6_40) rfl (by decide) (o := 53) (by first | rfl | decide) (by decide) (by decide) k) ?_
      refine own_by (T' := T3) (g' := (mkF m 95 #[vR ob, vR pa, vR ta, vI 3, vI p2, vI ss] [(.int p2)])) (fun t k => XS.iload X3.here hx rfl (hb hby d6_93) rfl k) ?_
      refine own_by (T' := T3) (g' := (mkF m 96 #[vR ob, vR pa, vR ta, vI 3, vI p2, vI ss] [(.int 1), (.int p2)])) (fun t k => XS.iconst X3.here hx rfl (hb hby d6_95) k) ?_
      refine own_by (T' := T3) (g' := (mkF m 97 #[vR ob, vR pa, vR ta, vI 3, vI p2, vI ss] [(.int (p2 + (1 : Int32)))])) (fun t k => XS.iadd X3.here hx rfl (hb hby d6_96) rfl k) ?_
      refine own_by (T' := T3) (g' := (mkF m 114 #[vR ob, vR pa, vR ta, vI 3, vI p2, vI ss] [(.int (p2 + (1 : Int32)))])) (fun t k => XS.goto X3.here hx rfl (pc0 := 97) (pc' := 114) rfl (hb hby d6_97) (by decide) (by decide) k) ?_
      exact own_retI X3 hx Bd.notSynchronized Bd.returns (hb hby d6_114) (by decide) (by decide) (by rw [e3]; exact ⟨rfl, N_, rfl⟩)
    · refine own_by (T' := T3) (g' := (mkF m 100 #[vR ob, vR pa, vR ta, vI 3, vI p2, vI ss] [])) (fun t k => XS.tswIn X3.here hx rfl (pc0 := 40) (pc' := 100) rfl (hb hby d6_40) rfl (by decide) (o := 60) (by first | rfl | decide) (by decide) (by decide) k) ?_
      refine own_by (T' := T3) (g' := (mkF m 102 #[vR ob, vR pa, vR ta, vI 3, vI p2, vI ss] [(.int ss)])) (fun t k => XS.iload X3.here hx rfl (hb hby d6_100) rfl k) ?_
      by_cases hc102_5 : ss = (0 : Int32)
      · refine own_by (T' := T3) (g' := (mkF m 112 #[vR ob, vR pa, vR ta, vI 3, vI p2, vI ss] [])) (fun t k => XS.ifYes X3.here hx rfl (pc0 := 102) (pc' := 112) rfl (hb hby d6_102) rfl ((if0 _ _).trans (teq hc102_5).1) (by decide) (by decide) k) ?_
        refine own_by (T' := T3) (g' := (mkF m 114 #[vR ob, vR pa, vR ta, vI 3, vI p2, vI ss] [(.int p2)])) (fun t k => XS.iload X3.here hx rfl (hb hby d6_112) rfl k) ?_
        exact own_retI X3 hx Bd.notSynchronized Bd.returns (hb hby d6_114) (by decide) (by decide) (by rw [e3]; exact ⟨by show some (Value.int _) = some (Value.int (own_gvs p3 p2 g0 g1 g2 g3 g4)); rw [own_gvs, if_neg ((own_ss0 _ _).mp (h_ss ▸ hc102_5))], N_, rfl⟩)
      · refine own_by (T' := T3) (g' := (mkF m 105 #[vR ob, vR pa, vR ta, vI 3, vI p2, vI ss] [])) (fun t k => XS.ifNo X3.here hx rfl (hb hby d6_102) rfl ((if0 _ _).trans (feq hc102_5).1) k) ?_
        rcases hk with rfl | rfl | rfl
        · refine own_by (T' := T3) (g' := (mkF m 106 #[vR ob, vR pa, vR ta, vI 3, vI 0, vI ss] [(.ref ta)])) (fun t k => XS.aloadN X3.here hx rfl (hb hby d6_105) rfl rfl k) ?_
          refine own_by (T' := T3) (g' := (mkF m 108 #[vR ob, vR pa, vR ta, vI 3, vI 0, vI ss] [(.int 0), (.ref ta)])) (fun t k => XS.iload X3.here hx rfl (hb hby d6_106) rfl k) ?_
          obtain ⟨cl6, Ar6, q6, S6, N6, Hs6, G6⟩ := id V_ta
          have hin6 : ¬ ((0 : Int32) < 0 ∨ cl6.slots.size ≤ ((0 : Int32)).toNatClampNeg) := inb_of S6 ⟨by decide, own_lt (by decide) hj⟩
          have hat6 : cl6.slots[((0 : Int32)).toNatClampNeg]? = some (.int g0) := Hs6.at hin6 rfl
          refine own_by (T' := T3) (g' := (mkF m 109 #[vR ob, vR pa, vR ta, vI 3, vI 0, vI ss] [(.int g0)])) (fun t k => X3.iaload hx (j := (0 : Int32)) (v := (.int g0)) (by rw [e3]; exact Ar6.1) (State.isArrayOf_alike hZ.alike Ar6.2.1) Ar6.2.2 hin6 hat6 (g := (mkF m 108 #[vR ob, vR pa, vR ta, vI 3, vI 0, vI ss] [(.int 0), (.ref ta)])) rfl rfl (hb hby d6_108) _ k) ?_
          clear hat6 hin6 G6 Hs6 N6 S6 q6 Ar6 cl6
          refine own_by (T' := T3) (g' := (mkF m 114 #[vR ob, vR pa, vR ta, vI 3, vI 0, vI ss] [(.int g0)])) (fun t k => XS.goto X3.here hx rfl (pc0 := 109) (pc' := 114) rfl (hb hby d6_109) (by decide) (by decide) k) ?_
          exact own_retI X3 hx Bd.notSynchronized Bd.returns (hb hby d6_114) (by decide) (by decide) (by rw [e3]; exact ⟨by show some (Value.int _) = some (Value.int (own_gvs p3 (0) g0 g1 g2 g3 g4)); rw [own_gvs, if_pos (Decidable.of_not_not fun q => hc102_5 (h_ss ▸ (own_ss0 _ _).mpr q))]; rfl, N_, rfl⟩)
        · refine own_by (T' := T3) (g' := (mkF m 106 #[vR ob, vR pa, vR ta, vI 3, vI 1, vI ss] [(.ref ta)])) (fun t k => XS.aloadN X3.here hx rfl (hb hby d6_105) rfl rfl k) ?_
          refine own_by (T' := T3) (g' := (mkF m 108 #[vR ob, vR pa, vR ta, vI 3, vI 1, vI ss] [(.int 1), (.ref ta)])) (fun t k => XS.iload X3.here hx rfl (hb hby d6_106) rfl k) ?_
          obtain ⟨cl7, Ar7, q7, S7, N7, Hs7, G7⟩ := id V_ta
          have hin7 : ¬ ((1 : Int32) < 0 ∨ cl7.slots.size ≤ ((1 : Int32)).toNatClampNeg) := inb_of S7 ⟨by decide, own_lt (by decide) hj⟩
          have hat7 : cl7.slots[((1 : Int32)).toNatClampNeg]? = some (.int g1) := Hs7.at hin7 rfl
          refine own_by (T' := T3) (g' := (mkF m 109 #[vR ob, vR pa, vR ta, vI 3, vI 1, vI ss] [(.int g1)])) (fun t k => X3.iaload hx (j := (1 : Int32)) (v := (.int g1)) (by rw [e3]; exact Ar7.1) (State.isArrayOf_alike hZ.alike Ar7.2.1) Ar7.2.2 hin7 hat7 (g := (mkF m 108 #[vR ob, vR pa, vR ta, vI 3, vI 1, vI ss] [(.int 1), (.ref ta)])) rfl rfl (hb hby d6_108) _ k) ?_
          clear hat7 hin7 G7 Hs7 N7 S7 q7 Ar7 cl7
          refine own_by (T' := T3) (g' := (mkF m 114 #[vR ob, vR pa, vR ta, vI 3, vI 1, vI ss] [(.int g1)])) (fun t k => XS.goto X3.here hx rfl (pc0 := 109) (pc' := 114) rfl (hb hby d6_109) (by decide) (by decide) k) ?_
          exact own_retI X3 hx Bd.notSynchronized Bd.returns (hb hby d6_114) (by decide) (by decide) (by rw [e3]; exact ⟨by show some (Value.int _) = some (Value.int (own_gvs p3 (1) g0 g1 g2 g3 g4)); rw [own_gvs, if_pos (Decidable.of_not_not fun q => hc102_5 (h_ss ▸ (own_ss0 _ _).mpr q))]; rfl, N_, rfl⟩)
        · refine own_by (T' := T3) (g' := (mkF m 106 #[vR ob, vR pa, vR ta, vI 3, vI 2, vI ss] [(.ref ta)])) (fun t k => XS.aloadN X3.here hx rfl (hb hby d6_105) rfl rfl k) ?_
          refine own_by (T' := T3) (g' := (mkF m 108 #[vR ob, vR pa, vR ta, vI 3, vI 2, vI ss] [(.int 2), (.ref ta)])) (fun t k => XS.iload X3.here hx rfl (hb hby d6_106) rfl k) ?_
          obtain ⟨cl8, Ar8, q8, S8, N8, Hs8, G8⟩ := id V_ta
          have hin8 : ¬ ((2 : Int32) < 0 ∨ cl8.slots.size ≤ ((2 : Int32)).toNatClampNeg) := inb_of S8 ⟨by decide, own_lt (by decide) hj⟩
          have hat8 : cl8.slots[((2 : Int32)).toNatClampNeg]? = some (.int g2) := Hs8.at hin8 rfl
          refine own_by (T' := T3) (g' := (mkF m 109 #[vR ob, vR pa, vR ta, vI 3, vI 2, vI ss] [(.int g2)])) (fun t k => X3.iaload hx (j := (2 : Int32)) (v := (.int g2)) (by rw [e3]; exact Ar8.1) (State.isArrayOf_alike hZ.alike Ar8.2.1) Ar8.2.2 hin8 hat8 (g := (mkF m 108 #[vR ob, vR pa, vR ta, vI 3, vI 2, vI ss] [(.int 2), (.ref ta)])) rfl rfl (hb hby d6_108) _ k) ?_
          clear hat8 hin8 G8 Hs8 N8 S8 q8 Ar8 cl8
          refine own_by (T' := T3) (g' := (mkF m 114 #[vR ob, vR pa, vR ta, vI 3, vI 2, vI ss] [(.int g2)])) (fun t k => XS.goto X3.here hx rfl (pc0 := 109) (pc' := 114) rfl (hb hby d6_109) (by decide) (by decide) k) ?_
          exact own_retI X3 hx Bd.notSynchronized Bd.returns (hb hby d6_114) (by decide) (by decide) (by rw [e3]; exact ⟨by show some (Value.int _) = some (Value.int (own_gvs p3 (2) g0 g1 g2 g3 g4)); rw [own_gvs, if_pos (Decidable.of_not_not fun q => hc102_5 (h_ss ▸ (own_ss0 _ _).mpr q))]; rfl, N_, rfl⟩)
  refine own_by (T' := s₁) (g' := (mkF m 16 #[vR ob, vR pa, vR ta, vI 3, vI p2, .unset] [(.int 3)])) (fun t k => XS.iloadN X0.here hx rfl (hb hby d6_15) rfl k) ?_
  refine own_by (T' := s₁) (g' := (mkF m 19 #[vR ob, vR pa, vR ta, vI 3, vI p2, .unset] [])) (fun t k => XS.ifNo X0.here hx rfl (hb hby d6_16) rfl ((if0 _ _).trans (tlt (by decide)).2.2.2) k) ?_
  refine own_by (T' := s₁) (g' := (mkF m 20 #[vR ob, vR pa, vR ta, vI 3, vI p2, .unset] [(.ref pa)])) (fun t k => XS.aloadN X0.here hx rfl (hb hby d6_19) rfl rfl k) ?_
  refine own_by (T' := s₁) (g' := (mkF m 21 #[vR ob, vR pa, vR ta, vI 3, vI p2, .unset] [(.int 3), (.ref pa)])) (fun t k => XS.iloadN X0.here hx rfl (hb hby d6_20) rfl k) ?_
  obtain ⟨cl9, Ar9, q9, S9, N9, Hs9, G9⟩ := id V_pa
  have hin9 : ¬ ((3 : Int32) < 0 ∨ cl9.slots.size ≤ ((3 : Int32)).toNatClampNeg) := inb_of S9 ⟨by decide, own_lt (by decide) hj⟩
  have hat9 : cl9.slots[((3 : Int32)).toNatClampNeg]? = some (.int p3) := Hs9.at hin9 rfl
  refine own_by (T' := s₁) (g' := (mkF m 22 #[vR ob, vR pa, vR ta, vI 3, vI p2, .unset] [(.int p3)])) (fun t k => X0.iaload hx (j := (3 : Int32)) (v := (.int p3)) (by rw [e0]; exact Ar9.1) (State.isArrayOf_alike hZ.alike Ar9.2.1) Ar9.2.2 hin9 hat9 (g := (mkF m 21 #[vR ob, vR pa, vR ta, vI 3, vI p2, .unset] [(.int 3), (.ref pa)])) rfl rfl (hb hby d6_21) _ k) ?_
  clear hat9 hin9 G9 Hs9 N9 S9 q9 Ar9 cl9
  refine own_by (T' := s₁) (g' := (mkF m 24 #[vR ob, vR pa, vR ta, vI 3, vI p2, .unset] [(.int p2), (.int p3)])) (fun t k => XS.iload X0.here hx rfl (hb hby d6_22) rfl k) ?_
  refine own_by (T' := s₁) (g' := (mkF m 25 #[vR ob, vR pa, vR ta, vI 3, vI p2, .unset] [(.int 1), (.int p2), (.int p3)])) (fun t k => XS.iconst X0.here hx rfl (hb hby d6_24) k) ?_
  refine own_by (T' := s₁) (g' := (mkF m 26 #[vR ob, vR pa, vR ta, vI 3, vI p2, .unset] [(.int (p2 + (1 : Int32))), (.int p3)])) (fun t k => XS.iadd X0.here hx rfl (hb hby d6_25) rfl k) ?_
  by_cases hc26_10 : p3 = (p2 + (1 : Int32))
  · refine own_by (T' := s₁) (g' := (mkF m 29 #[vR ob, vR pa, vR ta, vI 3, vI p2, .unset] [])) (fun t k => XS.icmpNo X0.here hx rfl (hb hby d6_26) rfl (teq hc26_10).2 k) ?_
    refine own_by (T' := s₁) (g' := (mkF m 30 #[vR ob, vR pa, vR ta, vI 3, vI p2, .unset] [(.int 1)])) (fun t k => XS.iconst X0.here hx rfl (hb hby d6_29) k) ?_
    refine own_by (T' := s₁) (g' := (mkF m 34 #[vR ob, vR pa, vR ta, vI 3, vI p2, .unset] [(.int 1)])) (fun t k => XS.goto X0.here hx rfl (pc0 := 30) (pc' := 34) rfl (hb hby d6_30) (by decide) (by decide) k) ?_
    refine own_by (T' := s₁) (g' := (mkF m 36 #[vR ob, vR pa, vR ta, vI 3, vI p2, vI 1] [])) (fun t k => XS.istore X0.here hx rfl (hb hby d6_34) rfl (l' := #[vR ob, vR pa, vR ta, vI 3, vI p2, vI 1]) rfl k) ?_
    exact J36_2 _ (by unfold own_ss; rw [if_pos hc26_10])
  · refine own_by (T' := s₁) (g' := (mkF m 33 #[vR ob, vR pa, vR ta, vI 3, vI p2, .unset] [])) (fun t k => XS.icmpYes X0.here hx rfl (pc0 := 26) (pc' := 33) rfl (hb hby d6_26) rfl (feq hc26_10).2 (by decide) (by decide) k) ?_
    refine own_by (T' := s₁) (g' := (mkF m 34 #[vR ob, vR pa, vR ta, vI 3, vI p2, .unset] [(.int 0)])) (fun t k => XS.iconst X0.here hx rfl (hb hby d6_33) k) ?_
    refine own_by (T' := s₁) (g' := (mkF m 36 #[vR ob, vR pa, vR ta, vI 3, vI p2, vI 0] [])) (fun t k => XS.istore X0.here hx rfl (hb hby d6_34) rfl (l' := #[vR ob, vR pa, vR ta, vI 3, vI p2, vI 0]) rfl k) ?_
    exact J36_2 _ (by unfold own_ss; rw [if_neg hc26_10])

def Q6_4 (Z : State) (ob : Addr) (pa : Addr) (ta : Addr) (nn : Int32) (kk : Int32) (kp : ClassId) (kt : ClassId) (p0 : Int32) (p1 : Int32) (p2 : Int32) (p3 : Int32) (p4 : Int32) (g0 : Int32) (g1 : Int32) (g2 : Int32) (g3 : Int32) (g4 : Int32) (h0 : Heap) (n0 : Nat) (v : Option Value) (h : Heap) (L : List Loc) : Prop := v = some (.int (own_ev kk p4 p3 g0 g1 g2 g3 g4)) ∧ Fr n0 L ∧ h = h0
theorem ef_6_4 (m : MethodId) (ob : Addr) (pa : Addr) (ta : Addr) : entryFrame m #[(.ref ob), (.ref pa), (.ref ta), (.int 4)] 6 = mkF m 0 #[vR ob, vR pa, vR ta, vI 4, .unset, .unset] [] := by first | (simp [entryFrame, mkF, argsToLocals, Value.category]; done) | rfl
set_option maxRecDepth 65536 in
set_option maxHeartbeats 40000000 in
theorem rm6_4 (l : Launch) (Z : State) (a0 : Array Value) (hw : ∀ d ∈ tables_1, d.before a0 Z = true) (ws : List Jvm.Cond) (ob : Addr) (pa : Addr) (ta : Addr) (nn : Int32) (kk : Int32) (kp : ClassId) (kt : ClassId) (p0 : Int32) (p1 : Int32) (p2 : Int32) (p3 : Int32) (p4 : Int32) (g0 : Int32) (g1 : Int32) (g2 : Int32) (g3 : Int32) (g4 : Int32) (h0 : Heap) (n0 : Nat) (Zle : n0 ≤ h0.size) (E_ob : Exa Z h0 ob "com/example/emu/emu/TableForm") (F_ordinal_ob : Fld Z h0 ob "java/lang/Enum" "ordinal" "I" (.int kk)) (V_pa : Arv Z h0 pa kp .int nn [(.int p0), (.int p1), (.int p2), (.int p3), (.int p4)] (.int 0)) (V_ta : Arv Z h0 ta kt .int nn [(.int g0), (.int g1), (.int g2), (.int g3), (.int g4)] (.int 0)) (hj : (4 : Int32) < nn) (hkk : kk = 0 ∨ kk = 1 ∨ kk = 2 ∨ kk = 3) (hk : p3 = 0 ∨ p3 = 1 ∨ p3 = 2 ∨ p3 = 3) :
    MetFree l (⟨"com/example/emu/emu/TableForm", "entry", "([I[II)I"⟩ : MethodName) (head1 (Jvm.Cond.code (⟨"com/example/emu/emu/TableForm", "entry", "([I[II)I"⟩ : MethodName) prog_24_method_5_code 6 (some .int) :: ws) ({ frames := 1, cells := 0, slots := 0, locals := 12 } : Room)) (fun a U => a = #[(.ref ob), (.ref pa), (.ref ta), (.int 4)] ∧ Z.Warmed39 U.vm ∧ U.heap = h0) (fun _ _ _ _ _ => True) (fun _ U o U' => ∃ v L, o = .returned v ∧ Q6_4 Z ob pa ta nn kk kp kt p0 p1 p2 p3 p4 g0 g1 g2 g3 g4 h0 n0 v U'.heap L ∧ FrameEnd U o U' L ({ frames := 1, cells := 0, slots := 0, locals := 12 } : Room).cells ({ frames := 1, cells := 0, slots := 0, locals := 12 } : Room).slots) := by
  refine MetFree.of_bodySF (plainFor_of_name pn_com_example_emu_emu_TableForm) hisR ?_
  intro p e s m args below meth c s₁ Bd hml0 hP hK
  obtain ⟨rfl, hZ, hh⟩ := hP
  have hx := Bd.exec
  have hby := Bd.bytes
  have hml : c.maxLocals = 6 := hml0
  have hown : s.vm.findClass "com/example/emu/emu/TableForm" = some m.cls := findClass_of_methodNamed Bd.named
  have hnm := (name_of_methodNamed Bd.named Bd.method).1
  have X0 : Stand p l e ({ frames := 1, cells := 0, slots := 0, locals := 12 } : Room) s m #[(.ref ob), (.ref pa), (.ref ta), (.int 4)] below meth c s₁ [] 0 0 := Stand.of_body Bd
  have e0 : s₁.heap = h0 := by rw [← hh, Bd.state]; rfl
  have N_ := Fr.nil n0
  show own_Goes p.tables e below s (Q6_4 Z ob pa ta nn kk kp kt p0 p1 p2 p3 p4 g0 g1 g2 g3 g4 h0 n0) ({ frames := 1, cells := 0, slots := 0, locals := 12 } : Room).cells ({ frames := 1, cells := 0, slots := 0, locals := 12 } : Room).slots s₁ (entryFrame m #[(.ref ob), (.ref pa), (.ref ta), (.int 4)] 6)
  refine own_by (T' := s₁) (g' := (mkF m 0 #[vR ob, vR pa, vR ta, vI 4, .unset, .unset] [])) (fun t k => castTop (ef_6_4 m ob pa ta) k) ?_
  refine own_by (T' := s₁) (g' := (mkF m 1 #[vR ob, vR pa, vR ta, vI 4, .unset, .unset] [(.int 4)])) (fun t k => XS.iloadN X0.here hx rfl (hb hby d6_0) rfl k) ?_
  refine own_by (T' := s₁) (g' := (mkF m 8 #[vR ob, vR pa, vR ta, vI 4, .unset, .unset] [])) (fun t k => XS.ifYes X0.here hx rfl (pc0 := 1) (pc' := 8) rfl (hb hby d6_1) rfl ((if0 _ _).trans (feq (by decide)).2) (by decide) (by decide) k) ?_
  refine own_by (T' := s₁) (g' := (mkF m 9 #[vR ob, vR pa, vR ta, vI 4, .unset, .unset] [(.ref pa)])) (fun t k => XS.aloadN X0.here hx rfl (hb hby d6_8) rfl rfl k) ?_
  refine own_by (T' := s₁) (g' := (mkF m 10 #[vR ob, vR pa, vR ta, vI 4, .unset, .unset] [(.int 4), (.ref pa)])) (fun t k => XS.iloadN X0.here hx rfl (hb hby d6_9) rfl k) ?_
  refine own_by (T' := s₁) (g' := (mkF m 11 #[vR ob, vR pa, vR ta, vI 4, .unset, .unset] [(.int 1), (.int 4), (.ref pa)])) (fun t k => XS.iconst X0.here hx rfl (hb hby d6_10) k) ?_
  refine own_by (T' := s₁) (g' := (mkF m 12 #[vR ob, vR pa, vR ta, vI 4, .unset, .unset] [(.int 3), (.ref pa)])) (fun t k => XS.isub X0.here hx rfl (hb hby d6_11) rfl k) ?_
  obtain ⟨cl1, Ar1, q1, S1, N1, Hs1, G1⟩ := id V_pa
  have hin1 : ¬ ((3 : Int32) < 0 ∨ cl1.slots.size ≤ ((3 : Int32)).toNatClampNeg) := inb_of S1 ⟨by decide, own_lt (by decide) hj⟩
  have hat1 : cl1.slots[((3 : Int32)).toNatClampNeg]? = some (.int p3) := Hs1.at hin1 rfl
  refine own_by (T' := s₁) (g' := (mkF m 13 #[vR ob, vR pa, vR ta, vI 4, .unset, .unset] [(.int p3)])) (fun t k => X0.iaload hx (j := (3 : Int32)) (v := (.int p3)) (by rw [e0]; exact Ar1.1) (State.isArrayOf_alike hZ.alike Ar1.2.1) Ar1.2.2 hin1 hat1 (g := (mkF m 12 #[vR ob, vR pa, vR ta, vI 4, .unset, .unset] [(.int 3), (.ref pa)])) rfl rfl (hb hby d6_12) _ k) ?_
  clear hat1 hin1 G1 Hs1 N1 S1 q1 Ar1 cl1
  refine own_by (T' := s₁) (g' := (mkF m 15 #[vR ob, vR pa, vR ta, vI 4, vI p3, .unset] [])) (fun t k => XS.istore X0.here hx rfl (hb hby d6_13) rfl (l' := #[vR ob, vR pa, vR ta, vI 4, vI p3, .unset]) rfl k) ?_
  have J36_2 : ∀ ss : Int32, ss = own_ss p4 (p3 + (1 : Int32)) → own_Goes p.tables e below s (Q6_4 Z ob pa ta nn kk kp kt p0 p1 p2 p3 p4 g0 g1 g2 g3 g4 h0 n0) ({ frames := 1, cells := 0, slots := 0, locals := 12 } : Room).cells ({ frames := 1, cells := 0, slots := 0, locals := 12 } : Room).slots s₁ (mkF m 36 #[vR ob, vR pa, vR ta, vI 4, vI p3, vI ss] []) := by
    intro ss h_ss
    refine own_by (T' := s₁) (g' := (mkF m 37 #[vR ob, vR pa, vR ta, vI 4, vI p3, vI ss] [(.ref ob)])) (fun t k => XS.aloadN X0.here hx rfl (hb hby d6_36) rfl rfl k) ?_
    obtain ⟨cq3, kq3, q3a, q3b, q3c⟩ := isOf hZ e0 E_ob
    obtain ⟨_, _, ⟨T3, L3, k3, n3⟩, -, X3, ⟨Lc3, hQ3, l3, y3, z3⟩, st3⟩ := X0.virtualBackUp hx (x := (⟨"com/example/emu/emu/TableForm", "ordinal", "()I"⟩ : MethodName)) (y := (⟨"java/lang/Enum", "ordinal", "()I"⟩ : MethodName)) (owner := "java/lang/Enum") hown (mvT hZ (hw _ (own_m 26 rfl))) (mvT hZ (hw _ (own_m 27 rfl))) (mvT hZ (hw _ (own_m 28 rfl))) (by decide) (mvT hZ (hw _ (own_m 30 rfl))) (mvT hZ (hw _ (own_m 29 rfl))) (backOf (W := 0) (rm7 l Z a0 hw [] ob kk h0 n0 Zle F_ordinal_ob) hZ (hw _ (own_m 32 rfl)) (hw _ (own_m 31 rfl)) (by decide) (by decide)) q3a q3c (g := (mkF m 37 #[vR ob, vR pa, vR ta, vI 4, vI p3, vI ss] [(.ref ob)])) rfl (by rw [hml]; rfl) (Steps.refl _) (argsL := []) (rest := []) (lenOf pd_6 rfl) rfl (own_le rfl) (hb hby d6_37) (fun _ _ => ⟨rfl, e0, (by decide : 0 + 0 ≤ _), (by decide : 0 + 0 ≤ _)⟩)
    dsimp only [Pt.U, Pt.locs, Pt.cells, Pt.slots] at X3 l3 y3 z3 st3 hQ3
    subst l3 y3 z3
    obtain ⟨rfl, Nq3, e3⟩ := hQ3
    replace N_ := Fr.app N_ Nq3
    clear Nq3
    refine own_by (T' := T3) (g' := (mkF m 40 #[vR ob, vR pa, vR ta, vI 4, vI p3, vI ss] [(.int kk)])) (fun t k => st3.trans k) ?_
    clear st3 X0 e0
    rcases hkk with rfl | rfl | rfl | rfl
    · refine own_by (T' := T3) (g' := (mkF m 82 #[vR ob, vR pa, vR ta, vI 4, vI p3, vI ss] [])) (fun t k => XS.tswIn X3.here hx rfl (pc0 := 40) (pc' := 82) rfl (hb hby d6_40) rfl (by decide) (o := 42) (by first | rfl | decide) (by decide) (by decide) k) ?_
      refine own_by (T' := T3) (g' := (mkF m 83 #[vR ob, vR pa, vR ta, vI 4, vI p3, vI ss] [(.ref pa)])) (fun t k => XS.aloadN X3.here hx rfl (hb hby d6_82) rfl rfl k) ?_
      refine own_by (T' := T3) (g' := (mkF m 84 #[vR ob, vR pa, vR ta, vI 4, vI p3, vI ss] [(.int 4), (.ref pa)])) (fun t k => XS.iloadN X3.here hx rfl (hb hby d6_83) rfl k) ?_
      obtain ⟨cl4, Ar4, q4, S4, N4, Hs4, G4⟩ := id V_pa
      have hin4 : ¬ ((4 : Int32) < 0 ∨ cl4.slots.size ≤ ((4 : Int32)).toNatClampNeg) := inb_of S4 ⟨by decide, own_lt (by decide) hj⟩
      have hat4 : cl4.slots[((4 : Int32)).toNatClampNeg]? = some (.int p4) := Hs4.at hin4 rfl
      refine own_by (T' := T3) (g' := (mkF m 85 #[vR ob, vR pa, vR ta, vI 4, vI p3, vI ss] [(.int p4)])) (fun t k => X3.iaload hx (j := (4 : Int32)) (v := (.int p4)) (by rw [e3]; exact Ar4.1) (State.isArrayOf_alike hZ.alike Ar4.2.1) Ar4.2.2 hin4 hat4 (g := (mkF m 84 #[vR ob, vR pa, vR ta, vI 4, vI p3, vI ss] [(.int 4), (.ref pa)])) rfl rfl (hb hby d6_84) _ k) ?_
      clear hat4 hin4 G4 Hs4 N4 S4 q4 Ar4 cl4
      refine own_by (T' := T3) (g' := (mkF m 114 #[vR ob, vR pa, vR ta, vI 4, vI p3, vI ss] [(.int p4)])) (fun t k => XS.goto X3.here hx rfl (pc0 := 85) (pc' := 114) rfl (hb hby d6_85) (by decide) (by decide) k) ?_
      exact own_retI X3 hx Bd.notSynchronized Bd.returns (hb hby d6_114) (by decide) (by decide) (by rw [e3]; exact ⟨rfl, N_, rfl⟩)
    · refine own_by (T' := T3) (g' := (mkF m 88 #[vR ob, vR pa, vR ta, vI 4, vI p3, vI ss] [])) (fun t k => XS.tswIn X3.here hx rfl (pc0 := 40) (pc' := 88) rfl (hb hby d6_40) rfl (by decide) (o := 48) (by first | rfl | decide) (by decide) (by decide) k) ?_
      refine own_by (T' := T3) (g' := (mkF m 90 #[vR ob, vR pa, vR ta, vI 4, vI p3, vI ss] [(.int p3)])) (fun t k => XS.iload X3.here hx rfl (hb hby d6_88) rfl k) ?_
      refine own_by (T' := T3) (g' := (mkF m 114 #[vR ob, vR pa, vR ta, vI 4, vI p3, vI ss] [(.int p3)])) (fun t k => XS.goto X3.here hx rfl (pc0 := 90) (pc' := 114) rfl (hb hby d6_90) (by decide) (by decide) k) ?_
      exact own_retI X3 hx Bd.notSynchronized Bd.returns (hb hby d6_114) (by decide) (by decide) (by rw [e3]; exact ⟨rfl, N_, rfl⟩)
    · refine own_by (T' := T3) (g' := (mkF m 93 #[vR ob, vR pa, vR ta, vI 4, vI p3, vI ss] [])) (fun t k => XS.tswIn X3.here hx rfl (pc0 := 40) (pc' := 93) rfl (hb hby d6_40) rfl (by decide) (o := 53) (by first | rfl | decide) (by decide) (by decide) k) ?_
      refine own_by (T' := T3) (g' := (mkF m 95 #[vR ob, vR pa, vR ta, vI 4, vI p3, vI ss] [(.int p3)])) (fun t k => XS.iload X3.here hx rfl (hb hby d6_93) rfl k) ?_
      refine own_by (T' := T3) (g' := (mkF m 96 #[vR ob, vR pa, vR ta, vI 4, vI p3, vI ss] [(.int 1), (.int p3)])) (fun t k => XS.iconst X3.here hx rfl (hb hby d6_95) k) ?_
      refine own_by (T' := T3) (g' := (mkF m 97 #[vR ob, vR pa, vR ta, vI 4, vI p3, vI ss] [(.int (p3 + (1 : Int32)))])) (fun t k => XS.iadd X3.here hx rfl (hb hby d6_96) rfl k) ?_
      refine own_by (T' := T3) (g' := (mkF m 114 #[vR ob, vR pa, vR ta, vI 4, vI p3, vI ss] [(.int (p3 + (1 : Int32)))])) (fun t k => XS.goto X3.here hx rfl (pc0 := 97) (pc' := 114) rfl (hb hby d6_97) (by decide) (by decide) k) ?_
      exact own_retI X3 hx Bd.notSynchronized Bd.returns (hb hby d6_114) (by decide) (by decide) (by rw [e3]; exact ⟨rfl, N_, rfl⟩)
    · refine own_by (T' := T3) (g' := (mkF m 100 #[vR ob, vR pa, vR ta, vI 4, vI p3, vI ss] [])) (fun t k => XS.tswIn X3.here hx rfl (pc0 := 40) (pc' := 100) rfl (hb hby d6_40) rfl (by decide) (o := 60) (by first | rfl | decide) (by decide) (by decide) k) ?_
      refine own_by (T' := T3) (g' := (mkF m 102 #[vR ob, vR pa, vR ta, vI 4, vI p3, vI ss] [(.int ss)])) (fun t k => XS.iload X3.here hx rfl (hb hby d6_100) rfl k) ?_
      by_cases hc102_5 : ss = (0 : Int32)
      · refine own_by (T' := T3) (g' := (mkF m 112 #[vR ob, vR pa, vR ta, vI 4, vI p3, vI ss] [])) (fun t k => XS.ifYes X3.here hx rfl (pc0 := 102) (pc' := 112) rfl (hb hby d6_102) rfl ((if0 _ _).trans (teq hc102_5).1) (by decide) (by decide) k) ?_
        refine own_by (T' := T3) (g' := (mkF m 114 #[vR ob, vR pa, vR ta, vI 4, vI p3, vI ss] [(.int p3)])) (fun t k => XS.iload X3.here hx rfl (hb hby d6_112) rfl k) ?_
        exact own_retI X3 hx Bd.notSynchronized Bd.returns (hb hby d6_114) (by decide) (by decide) (by rw [e3]; exact ⟨by show some (Value.int _) = some (Value.int (own_gvs p4 p3 g0 g1 g2 g3 g4)); rw [own_gvs, if_neg ((own_ss0 _ _).mp (h_ss ▸ hc102_5))], N_, rfl⟩)
      · refine own_by (T' := T3) (g' := (mkF m 105 #[vR ob, vR pa, vR ta, vI 4, vI p3, vI ss] [])) (fun t k => XS.ifNo X3.here hx rfl (hb hby d6_102) rfl ((if0 _ _).trans (feq hc102_5).1) k) ?_
        rcases hk with rfl | rfl | rfl | rfl
        · refine own_by (T' := T3) (g' := (mkF m 106 #[vR ob, vR pa, vR ta, vI 4, vI 0, vI ss] [(.ref ta)])) (fun t k => XS.aloadN X3.here hx rfl (hb hby d6_105) rfl rfl k) ?_
          refine own_by (T' := T3) (g' := (mkF m 108 #[vR ob, vR pa, vR ta, vI 4, vI 0, vI ss] [(.int 0), (.ref ta)])) (fun t k => XS.iload X3.here hx rfl (hb hby d6_106) rfl k) ?_
          obtain ⟨cl6, Ar6, q6, S6, N6, Hs6, G6⟩ := id V_ta
          have hin6 : ¬ ((0 : Int32) < 0 ∨ cl6.slots.size ≤ ((0 : Int32)).toNatClampNeg) := inb_of S6 ⟨by decide, own_lt (by decide) hj⟩
          have hat6 : cl6.slots[((0 : Int32)).toNatClampNeg]? = some (.int g0) := Hs6.at hin6 rfl
          refine own_by (T' := T3) (g' := (mkF m 109 #[vR ob, vR pa, vR ta, vI 4, vI 0, vI ss] [(.int g0)])) (fun t k => X3.iaload hx (j := (0 : Int32)) (v := (.int g0)) (by rw [e3]; exact Ar6.1) (State.isArrayOf_alike hZ.alike Ar6.2.1) Ar6.2.2 hin6 hat6 (g := (mkF m 108 #[vR ob, vR pa, vR ta, vI 4, vI 0, vI ss] [(.int 0), (.ref ta)])) rfl rfl (hb hby d6_108) _ k) ?_
          clear hat6 hin6 G6 Hs6 N6 S6 q6 Ar6 cl6
          refine own_by (T' := T3) (g' := (mkF m 114 #[vR ob, vR pa, vR ta, vI 4, vI 0, vI ss] [(.int g0)])) (fun t k => XS.goto X3.here hx rfl (pc0 := 109) (pc' := 114) rfl (hb hby d6_109) (by decide) (by decide) k) ?_
          exact own_retI X3 hx Bd.notSynchronized Bd.returns (hb hby d6_114) (by decide) (by decide) (by rw [e3]; exact ⟨by show some (Value.int _) = some (Value.int (own_gvs p4 (0) g0 g1 g2 g3 g4)); rw [own_gvs, if_pos (Decidable.of_not_not fun q => hc102_5 (h_ss ▸ (own_ss0 _ _).mpr q))]; rfl, N_, rfl⟩)
        · refine own_by (T' := T3) (g' := (mkF m 106 #[vR ob, vR pa, vR ta, vI 4, vI 1, vI ss] [(.ref ta)])) (fun t k => XS.aloadN X3.here hx rfl (hb hby d6_105) rfl rfl k) ?_
          refine own_by (T' := T3) (g' := (mkF m 108 #[vR ob, vR pa, vR ta, vI 4, vI 1, vI ss] [(.int 1), (.ref ta)])) (fun t k => XS.iload X3.here hx rfl (hb hby d6_106) rfl k) ?_
          obtain ⟨cl7, Ar7, q7, S7, N7, Hs7, G7⟩ := id V_ta
          have hin7 : ¬ ((1 : Int32) < 0 ∨ cl7.slots.size ≤ ((1 : Int32)).toNatClampNeg) := inb_of S7 ⟨by decide, own_lt (by decide) hj⟩
          have hat7 : cl7.slots[((1 : Int32)).toNatClampNeg]? = some (.int g1) := Hs7.at hin7 rfl
          refine own_by (T' := T3) (g' := (mkF m 109 #[vR ob, vR pa, vR ta, vI 4, vI 1, vI ss] [(.int g1)])) (fun t k => X3.iaload hx (j := (1 : Int32)) (v := (.int g1)) (by rw [e3]; exact Ar7.1) (State.isArrayOf_alike hZ.alike Ar7.2.1) Ar7.2.2 hin7 hat7 (g := (mkF m 108 #[vR ob, vR pa, vR ta, vI 4, vI 1, vI ss] [(.int 1), (.ref ta)])) rfl rfl (hb hby d6_108) _ k) ?_
          clear hat7 hin7 G7 Hs7 N7 S7 q7 Ar7 cl7
          refine own_by (T' := T3) (g' := (mkF m 114 #[vR ob, vR pa, vR ta, vI 4, vI 1, vI ss] [(.int g1)])) (fun t k => XS.goto X3.here hx rfl (pc0 := 109) (pc' := 114) rfl (hb hby d6_109) (by decide) (by decide) k) ?_
          exact own_retI X3 hx Bd.notSynchronized Bd.returns (hb hby d6_114) (by decide) (by decide) (by rw [e3]; exact ⟨by show some (Value.int _) = some (Value.int (own_gvs p4 (1) g0 g1 g2 g3 g4)); rw [own_gvs, if_pos (Decidable.of_not_not fun q => hc102_5 (h_ss ▸ (own_ss0 _ _).mpr q))]; rfl, N_, rfl⟩)
        · refine own_by (T' := T3) (g' := (mkF m 106 #[vR ob, vR pa, vR ta, vI 4, vI 2, vI ss] [(.ref ta)])) (fun t k => XS.aloadN X3.here hx rfl (hb hby d6_105) rfl rfl k) ?_
          refine own_by (T' := T3) (g' := (mkF m 108 #[vR ob, vR pa, vR ta, vI 4, vI 2, vI ss] [(.int 2), (.ref ta)])) (fun t k => XS.iload X3.here hx rfl (hb hby d6_106) rfl k) ?_
          obtain ⟨cl8, Ar8, q8, S8, N8, Hs8, G8⟩ := id V_ta
          have hin8 : ¬ ((2 : Int32) < 0 ∨ cl8.slots.size ≤ ((2 : Int32)).toNatClampNeg) := inb_of S8 ⟨by decide, own_lt (by decide) hj⟩
          have hat8 : cl8.slots[((2 : Int32)).toNatClampNeg]? = some (.int g2) := Hs8.at hin8 rfl
          refine own_by (T' := T3) (g' := (mkF m 109 #[vR ob, vR pa, vR ta, vI 4, vI 2, vI ss] [(.int g2)])) (fun t k => X3.iaload hx (j := (2 : Int32)) (v := (.int g2)) (by rw [e3]; exact Ar8.1) (State.isArrayOf_alike hZ.alike Ar8.2.1) Ar8.2.2 hin8 hat8 (g := (mkF m 108 #[vR ob, vR pa, vR ta, vI 4, vI 2, vI ss] [(.int 2), (.ref ta)])) rfl rfl (hb hby d6_108) _ k) ?_
          clear hat8 hin8 G8 Hs8 N8 S8 q8 Ar8 cl8
          refine own_by (T' := T3) (g' := (mkF m 114 #[vR ob, vR pa, vR ta, vI 4, vI 2, vI ss] [(.int g2)])) (fun t k => XS.goto X3.here hx rfl (pc0 := 109) (pc' := 114) rfl (hb hby d6_109) (by decide) (by decide) k) ?_
          exact own_retI X3 hx Bd.notSynchronized Bd.returns (hb hby d6_114) (by decide) (by decide) (by rw [e3]; exact ⟨by show some (Value.int _) = some (Value.int (own_gvs p4 (2) g0 g1 g2 g3 g4)); rw [own_gvs, if_pos (Decidable.of_not_not fun q => hc102_5 (h_ss ▸ (own_ss0 _ _).mpr q))]; rfl, N_, rfl⟩)
        · refine own_by (T' := T3) (g' := (mkF m 106 #[vR ob, vR pa, vR ta, vI 4, vI 3, vI ss] [(.ref ta)])) (fun t k => XS.aloadN X3.here hx rfl (hb hby d6_105) rfl rfl k) ?_
          refine own_by (T' := T3) (g' := (mkF m 108 #[vR ob, vR pa, vR ta, vI 4, vI 3, vI ss] [(.int 3), (.ref ta)])) (fun t k => XS.iload X3.here hx rfl (hb hby d6_106) rfl k) ?_
          obtain ⟨cl9, Ar9, q9, S9, N9, Hs9, G9⟩ := id V_ta
          have hin9 : ¬ ((3 : Int32) < 0 ∨ cl9.slots.size ≤ ((3 : Int32)).toNatClampNeg) := inb_of S9 ⟨by decide, own_lt (by decide) hj⟩
          have hat9 : cl9.slots[((3 : Int32)).toNatClampNeg]? = some (.int g3) := Hs9.at hin9 rfl
          refine own_by (T' := T3) (g' := (mkF m 109 #[vR ob, vR pa, vR ta, vI 4, vI 3, vI ss] [(.int g3)])) (fun t k => X3.iaload hx (j := (3 : Int32)) (v := (.int g3)) (by rw [e3]; exact Ar9.1) (State.isArrayOf_alike hZ.alike Ar9.2.1) Ar9.2.2 hin9 hat9 (g := (mkF m 108 #[vR ob, vR pa, vR ta, vI 4, vI 3, vI ss] [(.int 3), (.ref ta)])) rfl rfl (hb hby d6_108) _ k) ?_
          clear hat9 hin9 G9 Hs9 N9 S9 q9 Ar9 cl9
          refine own_by (T' := T3) (g' := (mkF m 114 #[vR ob, vR pa, vR ta, vI 4, vI 3, vI ss] [(.int g3)])) (fun t k => XS.goto X3.here hx rfl (pc0 := 109) (pc' := 114) rfl (hb hby d6_109) (by decide) (by decide) k) ?_
          exact own_retI X3 hx Bd.notSynchronized Bd.returns (hb hby d6_114) (by decide) (by decide) (by rw [e3]; exact ⟨by show some (Value.int _) = some (Value.int (own_gvs p4 (3) g0 g1 g2 g3 g4)); rw [own_gvs, if_pos (Decidable.of_not_not fun q => hc102_5 (h_ss ▸ (own_ss0 _ _).mpr q))]; rfl, N_, rfl⟩)
  refine own_by (T' := s₁) (g' := (mkF m 16 #[vR ob, vR pa, vR ta, vI 4, vI p3, .unset] [(.int 4)])) (fun t k => XS.iloadN X0.here hx rfl (hb hby d6_15) rfl k) ?_
  refine own_by (T' := s₁) (g' := (mkF m 19 #[vR ob, vR pa, vR ta, vI 4, vI p3, .unset] [])) (fun t k => XS.ifNo X0.here hx rfl (hb hby d6_16) rfl ((if0 _ _).trans (tlt (by decide)).2.2.2) k) ?_
  refine own_by (T' := s₁) (g' := (mkF m 20 #[vR ob, vR pa, vR ta, vI 4, vI p3, .unset] [(.ref pa)])) (fun t k => XS.aloadN X0.here hx rfl (hb hby d6_19) rfl rfl k) ?_
  refine own_by (T' := s₁) (g' := (mkF m 21 #[vR ob, vR pa, vR ta, vI 4, vI p3, .unset] [(.int 4), (.ref pa)])) (fun t k => XS.iloadN X0.here hx rfl (hb hby d6_20) rfl k) ?_
  obtain ⟨cl10, Ar10, q10, S10, N10, Hs10, G10⟩ := id V_pa
  have hin10 : ¬ ((4 : Int32) < 0 ∨ cl10.slots.size ≤ ((4 : Int32)).toNatClampNeg) := inb_of S10 ⟨by decide, own_lt (by decide) hj⟩
  have hat10 : cl10.slots[((4 : Int32)).toNatClampNeg]? = some (.int p4) := Hs10.at hin10 rfl
  refine own_by (T' := s₁) (g' := (mkF m 22 #[vR ob, vR pa, vR ta, vI 4, vI p3, .unset] [(.int p4)])) (fun t k => X0.iaload hx (j := (4 : Int32)) (v := (.int p4)) (by rw [e0]; exact Ar10.1) (State.isArrayOf_alike hZ.alike Ar10.2.1) Ar10.2.2 hin10 hat10 (g := (mkF m 21 #[vR ob, vR pa, vR ta, vI 4, vI p3, .unset] [(.int 4), (.ref pa)])) rfl rfl (hb hby d6_21) _ k) ?_
  clear hat10 hin10 G10 Hs10 N10 S10 q10 Ar10 cl10
  refine own_by (T' := s₁) (g' := (mkF m 24 #[vR ob, vR pa, vR ta, vI 4, vI p3, .unset] [(.int p3), (.int p4)])) (fun t k => XS.iload X0.here hx rfl (hb hby d6_22) rfl k) ?_
  refine own_by (T' := s₁) (g' := (mkF m 25 #[vR ob, vR pa, vR ta, vI 4, vI p3, .unset] [(.int 1), (.int p3), (.int p4)])) (fun t k => XS.iconst X0.here hx rfl (hb hby d6_24) k) ?_
  refine own_by (T' := s₁) (g' := (mkF m 26 #[vR ob, vR pa, vR ta, vI 4, vI p3, .unset] [(.int (p3 + (1 : Int32))), (.int p4)])) (fun t k => XS.iadd X0.here hx rfl (hb hby d6_25) rfl k) ?_
  by_cases hc26_11 : p4 = (p3 + (1 : Int32))
  · refine own_by (T' := s₁) (g' := (mkF m 29 #[vR ob, vR pa, vR ta, vI 4, vI p3, .unset] [])) (fun t k => XS.icmpNo X0.here hx rfl (hb hby d6_26) rfl (teq hc26_11).2 k) ?_
    refine own_by (T' := s₁) (g' := (mkF m 30 #[vR ob, vR pa, vR ta, vI 4, vI p3, .unset] [(.int 1)])) (fun t k => XS.iconst X0.here hx rfl (hb hby d6_29) k) ?_
    refine own_by (T' := s₁) (g' := (mkF m 34 #[vR ob, vR pa, vR ta, vI 4, vI p3, .unset] [(.int 1)])) (fun t k => XS.goto X0.here hx rfl (pc0 := 30) (pc' := 34) rfl (hb hby d6_30) (by decide) (by decide) k) ?_
    refine own_by (T' := s₁) (g' := (mkF m 36 #[vR ob, vR pa, vR ta, vI 4, vI p3, vI 1] [])) (fun t k => XS.istore X0.here hx rfl (hb hby d6_34) rfl (l' := #[vR ob, vR pa, vR ta, vI 4, vI p3, vI 1]) rfl k) ?_
    exact J36_2 _ (by unfold own_ss; rw [if_pos hc26_11])
  · refine own_by (T' := s₁) (g' := (mkF m 33 #[vR ob, vR pa, vR ta, vI 4, vI p3, .unset] [])) (fun t k => XS.icmpYes X0.here hx rfl (pc0 := 26) (pc' := 33) rfl (hb hby d6_26) rfl (feq hc26_11).2 (by decide) (by decide) k) ?_
    refine own_by (T' := s₁) (g' := (mkF m 34 #[vR ob, vR pa, vR ta, vI 4, vI p3, .unset] [(.int 0)])) (fun t k => XS.iconst X0.here hx rfl (hb hby d6_33) k) ?_
    refine own_by (T' := s₁) (g' := (mkF m 36 #[vR ob, vR pa, vR ta, vI 4, vI p3, vI 0] [])) (fun t k => XS.istore X0.here hx rfl (hb hby d6_34) rfl (l' := #[vR ob, vR pa, vR ta, vI 4, vI p3, vI 0]) rfl k) ?_
    exact J36_2 _ (by unfold own_ss; rw [if_neg hc26_11])

def Q5 (Z : State) (ob : Addr) (pa : Addr) (nn : Int32) (kk : Int32) (kp : ClassId) (p0 : Int32) (p1 : Int32) (p2 : Int32) (p3 : Int32) (p4 : Int32) (h0 : Heap) (n0 : Nat) (v : Option Value) (h : Heap) (L : List Loc) : Prop := ∃ (tb : Addr) (g0 g1 g2 g3 g4 : Int32) (kb : ClassId), v = some (.ref tb) ∧ Fr n0 L ∧ Keep h0 h [] ∧ h0.size ≤ tb ∧ Arv Z h tb kb .int nn [(.int g0), (.int g1), (.int g2), (.int g3), (.int g4)] (.int 0) ∧ ((0 : Int32) < nn → g0 = (own_ev0 kk p0)) ∧ ((1 : Int32) < nn → g1 = (own_ev kk p1 p0 g0 0 0 0 0)) ∧ ((2 : Int32) < nn → g2 = (own_ev kk p2 p1 g0 g1 0 0 0)) ∧ ((3 : Int32) < nn → g3 = (own_ev kk p3 p2 g0 g1 g2 0 0)) ∧ ((4 : Int32) < nn → g4 = (own_ev kk p4 p3 g0 g1 g2 g3 0))
theorem ef_5 (m : MethodId) (ob : Addr) (pa : Addr) : entryFrame m #[(.ref ob), (.ref pa)] 4 = mkF m 0 #[vR ob, vR pa, .unset, .unset] [] := by first | (simp [entryFrame, mkF, argsToLocals, Value.category]; done) | rfl
theorem d5_0 : decode prog_24_method_4_code 0 = .ok (.aload_n 1, 1) := by decide +kernel
theorem d5_1 : decode prog_24_method_4_code 1 = .ok (.arraylength, 1) := by decide +kernel
theorem d5_2 : decode prog_24_method_4_code 2 = .ok (.newarray .int, 2) := by decide +kernel
theorem d5_4 : decode prog_24_method_4_code 4 = .ok (.astore_n 2, 1) := by decide +kernel
theorem d5_5 : decode prog_24_method_4_code 5 = .ok (.iconst 0, 1) := by decide +kernel
theorem d5_6 : decode prog_24_method_4_code 6 = .ok (.istore_n 3, 1) := by decide +kernel
theorem d5_7 : decode prog_24_method_4_code 7 = .ok (.iload_n 3, 1) := by decide +kernel
theorem d5_8 : decode prog_24_method_4_code 8 = .ok (.aload_n 2, 1) := by decide +kernel
theorem d5_9 : decode prog_24_method_4_code 9 = .ok (.arraylength, 1) := by decide +kernel
theorem d5_10 : decode prog_24_method_4_code 10 = .ok (.if_icmp .ge 19, 3) := by decide +kernel
theorem d5_13 : decode prog_24_method_4_code 13 = .ok (.aload_n 2, 1) := by decide +kernel
theorem d5_14 : decode prog_24_method_4_code 14 = .ok (.iload_n 3, 1) := by decide +kernel
theorem d5_15 : decode prog_24_method_4_code 15 = .ok (.aload_n 0, 1) := by decide +kernel
theorem d5_16 : decode prog_24_method_4_code 16 = .ok (.aload_n 1, 1) := by decide +kernel
theorem d5_17 : decode prog_24_method_4_code 17 = .ok (.aload_n 2, 1) := by decide +kernel
theorem d5_18 : decode prog_24_method_4_code 18 = .ok (.iload_n 3, 1) := by decide +kernel
theorem d5_19 : decode prog_24_method_4_code 19 = .ok (.invokevirtual 35, 3) := by decide +kernel
theorem pd_5 : parseMethodDescriptor "([I[II)I" = some ⟨[(.array .int), (.array .int), .int], some .int⟩ := by decide +kernel
theorem d5_22 : decode prog_24_method_4_code 22 = .ok (.iastore, 1) := by decide +kernel
theorem d5_23 : decode prog_24_method_4_code 23 = .ok (.iinc 3 1, 3) := by decide +kernel
theorem d5_26 : decode prog_24_method_4_code 26 = .ok (.goto (-19), 3) := by decide +kernel
theorem d5_29 : decode prog_24_method_4_code 29 = .ok (.aload_n 2, 1) := by decide +kernel
theorem d5_30 : decode prog_24_method_4_code 30 = .ok (.areturn, 1) := by decide +kernel
set_option maxRecDepth 65536 in
set_option maxHeartbeats 40000000 in
theorem rm5 (l : Launch) (Z : State) (a0 : Array Value) (hw : ∀ d ∈ tables_1, d.before a0 Z = true) (ws : List Jvm.Cond) (ob : Addr) (pa : Addr) (nn : Int32) (kk : Int32) (kp : ClassId) (p0 : Int32) (p1 : Int32) (p2 : Int32) (p3 : Int32) (p4 : Int32) (h0 : Heap) (n0 : Nat) (Zle : n0 ≤ h0.size) (E_ob : Exa Z h0 ob "com/example/emu/emu/TableForm") (F_ordinal_ob : Fld Z h0 ob "java/lang/Enum" "ordinal" "I" (.int kk)) (V_pa : Arv Z h0 pa kp .int nn [(.int p0), (.int p1), (.int p2), (.int p3), (.int p4)] (.int 0)) (hn0 : ¬ nn < 0) (hn5 : nn.toNatClampNeg ≤ 5) (hn6 : nn < 6) (hkk : kk = 0 ∨ kk = 1 ∨ kk = 2 ∨ kk = 3) (hk1 : p0 = 0) (hk2 : p1 = 0 ∨ p1 = 1) (hk3 : p2 = 0 ∨ p2 = 1 ∨ p2 = 2) (hk4 : p3 = 0 ∨ p3 = 1 ∨ p3 = 2 ∨ p3 = 3) :
    MetFree l (⟨"com/example/emu/emu/TableForm", "fromPrefix", "([I)[I"⟩ : MethodName) (head1 (Jvm.Cond.code (⟨"com/example/emu/emu/TableForm", "fromPrefix", "([I)[I"⟩ : MethodName) prog_24_method_4_code 4 (some (.array .int)) :: ws) ({ frames := 2, cells := 1, slots := 5, locals := 31 } : Room)) (fun a U => a = #[(.ref ob), (.ref pa)] ∧ Z.Warmed39 U.vm ∧ U.heap = h0) (fun _ _ _ _ _ => True) (fun _ U o U' => ∃ v L, o = .returned v ∧ Q5 Z ob pa nn kk kp p0 p1 p2 p3 p4 h0 n0 v U'.heap L ∧ FrameEnd U o U' L ({ frames := 2, cells := 1, slots := 5, locals := 31 } : Room).cells ({ frames := 2, cells := 1, slots := 5, locals := 31 } : Room).slots) := by
  refine MetFree.of_bodySF (plainFor_of_name pn_com_example_emu_emu_TableForm) hisR ?_
  intro p e s m args below meth c s₁ Bd hml0 hP hK
  obtain ⟨rfl, hZ, hh⟩ := hP
  have hx := Bd.exec
  have hby := Bd.bytes
  have hml : c.maxLocals = 4 := hml0
  have hown : s.vm.findClass "com/example/emu/emu/TableForm" = some m.cls := findClass_of_methodNamed Bd.named
  have hnm := (name_of_methodNamed Bd.named Bd.method).1
  have X0 : Stand p l e ({ frames := 2, cells := 1, slots := 5, locals := 31 } : Room) s m #[(.ref ob), (.ref pa)] below meth c s₁ [] 0 0 := Stand.of_body Bd
  have e0 : s₁.heap = h0 := by rw [← hh, Bd.state]; rfl
  have N_ := Fr.nil n0
  have K_ := Keep.refl h0 []
  show own_Goes p.tables e below s (Q5 Z ob pa nn kk kp p0 p1 p2 p3 p4 h0 n0) ({ frames := 2, cells := 1, slots := 5, locals := 31 } : Room).cells ({ frames := 2, cells := 1, slots := 5, locals := 31 } : Room).slots s₁ (entryFrame m #[(.ref ob), (.ref pa)] 4)
  refine own_by (T' := s₁) (g' := (mkF m 0 #[vR ob, vR pa, .unset, .unset] [])) (fun t k => castTop (ef_5 m ob pa) k) ?_
  refine own_by (T' := s₁) (g' := (mkF m 1 #[vR ob, vR pa, .unset, .unset] [(.ref pa)])) (fun t k => XS.aloadN X0.here hx rfl (hb hby d5_0) rfl rfl k) ?_
  obtain ⟨cl1, Ar1, -, S1, N1, -, -⟩ := id V_pa
  have st1 : ∀ t, Steps p.tables e below (s₁.setTop (mkF m 2 #[vR ob, vR pa, .unset, .unset] [(.int nn)])) t → Steps p.tables e below (s₁.setTop (mkF m 1 #[vR ob, vR pa, .unset, .unset] [(.ref pa)])) t := fun t k => X0.arraylength hx (by rw [e0]; exact Ar1.1) (State.isArrayOf_alike hZ.alike Ar1.2.1) (g := (mkF m 1 #[vR ob, vR pa, .unset, .unset] [(.ref pa)])) rfl rfl (hb hby d5_1) _ (by rw [len_of S1 N1]; exact k)
  refine own_by (T' := s₁) (g' := (mkF m 2 #[vR ob, vR pa, .unset, .unset] [(.int nn)])) (fun t k => st1 t k) ?_
  clear st1
  obtain ⟨T2, h2, k2, X2, e2, E2, A2, st2⟩ := newP X0 hx hZ (hw _ (own_m 0 rfl)) e0 (g := (mkF m 2 #[vR ob, vR pa, .unset, .unset] [(.int nn)])) rfl (hb hby d5_2) rfl hn0 (cap := 5) hn5 (by decide) (by decide) (by decide)
  obtain ⟨b2, g2⟩ : ∃ z, z = h0.size := ⟨_, rfl⟩
  rw [← g2] at A2 st2
  have ne_ob_b2 : ob ≠ b2 := Nat.ne_of_lt (Nat.lt_of_lt_of_eq E_ob.lt g2.symm)
  have ne_pa_b2 : pa ≠ b2 := Nat.ne_of_lt (Nat.lt_of_lt_of_eq V_pa.lt g2.symm)
  have g_b2 : n0 ≤ b2 := Nat.le_trans Zle (Nat.le_of_eq g2.symm)
  have sz_b2 : h0.size ≤ b2 := Nat.le_trans K_.1 (Nat.le_of_eq g2.symm)
  replace E_ob := E_ob.ext E2
  replace F_ordinal_ob := F_ordinal_ob.ext E2
  replace V_pa := V_pa.ext E2
  replace Zle := Nat.le_trans Zle E2.1
  replace K_ := K_.ext E2
  have V_b2 : Arv Z h2 b2 k2 .int nn [(.int 0), (.int 0), (.int 0), (.int 0), (.int 0)] (.int 0) := (Arv.new A2 hn0).pad (pad_rep [] (.int 0) 5)
  refine own_by (T' := T2) (g' := (mkF m 4 #[vR ob, vR pa, .unset, .unset] [(.ref b2)])) (fun t k => st2 t k) ?_
  clear st2 X0 e0
  refine own_by (T' := T2) (g' := (mkF m 5 #[vR ob, vR pa, vR b2, .unset] [])) (fun t k => XS.astoreN X2.here hx rfl (hb hby d5_4) rfl rfl (l' := #[vR ob, vR pa, vR b2, .unset]) rfl k) ?_
  refine own_by (T' := T2) (g' := (mkF m 6 #[vR ob, vR pa, vR b2, .unset] [(.int 0)])) (fun t k => XS.iconst X2.here hx rfl (hb hby d5_5) k) ?_
  refine own_by (T' := T2) (g' := (mkF m 7 #[vR ob, vR pa, vR b2, vI 0] [])) (fun t k => XS.istoreN X2.here hx rfl (hb hby d5_6) rfl (l' := #[vR ob, vR pa, vR b2, vI 0]) rfl k) ?_
  refine own_by (T' := T2) (g' := (mkF m 8 #[vR ob, vR pa, vR b2, vI 0] [(.int 0)])) (fun t k => XS.iloadN X2.here hx rfl (hb hby d5_7) rfl k) ?_
  refine own_by (T' := T2) (g' := (mkF m 9 #[vR ob, vR pa, vR b2, vI 0] [(.ref b2), (.int 0)])) (fun t k => XS.aloadN X2.here hx rfl (hb hby d5_8) rfl rfl k) ?_
  obtain ⟨cl3, Ar3, -, S3, N3, -, -⟩ := id V_b2
  have st3 : ∀ t, Steps p.tables e below (T2.setTop (mkF m 10 #[vR ob, vR pa, vR b2, vI 0] [(.int nn), (.int 0)])) t → Steps p.tables e below (T2.setTop (mkF m 9 #[vR ob, vR pa, vR b2, vI 0] [(.ref b2), (.int 0)])) t := fun t k => X2.arraylength hx (by rw [e2]; exact Ar3.1) (State.isArrayOf_alike hZ.alike Ar3.2.1) (g := (mkF m 9 #[vR ob, vR pa, vR b2, vI 0] [(.ref b2), (.int 0)])) rfl rfl (hb hby d5_9) _ (by rw [len_of S3 N3]; exact k)
  refine own_by (T' := T2) (g' := (mkF m 10 #[vR ob, vR pa, vR b2, vI 0] [(.int nn), (.int 0)])) (fun t k => st3 t k) ?_
  clear st3
  by_cases hc10_4 : (0 : Int32) < nn
  · refine own_by (T' := T2) (g' := (mkF m 13 #[vR ob, vR pa, vR b2, vI 0] [])) (fun t k => XS.icmpNo X2.here hx rfl (hb hby d5_10) rfl (tlt hc10_4).2.1 k) ?_
    have hj0 := hc10_4
    refine own_by (T' := T2) (g' := (mkF m 14 #[vR ob, vR pa, vR b2, vI 0] [(.ref b2)])) (fun t k => XS.aloadN X2.here hx rfl (hb hby d5_13) rfl rfl k) ?_
    refine own_by (T' := T2) (g' := (mkF m 15 #[vR ob, vR pa, vR b2, vI 0] [(.int 0), (.ref b2)])) (fun t k => XS.iloadN X2.here hx rfl (hb hby d5_14) rfl k) ?_
    refine own_by (T' := T2) (g' := (mkF m 16 #[vR ob, vR pa, vR b2, vI 0] [(.ref ob), (.int 0), (.ref b2)])) (fun t k => XS.aloadN X2.here hx rfl (hb hby d5_15) rfl rfl k) ?_
    refine own_by (T' := T2) (g' := (mkF m 17 #[vR ob, vR pa, vR b2, vI 0] [(.ref pa), (.ref ob), (.int 0), (.ref b2)])) (fun t k => XS.aloadN X2.here hx rfl (hb hby d5_16) rfl rfl k) ?_
    refine own_by (T' := T2) (g' := (mkF m 18 #[vR ob, vR pa, vR b2, vI 0] [(.ref b2), (.ref pa), (.ref ob), (.int 0), (.ref b2)])) (fun t k => XS.aloadN X2.here hx rfl (hb hby d5_17) rfl rfl k) ?_
    refine own_by (T' := T2) (g' := (mkF m 19 #[vR ob, vR pa, vR b2, vI 0] [(.int 0), (.ref b2), (.ref pa), (.ref ob), (.int 0), (.ref b2)])) (fun t k => XS.iloadN X2.here hx rfl (hb hby d5_18) rfl k) ?_
    obtain ⟨cq5, q5, q5'⟩ := E_ob.cell
    obtain ⟨_, _, ⟨T5, L5, k5, n5⟩, -, X5, ⟨Lc5, hQ5, l5, y5, z5⟩, st5⟩ := X2.privateBack hx (y := (⟨"com/example/emu/emu/TableForm", "entry", "([I[II)I"⟩ : MethodName)) hown (mvT hZ (hw _ (own_m 22 rfl))) (mvT hZ (hw _ (own_m 23 rfl))) (own_selfsel (z := (⟨"com/example/emu/emu/TableForm", "fromPrefix", "([I)[I"⟩ : MethodName)) (mvT hZ (hw _ (own_m 20 rfl))) rfl (Cond.privateMethod_at (mvP hZ (hw _ (own_m 24 rfl)) (args := #[]))) (mvT hZ (hw _ (own_m 23 rfl))) (by decide)) (Cond.privateMethod_at (mvP hZ (hw _ (own_m 24 rfl)) (args := #[]))) (mvT hZ (hw _ (own_m 25 rfl))) (by decide) (backOf (W := 2) (rm6_0 l Z a0 hw [] ob pa b2 nn kk kp k2 p0 p1 p2 p3 p4 (0 : Int32) (0 : Int32) (0 : Int32) (0 : Int32) (0 : Int32) h2 n0 Zle E_ob F_ordinal_ob V_pa V_b2 (hj0) (hkk)) hZ (hw _ (own_m 25 rfl)) (hw _ (own_m 15 rfl)) (by decide) (by decide)) (g := (mkF m 19 #[vR ob, vR pa, vR b2, vI 0] [(.int 0), (.ref b2), (.ref pa), (.ref ob), (.int 0), (.ref b2)])) rfl (by rw [hml]; rfl) (Steps.refl _) (a := ob) (by rw [e2]; exact q5) q5' (argsL := [(.ref pa), (.ref b2), (.int 0)]) (rest := [(.int 0), (.ref b2)]) (lenOf pd_5 rfl) rfl (own_le rfl) (hb hby d5_19) (fun _ _ => ⟨rfl, e2, (by decide : 1 + 0 ≤ _), (by decide : 5 + 0 ≤ _)⟩)
    dsimp only [Pt.U, Pt.locs, Pt.cells, Pt.slots] at X5 l5 y5 z5 st5 hQ5
    subst l5 y5 z5
    obtain ⟨rfl, Nq5, e5⟩ := hQ5
    replace N_ := Fr.app N_ Nq5
    clear Nq5
    refine own_by (T' := T5) (g' := (mkF m 22 #[vR ob, vR pa, vR b2, vI 0] [(.int (own_ev0 kk p0)), (.int 0), (.ref b2)])) (fun t k => st5.trans k) ?_
    clear st5 X2 e2
    obtain ⟨g0, e_g0⟩ : ∃ z : Int32, z = (own_ev0 kk p0) := ⟨_, rfl⟩
    rw [← e_g0]
    obtain ⟨cl6, Ar6, q6, S6, N6, Hs6, G6⟩ := id V_b2
    have hin6 : ¬ ((0 : Int32) < 0 ∨ cl6.slots.size ≤ ((0 : Int32)).toNatClampNeg) := inb_of S6 ⟨by decide, hj0⟩
    obtain ⟨T6, h6, X6, e6, W6, st6⟩ := stI X5 hx hZ e5 Ar6 (j := (0 : Int32)) hin6 (g := (mkF m 22 #[vR ob, vR pa, vR b2, vI 0] [(.int g0), (.int 0), (.ref b2)])) rfl rfl (hb hby d5_22)
    have V_b2_ : Arv Z h6 b2 k2 .int nn [(.int g0), (.int 0), (.int 0), (.int 0), (.int 0)] (.int 0) := Arv.set Ar6 q6 S6 N6 Hs6 G6 rfl W6 0 rfl (Nat.le_of_ble_eq_true rfl)
    replace E_ob := E_ob.wr W6
    replace F_ordinal_ob := F_ordinal_ob.other W6 (Or.inl ne_ob_b2)
    replace V_pa := V_pa.other W6 ne_pa_b2
    replace Zle := Nat.le_trans Zle (Keep.of_wr W6).1
    replace K_ := K_.wr W6 (Or.inr sz_b2)
    replace V_b2 := V_b2_
    clear V_b2_ W6 hin6 G6 Hs6 N6 S6 q6 Ar6
    replace N_ := Fr.snoc X6 N_ g_b2
    refine own_by (T' := T6) (g' := (mkF m 23 #[vR ob, vR pa, vR b2, vI 0] [])) (fun t k => st6 t k) ?_
    clear st6 X5 e5
    refine own_by (T' := T6) (g' := (mkF m 26 #[vR ob, vR pa, vR b2, vI 1] [])) (fun t k => XS.iinc X6.here hx rfl (hb hby d5_23) rfl (l' := #[vR ob, vR pa, vR b2, vI 1]) rfl k) ?_
    refine own_by (T' := T6) (g' := (mkF m 7 #[vR ob, vR pa, vR b2, vI 1] [])) (fun t k => XS.goto X6.here hx rfl (pc0 := 26) (pc' := 7) rfl (hb hby d5_26) (by decide) (by decide) k) ?_
    refine own_by (T' := T6) (g' := (mkF m 8 #[vR ob, vR pa, vR b2, vI 1] [(.int 1)])) (fun t k => XS.iloadN X6.here hx rfl (hb hby d5_7) rfl k) ?_
    refine own_by (T' := T6) (g' := (mkF m 9 #[vR ob, vR pa, vR b2, vI 1] [(.ref b2), (.int 1)])) (fun t k => XS.aloadN X6.here hx rfl (hb hby d5_8) rfl rfl k) ?_
    obtain ⟨cl7, Ar7, -, S7, N7, -, -⟩ := id V_b2
    have st7 : ∀ t, Steps p.tables e below (T6.setTop (mkF m 10 #[vR ob, vR pa, vR b2, vI 1] [(.int nn), (.int 1)])) t → Steps p.tables e below (T6.setTop (mkF m 9 #[vR ob, vR pa, vR b2, vI 1] [(.ref b2), (.int 1)])) t := fun t k => X6.arraylength hx (by rw [e6]; exact Ar7.1) (State.isArrayOf_alike hZ.alike Ar7.2.1) (g := (mkF m 9 #[vR ob, vR pa, vR b2, vI 1] [(.ref b2), (.int 1)])) rfl rfl (hb hby d5_9) _ (by rw [len_of S7 N7]; exact k)
    refine own_by (T' := T6) (g' := (mkF m 10 #[vR ob, vR pa, vR b2, vI 1] [(.int nn), (.int 1)])) (fun t k => st7 t k) ?_
    clear st7
    by_cases hc10_8 : (1 : Int32) < nn
    · refine own_by (T' := T6) (g' := (mkF m 13 #[vR ob, vR pa, vR b2, vI 1] [])) (fun t k => XS.icmpNo X6.here hx rfl (hb hby d5_10) rfl (tlt hc10_8).2.1 k) ?_
      have hj1 := hc10_8
      refine own_by (T' := T6) (g' := (mkF m 14 #[vR ob, vR pa, vR b2, vI 1] [(.ref b2)])) (fun t k => XS.aloadN X6.here hx rfl (hb hby d5_13) rfl rfl k) ?_
      refine own_by (T' := T6) (g' := (mkF m 15 #[vR ob, vR pa, vR b2, vI 1] [(.int 1), (.ref b2)])) (fun t k => XS.iloadN X6.here hx rfl (hb hby d5_14) rfl k) ?_
      refine own_by (T' := T6) (g' := (mkF m 16 #[vR ob, vR pa, vR b2, vI 1] [(.ref ob), (.int 1), (.ref b2)])) (fun t k => XS.aloadN X6.here hx rfl (hb hby d5_15) rfl rfl k) ?_
      refine own_by (T' := T6) (g' := (mkF m 17 #[vR ob, vR pa, vR b2, vI 1] [(.ref pa), (.ref ob), (.int 1), (.ref b2)])) (fun t k => XS.aloadN X6.here hx rfl (hb hby d5_16) rfl rfl k) ?_
      refine own_by (T' := T6) (g' := (mkF m 18 #[vR ob, vR pa, vR b2, vI 1] [(.ref b2), (.ref pa), (.ref ob), (.int 1), (.ref b2)])) (fun t k => XS.aloadN X6.here hx rfl (hb hby d5_17) rfl rfl k) ?_
      refine own_by (T' := T6) (g' := (mkF m 19 #[vR ob, vR pa, vR b2, vI 1] [(.int 1), (.ref b2), (.ref pa), (.ref ob), (.int 1), (.ref b2)])) (fun t k => XS.iloadN X6.here hx rfl (hb hby d5_18) rfl k) ?_
      obtain ⟨cq9, q9, q9'⟩ := E_ob.cell
      obtain ⟨_, _, ⟨T9, L9, k9, n9⟩, -, X9, ⟨Lc9, hQ9, l9, y9, z9⟩, st9⟩ := X6.privateBack hx (y := (⟨"com/example/emu/emu/TableForm", "entry", "([I[II)I"⟩ : MethodName)) hown (mvT hZ (hw _ (own_m 22 rfl))) (mvT hZ (hw _ (own_m 23 rfl))) (own_selfsel (z := (⟨"com/example/emu/emu/TableForm", "fromPrefix", "([I)[I"⟩ : MethodName)) (mvT hZ (hw _ (own_m 20 rfl))) rfl (Cond.privateMethod_at (mvP hZ (hw _ (own_m 24 rfl)) (args := #[]))) (mvT hZ (hw _ (own_m 23 rfl))) (by decide)) (Cond.privateMethod_at (mvP hZ (hw _ (own_m 24 rfl)) (args := #[]))) (mvT hZ (hw _ (own_m 25 rfl))) (by decide) (backOf (W := 2) (rm6_1 l Z a0 hw [] ob pa b2 nn kk kp k2 p0 p1 p2 p3 p4 g0 (0 : Int32) (0 : Int32) (0 : Int32) (0 : Int32) h6 n0 Zle E_ob F_ordinal_ob V_pa V_b2 (hj1) (hkk) (hk1)) hZ (hw _ (own_m 25 rfl)) (hw _ (own_m 15 rfl)) (by decide) (by decide)) (g := (mkF m 19 #[vR ob, vR pa, vR b2, vI 1] [(.int 1), (.ref b2), (.ref pa), (.ref ob), (.int 1), (.ref b2)])) rfl (by rw [hml]; rfl) (Steps.refl _) (a := ob) (by rw [e6]; exact q9) q9' (argsL := [(.ref pa), (.ref b2), (.int 1)]) (rest := [(.int 1), (.ref b2)]) (lenOf pd_5 rfl) rfl (own_le rfl) (hb hby d5_19) (fun _ _ => ⟨rfl, e6, (by decide : 1 + 0 ≤ _), (by decide : 5 + 0 ≤ _)⟩)
      dsimp only [Pt.U, Pt.locs, Pt.cells, Pt.slots] at X9 l9 y9 z9 st9 hQ9
      subst l9 y9 z9
      obtain ⟨rfl, Nq9, e9⟩ := hQ9
      replace N_ := Fr.app N_ Nq9
      clear Nq9
      refine own_by (T' := T9) (g' := (mkF m 22 #[vR ob, vR pa, vR b2, vI 1] [(.int (own_ev kk p1 p0 g0 (0 : Int32) (0 : Int32) (0 : Int32) (0 : Int32))), (.int 1), (.ref b2)])) (fun t k => st9.trans k) ?_
      clear st9 X6 e6
      obtain ⟨g1, e_g1⟩ : ∃ z : Int32, z = (own_ev kk p1 p0 g0 (0 : Int32) (0 : Int32) (0 : Int32) (0 : Int32)) := ⟨_, rfl⟩
      rw [← e_g1]
      obtain ⟨cl10, Ar10, q10, S10, N10, Hs10, G10⟩ := id V_b2
      have hin10 : ¬ ((1 : Int32) < 0 ∨ cl10.slots.size ≤ ((1 : Int32)).toNatClampNeg) := inb_of S10 ⟨by decide, hj1⟩
      obtain ⟨T10, h10, X10, e10, W10, st10⟩ := stI X9 hx hZ e9 Ar10 (j := (1 : Int32)) hin10 (g := (mkF m 22 #[vR ob, vR pa, vR b2, vI 1] [(.int g1), (.int 1), (.ref b2)])) rfl rfl (hb hby d5_22)
      have V_b2_ : Arv Z h10 b2 k2 .int nn [(.int g0), (.int g1), (.int 0), (.int 0), (.int 0)] (.int 0) := Arv.set Ar10 q10 S10 N10 Hs10 G10 rfl W10 1 rfl (Nat.le_of_ble_eq_true rfl)
      replace E_ob := E_ob.wr W10
      replace F_ordinal_ob := F_ordinal_ob.other W10 (Or.inl ne_ob_b2)
      replace V_pa := V_pa.other W10 ne_pa_b2
      replace Zle := Nat.le_trans Zle (Keep.of_wr W10).1
      replace K_ := K_.wr W10 (Or.inr sz_b2)
      replace V_b2 := V_b2_
      clear V_b2_ W10 hin10 G10 Hs10 N10 S10 q10 Ar10
      replace N_ := Fr.snoc X10 N_ g_b2
      refine own_by (T' := T10) (g' := (mkF m 23 #[vR ob, vR pa, vR b2, vI 1] [])) (fun t k => st10 t k) ?_
      clear st10 X9 e9
      refine own_by (T' := T10) (g' := (mkF m 26 #[vR ob, vR pa, vR b2, vI 2] [])) (fun t k => XS.iinc X10.here hx rfl (hb hby d5_23) rfl (l' := #[vR ob, vR pa, vR b2, vI 2]) rfl k) ?_
      refine own_by (T' := T10) (g' := (mkF m 7 #[vR ob, vR pa, vR b2, vI 2] [])) (fun t k => XS.goto X10.here hx rfl (pc0 := 26) (pc' := 7) rfl (hb hby d5_26) (by decide) (by decide) k) ?_
      refine own_by (T' := T10) (g' := (mkF m 8 #[vR ob, vR pa, vR b2, vI 2] [(.int 2)])) (fun t k => XS.iloadN X10.here hx rfl (hb hby d5_7) rfl k) ?_
      refine own_by (T' := T10) (g' := (mkF m 9 #[vR ob, vR pa, vR b2, vI 2] [(.ref b2), (.int 2)])) (fun t k => XS.aloadN X10.here hx rfl (hb hby d5_8) rfl rfl k) ?_
      obtain ⟨cl11, Ar11, -, S11, N11, -, -⟩ := id V_b2
      have st11 : ∀ t, Steps p.tables e below (T10.setTop (mkF m 10 #[vR ob, vR pa, vR b2, vI 2] [(.int nn), (.int 2)])) t → Steps p.tables e below (T10.setTop (mkF m 9 #[vR ob, vR pa, vR b2, vI 2] [(.ref b2), (.int 2)])) t := fun t k => X10.arraylength hx (by rw [e10]; exact Ar11.1) (State.isArrayOf_alike hZ.alike Ar11.2.1) (g := (mkF m 9 #[vR ob, vR pa, vR b2, vI 2] [(.ref b2), (.int 2)])) rfl rfl (hb hby d5_9) _ (by rw [len_of S11 N11]; exact k)
      refine own_by (T' := T10) (g' := (mkF m 10 #[vR ob, vR pa, vR b2, vI 2] [(.int nn), (.int 2)])) (fun t k => st11 t k) ?_
      clear st11
      by_cases hc10_12 : (2 : Int32) < nn
      · refine own_by (T' := T10) (g' := (mkF m 13 #[vR ob, vR pa, vR b2, vI 2] [])) (fun t k => XS.icmpNo X10.here hx rfl (hb hby d5_10) rfl (tlt hc10_12).2.1 k) ?_
        have hj2 := hc10_12
        refine own_by (T' := T10) (g' := (mkF m 14 #[vR ob, vR pa, vR b2, vI 2] [(.ref b2)])) (fun t k => XS.aloadN X10.here hx rfl (hb hby d5_13) rfl rfl k) ?_
        refine own_by (T' := T10) (g' := (mkF m 15 #[vR ob, vR pa, vR b2, vI 2] [(.int 2), (.ref b2)])) (fun t k => XS.iloadN X10.here hx rfl (hb hby d5_14) rfl k) ?_
        refine own_by (T' := T10) (g' := (mkF m 16 #[vR ob, vR pa, vR b2, vI 2] [(.ref ob), (.int 2), (.ref b2)])) (fun t k => XS.aloadN X10.here hx rfl (hb hby d5_15) rfl rfl k) ?_
        refine own_by (T' := T10) (g' := (mkF m 17 #[vR ob, vR pa, vR b2, vI 2] [(.ref pa), (.ref ob), (.int 2), (.ref b2)])) (fun t k => XS.aloadN X10.here hx rfl (hb hby d5_16) rfl rfl k) ?_
        refine own_by (T' := T10) (g' := (mkF m 18 #[vR ob, vR pa, vR b2, vI 2] [(.ref b2), (.ref pa), (.ref ob), (.int 2), (.ref b2)])) (fun t k => XS.aloadN X10.here hx rfl (hb hby d5_17) rfl rfl k) ?_
        refine own_by (T' := T10) (g' := (mkF m 19 #[vR ob, vR pa, vR b2, vI 2] [(.int 2), (.ref b2), (.ref pa), (.ref ob), (.int 2), (.ref b2)])) (fun t k => XS.iloadN X10.here hx rfl (hb hby d5_18) rfl k) ?_
        obtain ⟨cq13, q13, q13'⟩ := E_ob.cell
        obtain ⟨_, _, ⟨T13, L13, k13, n13⟩, -, X13, ⟨Lc13, hQ13, l13, y13, z13⟩, st13⟩ := X10.privateBack hx (y := (⟨"com/example/emu/emu/TableForm", "entry", "([I[II)I"⟩ : MethodName)) hown (mvT hZ (hw _ (own_m 22 rfl))) (mvT hZ (hw _ (own_m 23 rfl))) (own_selfsel (z := (⟨"com/example/emu/emu/TableForm", "fromPrefix", "([I)[I"⟩ : MethodName)) (mvT hZ (hw _ (own_m 20 rfl))) rfl (Cond.privateMethod_at (mvP hZ (hw _ (own_m 24 rfl)) (args := #[]))) (mvT hZ (hw _ (own_m 23 rfl))) (by decide)) (Cond.privateMethod_at (mvP hZ (hw _ (own_m 24 rfl)) (args := #[]))) (mvT hZ (hw _ (own_m 25 rfl))) (by decide) (backOf (W := 2) (rm6_2 l Z a0 hw [] ob pa b2 nn kk kp k2 p0 p1 p2 p3 p4 g0 g1 (0 : Int32) (0 : Int32) (0 : Int32) h10 n0 Zle E_ob F_ordinal_ob V_pa V_b2 (hj2) (hkk) (hk2)) hZ (hw _ (own_m 25 rfl)) (hw _ (own_m 15 rfl)) (by decide) (by decide)) (g := (mkF m 19 #[vR ob, vR pa, vR b2, vI 2] [(.int 2), (.ref b2), (.ref pa), (.ref ob), (.int 2), (.ref b2)])) rfl (by rw [hml]; rfl) (Steps.refl _) (a := ob) (by rw [e10]; exact q13) q13' (argsL := [(.ref pa), (.ref b2), (.int 2)]) (rest := [(.int 2), (.ref b2)]) (lenOf pd_5 rfl) rfl (own_le rfl) (hb hby d5_19) (fun _ _ => ⟨rfl, e10, (by decide : 1 + 0 ≤ _), (by decide : 5 + 0 ≤ _)⟩)
        dsimp only [Pt.U, Pt.locs, Pt.cells, Pt.slots] at X13 l13 y13 z13 st13 hQ13
        subst l13 y13 z13
        obtain ⟨rfl, Nq13, e13⟩ := hQ13
        replace N_ := Fr.app N_ Nq13
        clear Nq13
        refine own_by (T' := T13) (g' := (mkF m 22 #[vR ob, vR pa, vR b2, vI 2] [(.int (own_ev kk p2 p1 g0 g1 (0 : Int32) (0 : Int32) (0 : Int32))), (.int 2), (.ref b2)])) (fun t k => st13.trans k) ?_
        clear st13 X10 e10
        obtain ⟨g2, e_g2⟩ : ∃ z : Int32, z = (own_ev kk p2 p1 g0 g1 (0 : Int32) (0 : Int32) (0 : Int32)) := ⟨_, rfl⟩
        rw [← e_g2]
        obtain ⟨cl14, Ar14, q14, S14, N14, Hs14, G14⟩ := id V_b2
        have hin14 : ¬ ((2 : Int32) < 0 ∨ cl14.slots.size ≤ ((2 : Int32)).toNatClampNeg) := inb_of S14 ⟨by decide, hj2⟩
        obtain ⟨T14, h14, X14, e14, W14, st14⟩ := stI X13 hx hZ e13 Ar14 (j := (2 : Int32)) hin14 (g := (mkF m 22 #[vR ob, vR pa, vR b2, vI 2] [(.int g2), (.int 2), (.ref b2)])) rfl rfl (hb hby d5_22)
        have V_b2_ : Arv Z h14 b2 k2 .int nn [(.int g0), (.int g1), (.int g2), (.int 0), (.int 0)] (.int 0) := Arv.set Ar14 q14 S14 N14 Hs14 G14 rfl W14 2 rfl (Nat.le_of_ble_eq_true rfl)
        replace E_ob := E_ob.wr W14
        replace F_ordinal_ob := F_ordinal_ob.other W14 (Or.inl ne_ob_b2)
        replace V_pa := V_pa.other W14 ne_pa_b2
        replace Zle := Nat.le_trans Zle (Keep.of_wr W14).1
        replace K_ := K_.wr W14 (Or.inr sz_b2)
        replace V_b2 := V_b2_
        clear V_b2_ W14 hin14 G14 Hs14 N14 S14 q14 Ar14
        replace N_ := Fr.snoc X14 N_ g_b2
        refine own_by (T' := T14) (g' := (mkF m 23 #[vR ob, vR pa, vR b2, vI 2] [])) (fun t k => st14 t k) ?_
        clear st14 X13 e13
        refine own_by (T' := T14) (g' := (mkF m 26 #[vR ob, vR pa, vR b2, vI 3] [])) (fun t k => XS.iinc X14.here hx rfl (hb hby d5_23) rfl (l' := #[vR ob, vR pa, vR b2, vI 3]) rfl k) ?_
        refine own_by (T' := T14) (g' := (mkF m 7 #[vR ob, vR pa, vR b2, vI 3] [])) (fun t k => XS.goto X14.here hx rfl (pc0 := 26) (pc' := 7) rfl (hb hby d5_26) (by decide) (by decide) k) ?_
        refine own_by (T' := T14) (g' := (mkF m 8 #[vR ob, vR pa, vR b2, vI 3] [(.int 3)])) (fun t k => XS.iloadN X14.here hx rfl (hb hby d5_7) rfl k) ?_
        refine own_by (T' := T14) (g' := (mkF m 9 #[vR ob, vR pa, vR b2, vI 3] [(.ref b2), (.int 3)])) (fun t k => XS.aloadN X14.here hx rfl (hb hby d5_8) rfl rfl k) ?_
        obtain ⟨cl15, Ar15, -, S15, N15, -, -⟩ := id V_b2
        have st15 : ∀ t, Steps p.tables e below (T14.setTop (mkF m 10 #[vR ob, vR pa, vR b2, vI 3] [(.int nn), (.int 3)])) t → Steps p.tables e below (T14.setTop (mkF m 9 #[vR ob, vR pa, vR b2, vI 3] [(.ref b2), (.int 3)])) t := fun t k => X14.arraylength hx (by rw [e14]; exact Ar15.1) (State.isArrayOf_alike hZ.alike Ar15.2.1) (g := (mkF m 9 #[vR ob, vR pa, vR b2, vI 3] [(.ref b2), (.int 3)])) rfl rfl (hb hby d5_9) _ (by rw [len_of S15 N15]; exact k)
        refine own_by (T' := T14) (g' := (mkF m 10 #[vR ob, vR pa, vR b2, vI 3] [(.int nn), (.int 3)])) (fun t k => st15 t k) ?_
        clear st15
        by_cases hc10_16 : (3 : Int32) < nn
        · refine own_by (T' := T14) (g' := (mkF m 13 #[vR ob, vR pa, vR b2, vI 3] [])) (fun t k => XS.icmpNo X14.here hx rfl (hb hby d5_10) rfl (tlt hc10_16).2.1 k) ?_
          have hj3 := hc10_16
          refine own_by (T' := T14) (g' := (mkF m 14 #[vR ob, vR pa, vR b2, vI 3] [(.ref b2)])) (fun t k => XS.aloadN X14.here hx rfl (hb hby d5_13) rfl rfl k) ?_
          refine own_by (T' := T14) (g' := (mkF m 15 #[vR ob, vR pa, vR b2, vI 3] [(.int 3), (.ref b2)])) (fun t k => XS.iloadN X14.here hx rfl (hb hby d5_14) rfl k) ?_
          refine own_by (T' := T14) (g' := (mkF m 16 #[vR ob, vR pa, vR b2, vI 3] [(.ref ob), (.int 3), (.ref b2)])) (fun t k => XS.aloadN X14.here hx rfl (hb hby d5_15) rfl rfl k) ?_
          refine own_by (T' := T14) (g' := (mkF m 17 #[vR ob, vR pa, vR b2, vI 3] [(.ref pa), (.ref ob), (.int 3), (.ref b2)])) (fun t k => XS.aloadN X14.here hx rfl (hb hby d5_16) rfl rfl k) ?_
          refine own_by (T' := T14) (g' := (mkF m 18 #[vR ob, vR pa, vR b2, vI 3] [(.ref b2), (.ref pa), (.ref ob), (.int 3), (.ref b2)])) (fun t k => XS.aloadN X14.here hx rfl (hb hby d5_17) rfl rfl k) ?_
          refine own_by (T' := T14) (g' := (mkF m 19 #[vR ob, vR pa, vR b2, vI 3] [(.int 3), (.ref b2), (.ref pa), (.ref ob), (.int 3), (.ref b2)])) (fun t k => XS.iloadN X14.here hx rfl (hb hby d5_18) rfl k) ?_
          obtain ⟨cq17, q17, q17'⟩ := E_ob.cell
          obtain ⟨_, _, ⟨T17, L17, k17, n17⟩, -, X17, ⟨Lc17, hQ17, l17, y17, z17⟩, st17⟩ := X14.privateBack hx (y := (⟨"com/example/emu/emu/TableForm", "entry", "([I[II)I"⟩ : MethodName)) hown (mvT hZ (hw _ (own_m 22 rfl))) (mvT hZ (hw _ (own_m 23 rfl))) (own_selfsel (z := (⟨"com/example/emu/emu/TableForm", "fromPrefix", "([I)[I"⟩ : MethodName)) (mvT hZ (hw _ (own_m 20 rfl))) rfl (Cond.privateMethod_at (mvP hZ (hw _ (own_m 24 rfl)) (args := #[]))) (mvT hZ (hw _ (own_m 23 rfl))) (by decide)) (Cond.privateMethod_at (mvP hZ (hw _ (own_m 24 rfl)) (args := #[]))) (mvT hZ (hw _ (own_m 25 rfl))) (by decide) (backOf (W := 2) (rm6_3 l Z a0 hw [] ob pa b2 nn kk kp k2 p0 p1 p2 p3 p4 g0 g1 g2 (0 : Int32) (0 : Int32) h14 n0 Zle E_ob F_ordinal_ob V_pa V_b2 (hj3) (hkk) (hk3)) hZ (hw _ (own_m 25 rfl)) (hw _ (own_m 15 rfl)) (by decide) (by decide)) (g := (mkF m 19 #[vR ob, vR pa, vR b2, vI 3] [(.int 3), (.ref b2), (.ref pa), (.ref ob), (.int 3), (.ref b2)])) rfl (by rw [hml]; rfl) (Steps.refl _) (a := ob) (by rw [e14]; exact q17) q17' (argsL := [(.ref pa), (.ref b2), (.int 3)]) (rest := [(.int 3), (.ref b2)]) (lenOf pd_5 rfl) rfl (own_le rfl) (hb hby d5_19) (fun _ _ => ⟨rfl, e14, (by decide : 1 + 0 ≤ _), (by decide : 5 + 0 ≤ _)⟩)
          dsimp only [Pt.U, Pt.locs, Pt.cells, Pt.slots] at X17 l17 y17 z17 st17 hQ17
          subst l17 y17 z17
          obtain ⟨rfl, Nq17, e17⟩ := hQ17
          replace N_ := Fr.app N_ Nq17
          clear Nq17
          refine own_by (T' := T17) (g' := (mkF m 22 #[vR ob, vR pa, vR b2, vI 3] [(.int (own_ev kk p3 p2 g0 g1 g2 (0 : Int32) (0 : Int32))), (.int 3), (.ref b2)])) (fun t k => st17.trans k) ?_
          clear st17 X14 e14
          obtain ⟨g3, e_g3⟩ : ∃ z : Int32, z = (own_ev kk p3 p2 g0 g1 g2 (0 : Int32) (0 : Int32)) := ⟨_, rfl⟩
          rw [← e_g3]
          obtain ⟨cl18, Ar18, q18, S18, N18, Hs18, G18⟩ := id V_b2
          have hin18 : ¬ ((3 : Int32) < 0 ∨ cl18.slots.size ≤ ((3 : Int32)).toNatClampNeg) := inb_of S18 ⟨by decide, hj3⟩
          obtain ⟨T18, h18, X18, e18, W18, st18⟩ := stI X17 hx hZ e17 Ar18 (j := (3 : Int32)) hin18 (g := (mkF m 22 #[vR ob, vR pa, vR b2, vI 3] [(.int g3), (.int 3), (.ref b2)])) rfl rfl (hb hby d5_22)
          have V_b2_ : Arv Z h18 b2 k2 .int nn [(.int g0), (.int g1), (.int g2), (.int g3), (.int 0)] (.int 0) := Arv.set Ar18 q18 S18 N18 Hs18 G18 rfl W18 3 rfl (Nat.le_of_ble_eq_true rfl)
          replace E_ob := E_ob.wr W18
          replace F_ordinal_ob := F_ordinal_ob.other W18 (Or.inl ne_ob_b2)
          replace V_pa := V_pa.other W18 ne_pa_b2
          replace Zle := Nat.le_trans Zle (Keep.of_wr W18).1
          replace K_ := K_.wr W18 (Or.inr sz_b2)
          replace V_b2 := V_b2_
          clear V_b2_ W18 hin18 G18 Hs18 N18 S18 q18 Ar18
          replace N_ := Fr.snoc X18 N_ g_b2
          refine own_by (T' := T18) (g' := (mkF m 23 #[vR ob, vR pa, vR b2, vI 3] [])) (fun t k => st18 t k) ?_
          clear st18 X17 e17
          refine own_by (T' := T18) (g' := (mkF m 26 #[vR ob, vR pa, vR b2, vI 4] [])) (fun t k => XS.iinc X18.here hx rfl (hb hby d5_23) rfl (l' := #[vR ob, vR pa, vR b2, vI 4]) rfl k) ?_
          refine own_by (T' := T18) (g' := (mkF m 7 #[vR ob, vR pa, vR b2, vI 4] [])) (fun t k => XS.goto X18.here hx rfl (pc0 := 26) (pc' := 7) rfl (hb hby d5_26) (by decide) (by decide) k) ?_
          refine own_by (T' := T18) (g' := (mkF m 8 #[vR ob, vR pa, vR b2, vI 4] [(.int 4)])) (fun t k => XS.iloadN X18.here hx rfl (hb hby d5_7) rfl k) ?_
          refine own_by (T' := T18) (g' := (mkF m 9 #[vR ob, vR pa, vR b2, vI 4] [(.ref b2), (.int 4)])) (fun t k => XS.aloadN X18.here hx rfl (hb hby d5_8) rfl rfl k) ?_
          obtain ⟨cl19, Ar19, -, S19, N19, -, -⟩ := id V_b2
          have st19 : ∀ t, Steps p.tables e below (T18.setTop (mkF m 10 #[vR ob, vR pa, vR b2, vI 4] [(.int nn), (.int 4)])) t → Steps p.tables e below (T18.setTop (mkF m 9 #[vR ob, vR pa, vR b2, vI 4] [(.ref b2), (.int 4)])) t := fun t k => X18.arraylength hx (by rw [e18]; exact Ar19.1) (State.isArrayOf_alike hZ.alike Ar19.2.1) (g := (mkF m 9 #[vR ob, vR pa, vR b2, vI 4] [(.ref b2), (.int 4)])) rfl rfl (hb hby d5_9) _ (by rw [len_of S19 N19]; exact k)
          refine own_by (T' := T18) (g' := (mkF m 10 #[vR ob, vR pa, vR b2, vI 4] [(.int nn), (.int 4)])) (fun t k => st19 t k) ?_
          clear st19
          by_cases hc10_20 : (4 : Int32) < nn
          · refine own_by (T' := T18) (g' := (mkF m 13 #[vR ob, vR pa, vR b2, vI 4] [])) (fun t k => XS.icmpNo X18.here hx rfl (hb hby d5_10) rfl (tlt hc10_20).2.1 k) ?_
            have hj4 := hc10_20
            refine own_by (T' := T18) (g' := (mkF m 14 #[vR ob, vR pa, vR b2, vI 4] [(.ref b2)])) (fun t k => XS.aloadN X18.here hx rfl (hb hby d5_13) rfl rfl k) ?_
            refine own_by (T' := T18) (g' := (mkF m 15 #[vR ob, vR pa, vR b2, vI 4] [(.int 4), (.ref b2)])) (fun t k => XS.iloadN X18.here hx rfl (hb hby d5_14) rfl k) ?_
            refine own_by (T' := T18) (g' := (mkF m 16 #[vR ob, vR pa, vR b2, vI 4] [(.ref ob), (.int 4), (.ref b2)])) (fun t k => XS.aloadN X18.here hx rfl (hb hby d5_15) rfl rfl k) ?_
            refine own_by (T' := T18) (g' := (mkF m 17 #[vR ob, vR pa, vR b2, vI 4] [(.ref pa), (.ref ob), (.int 4), (.ref b2)])) (fun t k => XS.aloadN X18.here hx rfl (hb hby d5_16) rfl rfl k) ?_
            refine own_by (T' := T18) (g' := (mkF m 18 #[vR ob, vR pa, vR b2, vI 4] [(.ref b2), (.ref pa), (.ref ob), (.int 4), (.ref b2)])) (fun t k => XS.aloadN X18.here hx rfl (hb hby d5_17) rfl rfl k) ?_
            refine own_by (T' := T18) (g' := (mkF m 19 #[vR ob, vR pa, vR b2, vI 4] [(.int 4), (.ref b2), (.ref pa), (.ref ob), (.int 4), (.ref b2)])) (fun t k => XS.iloadN X18.here hx rfl (hb hby d5_18) rfl k) ?_
            obtain ⟨cq21, q21, q21'⟩ := E_ob.cell
            obtain ⟨_, _, ⟨T21, L21, k21, n21⟩, -, X21, ⟨Lc21, hQ21, l21, y21, z21⟩, st21⟩ := X18.privateBack hx (y := (⟨"com/example/emu/emu/TableForm", "entry", "([I[II)I"⟩ : MethodName)) hown (mvT hZ (hw _ (own_m 22 rfl))) (mvT hZ (hw _ (own_m 23 rfl))) (own_selfsel (z := (⟨"com/example/emu/emu/TableForm", "fromPrefix", "([I)[I"⟩ : MethodName)) (mvT hZ (hw _ (own_m 20 rfl))) rfl (Cond.privateMethod_at (mvP hZ (hw _ (own_m 24 rfl)) (args := #[]))) (mvT hZ (hw _ (own_m 23 rfl))) (by decide)) (Cond.privateMethod_at (mvP hZ (hw _ (own_m 24 rfl)) (args := #[]))) (mvT hZ (hw _ (own_m 25 rfl))) (by decide) (backOf (W := 2) (rm6_4 l Z a0 hw [] ob pa b2 nn kk kp k2 p0 p1 p2 p3 p4 g0 g1 g2 g3 (0 : Int32) h18 n0 Zle E_ob F_ordinal_ob V_pa V_b2 (hj4) (hkk) (hk4)) hZ (hw _ (own_m 25 rfl)) (hw _ (own_m 15 rfl)) (by decide) (by decide)) (g := (mkF m 19 #[vR ob, vR pa, vR b2, vI 4] [(.int 4), (.ref b2), (.ref pa), (.ref ob), (.int 4), (.ref b2)])) rfl (by rw [hml]; rfl) (Steps.refl _) (a := ob) (by rw [e18]; exact q21) q21' (argsL := [(.ref pa), (.ref b2), (.int 4)]) (rest := [(.int 4), (.ref b2)]) (lenOf pd_5 rfl) rfl (own_le rfl) (hb hby d5_19) (fun _ _ => ⟨rfl, e18, (by decide : 1 + 0 ≤ _), (by decide : 5 + 0 ≤ _)⟩)
            dsimp only [Pt.U, Pt.locs, Pt.cells, Pt.slots] at X21 l21 y21 z21 st21 hQ21
            subst l21 y21 z21
            obtain ⟨rfl, Nq21, e21⟩ := hQ21
            replace N_ := Fr.app N_ Nq21
            clear Nq21
            refine own_by (T' := T21) (g' := (mkF m 22 #[vR ob, vR pa, vR b2, vI 4] [(.int (own_ev kk p4 p3 g0 g1 g2 g3 (0 : Int32))), (.int 4), (.ref b2)])) (fun t k => st21.trans k) ?_
            clear st21 X18 e18
            obtain ⟨g4, e_g4⟩ : ∃ z : Int32, z = (own_ev kk p4 p3 g0 g1 g2 g3 (0 : Int32)) := ⟨_, rfl⟩
            rw [← e_g4]
            obtain ⟨cl22, Ar22, q22, S22, N22, Hs22, G22⟩ := id V_b2
            have hin22 : ¬ ((4 : Int32) < 0 ∨ cl22.slots.size ≤ ((4 : Int32)).toNatClampNeg) := inb_of S22 ⟨by decide, hj4⟩
            obtain ⟨T22, h22, X22, e22, W22, st22⟩ := stI X21 hx hZ e21 Ar22 (j := (4 : Int32)) hin22 (g := (mkF m 22 #[vR ob, vR pa, vR b2, vI 4] [(.int g4), (.int 4), (.ref b2)])) rfl rfl (hb hby d5_22)
            have V_b2_ : Arv Z h22 b2 k2 .int nn [(.int g0), (.int g1), (.int g2), (.int g3), (.int g4)] (.int 0) := Arv.set Ar22 q22 S22 N22 Hs22 G22 rfl W22 4 rfl (Nat.le_of_ble_eq_true rfl)
            replace E_ob := E_ob.wr W22
            replace F_ordinal_ob := F_ordinal_ob.other W22 (Or.inl ne_ob_b2)
            replace V_pa := V_pa.other W22 ne_pa_b2
            replace Zle := Nat.le_trans Zle (Keep.of_wr W22).1
            replace K_ := K_.wr W22 (Or.inr sz_b2)
            replace V_b2 := V_b2_
            clear V_b2_ W22 hin22 G22 Hs22 N22 S22 q22 Ar22
            replace N_ := Fr.snoc X22 N_ g_b2
            refine own_by (T' := T22) (g' := (mkF m 23 #[vR ob, vR pa, vR b2, vI 4] [])) (fun t k => st22 t k) ?_
            clear st22 X21 e21
            refine own_by (T' := T22) (g' := (mkF m 26 #[vR ob, vR pa, vR b2, vI 5] [])) (fun t k => XS.iinc X22.here hx rfl (hb hby d5_23) rfl (l' := #[vR ob, vR pa, vR b2, vI 5]) rfl k) ?_
            refine own_by (T' := T22) (g' := (mkF m 7 #[vR ob, vR pa, vR b2, vI 5] [])) (fun t k => XS.goto X22.here hx rfl (pc0 := 26) (pc' := 7) rfl (hb hby d5_26) (by decide) (by decide) k) ?_
            refine own_by (T' := T22) (g' := (mkF m 8 #[vR ob, vR pa, vR b2, vI 5] [(.int 5)])) (fun t k => XS.iloadN X22.here hx rfl (hb hby d5_7) rfl k) ?_
            refine own_by (T' := T22) (g' := (mkF m 9 #[vR ob, vR pa, vR b2, vI 5] [(.ref b2), (.int 5)])) (fun t k => XS.aloadN X22.here hx rfl (hb hby d5_8) rfl rfl k) ?_
            obtain ⟨cl23, Ar23, -, S23, N23, -, -⟩ := id V_b2
            have st23 : ∀ t, Steps p.tables e below (T22.setTop (mkF m 10 #[vR ob, vR pa, vR b2, vI 5] [(.int nn), (.int 5)])) t → Steps p.tables e below (T22.setTop (mkF m 9 #[vR ob, vR pa, vR b2, vI 5] [(.ref b2), (.int 5)])) t := fun t k => X22.arraylength hx (by rw [e22]; exact Ar23.1) (State.isArrayOf_alike hZ.alike Ar23.2.1) (g := (mkF m 9 #[vR ob, vR pa, vR b2, vI 5] [(.ref b2), (.int 5)])) rfl rfl (hb hby d5_9) _ (by rw [len_of S23 N23]; exact k)
            refine own_by (T' := T22) (g' := (mkF m 10 #[vR ob, vR pa, vR b2, vI 5] [(.int nn), (.int 5)])) (fun t k => st23 t k) ?_
            clear st23
            refine own_by (T' := T22) (g' := (mkF m 29 #[vR ob, vR pa, vR b2, vI 5] [])) (fun t k => XS.icmpYes X22.here hx rfl (pc0 := 10) (pc' := 29) rfl (hb hby d5_10) rfl (flt (own_no5 hn6)).2.1 (by decide) (by decide) k) ?_
            refine own_by (T' := T22) (g' := (mkF m 30 #[vR ob, vR pa, vR b2, vI 5] [(.ref b2)])) (fun t k => XS.aloadN X22.here hx rfl (hb hby d5_29) rfl rfl k) ?_
            exact own_retA X22 hx (t := (.array .int)) Bd.notSynchronized Bd.returns rfl rfl rfl (hb hby d5_30) (by decide) (by decide) (by rw [e22]; exact ⟨b2, g0, g1, g2, g3, g4, _, rfl, N_, K_, sz_b2, V_b2, (fun _ => e_g0), (fun _ => e_g1), (fun _ => e_g2), (fun _ => e_g3), (fun _ => e_g4)⟩)
          · refine own_by (T' := T18) (g' := (mkF m 29 #[vR ob, vR pa, vR b2, vI 4] [])) (fun t k => XS.icmpYes X18.here hx rfl (pc0 := 10) (pc' := 29) rfl (hb hby d5_10) rfl (flt hc10_20).2.1 (by decide) (by decide) k) ?_
            refine own_by (T' := T18) (g' := (mkF m 30 #[vR ob, vR pa, vR b2, vI 4] [(.ref b2)])) (fun t k => XS.aloadN X18.here hx rfl (hb hby d5_29) rfl rfl k) ?_
            exact own_retA X18 hx (t := (.array .int)) Bd.notSynchronized Bd.returns rfl rfl rfl (hb hby d5_30) (by decide) (by decide) (by rw [e18]; exact ⟨b2, g0, g1, g2, g3, 0, _, rfl, N_, K_, sz_b2, V_b2, (fun _ => e_g0), (fun _ => e_g1), (fun _ => e_g2), (fun _ => e_g3), (fun q => absurd (own_lt (by decide) q) hc10_20)⟩)
        · refine own_by (T' := T14) (g' := (mkF m 29 #[vR ob, vR pa, vR b2, vI 3] [])) (fun t k => XS.icmpYes X14.here hx rfl (pc0 := 10) (pc' := 29) rfl (hb hby d5_10) rfl (flt hc10_16).2.1 (by decide) (by decide) k) ?_
          refine own_by (T' := T14) (g' := (mkF m 30 #[vR ob, vR pa, vR b2, vI 3] [(.ref b2)])) (fun t k => XS.aloadN X14.here hx rfl (hb hby d5_29) rfl rfl k) ?_
          exact own_retA X14 hx (t := (.array .int)) Bd.notSynchronized Bd.returns rfl rfl rfl (hb hby d5_30) (by decide) (by decide) (by rw [e14]; exact ⟨b2, g0, g1, g2, 0, 0, _, rfl, N_, K_, sz_b2, V_b2, (fun _ => e_g0), (fun _ => e_g1), (fun _ => e_g2), (fun q => absurd (own_lt (by decide) q) hc10_16), (fun q => absurd (own_lt (by decide) q) hc10_16)⟩)
      · refine own_by (T' := T10) (g' := (mkF m 29 #[vR ob, vR pa, vR b2, vI 2] [])) (fun t k => XS.icmpYes X10.here hx rfl (pc0 := 10) (pc' := 29) rfl (hb hby d5_10) rfl (flt hc10_12).2.1 (by decide) (by decide) k) ?_
        refine own_by (T' := T10) (g' := (mkF m 30 #[vR ob, vR pa, vR b2, vI 2] [(.ref b2)])) (fun t k => XS.aloadN X10.here hx rfl (hb hby d5_29) rfl rfl k) ?_
        exact own_retA X10 hx (t := (.array .int)) Bd.notSynchronized Bd.returns rfl rfl rfl (hb hby d5_30) (by decide) (by decide) (by rw [e10]; exact ⟨b2, g0, g1, 0, 0, 0, _, rfl, N_, K_, sz_b2, V_b2, (fun _ => e_g0), (fun _ => e_g1), (fun q => absurd (own_lt (by decide) q) hc10_12), (fun q => absurd (own_lt (by decide) q) hc10_12), (fun q => absurd (own_lt (by decide) q) hc10_12)⟩)
    · refine own_by (T' := T6) (g' := (mkF m 29 #[vR ob, vR pa, vR b2, vI 1] [])) (fun t k => XS.icmpYes X6.here hx rfl (pc0 := 10) (pc' := 29) rfl (hb hby d5_10) rfl (flt hc10_8).2.1 (by decide) (by decide) k) ?_
      refine own_by (T' := T6) (g' := (mkF m 30 #[vR ob, vR pa, vR b2, vI 1] [(.ref b2)])) (fun t k => XS.aloadN X6.here hx rfl (hb hby d5_29) rfl rfl k) ?_
      exact own_retA X6 hx (t := (.array .int)) Bd.notSynchronized Bd.returns rfl rfl rfl (hb hby d5_30) (by decide) (by decide) (by rw [e6]; exact ⟨b2, g0, 0, 0, 0, 0, _, rfl, N_, K_, sz_b2, V_b2, (fun _ => e_g0), (fun q => absurd (own_lt (by decide) q) hc10_8), (fun q => absurd (own_lt (by decide) q) hc10_8), (fun q => absurd (own_lt (by decide) q) hc10_8), (fun q => absurd (own_lt (by decide) q) hc10_8)⟩)
  · refine own_by (T' := T2) (g' := (mkF m 29 #[vR ob, vR pa, vR b2, vI 0] [])) (fun t k => XS.icmpYes X2.here hx rfl (pc0 := 10) (pc' := 29) rfl (hb hby d5_10) rfl (flt hc10_4).2.1 (by decide) (by decide) k) ?_
    refine own_by (T' := T2) (g' := (mkF m 30 #[vR ob, vR pa, vR b2, vI 0] [(.ref b2)])) (fun t k => XS.aloadN X2.here hx rfl (hb hby d5_29) rfl rfl k) ?_
    exact own_retA X2 hx (t := (.array .int)) Bd.notSynchronized Bd.returns rfl rfl rfl (hb hby d5_30) (by decide) (by decide) (by rw [e2]; exact ⟨b2, 0, 0, 0, 0, 0, _, rfl, N_, K_, sz_b2, V_b2, (fun q => absurd (own_lt (by decide) q) hc10_4), (fun q => absurd (own_lt (by decide) q) hc10_4), (fun q => absurd (own_lt (by decide) q) hc10_4), (fun q => absurd (own_lt (by decide) q) hc10_4), (fun q => absurd (own_lt (by decide) q) hc10_4)⟩)

def Q8_0 (Z : State) (ga : Addr) (ea : Addr) (nn : Int32) (kg : ClassId) (ke : ClassId) (g0 : Int32) (g1 : Int32) (g2 : Int32) (g3 : Int32) (g4 : Int32) (p0 : Int32) (p1 : Int32) (p2 : Int32) (p3 : Int32) (p4 : Int32) (h0 : Heap) (n0 : Nat) (v : Option Value) (h : Heap) (L : List Loc) : Prop := v = some (.int 1) ∧ Fr n0 L ∧ h = h0
theorem ef_8_0 (m : MethodId) (ga : Addr) (ea : Addr) : entryFrame m #[(.ref ga), (.ref ea), (.int 0)] 3 = mkF m 0 #[vR ga, vR ea, vI 0] [] := by first | (simp [entryFrame, mkF, argsToLocals, Value.category]; done) | rfl
theorem d8_0 : decode method_3_code 0 = .ok (.iload_n 2, 1) := by decide +kernel
theorem d8_1 : decode method_3_code 1 = .ok (.aload_n 0, 1) := by decide +kernel
theorem d8_2 : decode method_3_code 2 = .ok (.arraylength, 1) := by decide +kernel
theorem d8_3 : decode method_3_code 3 = .ok (.if_icmp .ge 12, 3) := by decide +kernel
theorem d8_6 : decode method_3_code 6 = .ok (.aload_n 0, 1) := by decide +kernel
theorem d8_7 : decode method_3_code 7 = .ok (.iload_n 2, 1) := by decide +kernel
theorem d8_8 : decode method_3_code 8 = .ok (.iaload, 1) := by decide +kernel
theorem d8_9 : decode method_3_code 9 = .ok (.aload_n 1, 1) := by decide +kernel
theorem d8_10 : decode method_3_code 10 = .ok (.iload_n 2, 1) := by decide +kernel
theorem d8_11 : decode method_3_code 11 = .ok (.iaload, 1) := by decide +kernel
theorem d8_12 : decode method_3_code 12 = .ok (.if_icmp .ne 7, 3) := by decide +kernel
theorem d8_15 : decode method_3_code 15 = .ok (.iconst 1, 1) := by decide +kernel
theorem d8_16 : decode method_3_code 16 = .ok (.goto 4, 3) := by decide +kernel
theorem d8_20 : decode method_3_code 20 = .ok (.ireturn, 1) := by decide +kernel
set_option maxRecDepth 65536 in
set_option maxHeartbeats 40000000 in
theorem rm8_0 (l : Launch) (Z : State) (a0 : Array Value) (hw : ∀ d ∈ tables_1, d.before a0 Z = true) (ws : List Jvm.Cond) (ga : Addr) (ea : Addr) (nn : Int32) (kg : ClassId) (ke : ClassId) (g0 : Int32) (g1 : Int32) (g2 : Int32) (g3 : Int32) (g4 : Int32) (p0 : Int32) (p1 : Int32) (p2 : Int32) (p3 : Int32) (p4 : Int32) (h0 : Heap) (n0 : Nat) (Zle : n0 ≤ h0.size) (V_ga : Arv Z h0 ga kg .int nn [(.int g0), (.int g1), (.int g2), (.int g3), (.int g4)] (.int 0)) (V_ea : Arv Z h0 ea ke .int (5 : Int32) [(.int p0), (.int p1), (.int p2), (.int p3), (.int p4)] (.int 0)) (he : (0 : Int32) < nn → g0 = p0) :
    MetFree l (⟨"com/example/emu/emu/TableFormFromPrefixPinLaw", "agree", "([I[II)Z"⟩ : MethodName) (head1 (Jvm.Cond.code (⟨"com/example/emu/emu/TableFormFromPrefixPinLaw", "agree", "([I[II)Z"⟩ : MethodName) method_3_code 3 (some .boolean) :: ws) ({ frames := 0, cells := 0, slots := 0, locals := 0 } : Room)) (fun a U => a = #[(.ref ga), (.ref ea), (.int 0)] ∧ Z.Warmed39 U.vm ∧ U.heap = h0) (fun _ _ _ _ _ => True) (fun _ U o U' => ∃ v L, o = .returned v ∧ Q8_0 Z ga ea nn kg ke g0 g1 g2 g3 g4 p0 p1 p2 p3 p4 h0 n0 v U'.heap L ∧ FrameEnd U o U' L ({ frames := 0, cells := 0, slots := 0, locals := 0 } : Room).cells ({ frames := 0, cells := 0, slots := 0, locals := 0 } : Room).slots) := by
  refine MetFree.of_bodySF (plainFor_of_name pn_com_example_emu_emu_TableFormFromPrefixPinLaw) hisR ?_
  intro p e s m args below meth c s₁ Bd hml0 hP hK
  obtain ⟨rfl, hZ, hh⟩ := hP
  have hx := Bd.exec
  have hby := Bd.bytes
  have hml : c.maxLocals = 3 := hml0
  have hown : s.vm.findClass "com/example/emu/emu/TableFormFromPrefixPinLaw" = some m.cls := findClass_of_methodNamed Bd.named
  have hnm := (name_of_methodNamed Bd.named Bd.method).1
  have X0 : Stand p l e ({ frames := 0, cells := 0, slots := 0, locals := 0 } : Room) s m #[(.ref ga), (.ref ea), (.int 0)] below meth c s₁ [] 0 0 := Stand.of_body Bd
  have e0 : s₁.heap = h0 := by rw [← hh, Bd.state]; rfl
  have N_ := Fr.nil n0
  show own_Goes p.tables e below s (Q8_0 Z ga ea nn kg ke g0 g1 g2 g3 g4 p0 p1 p2 p3 p4 h0 n0) ({ frames := 0, cells := 0, slots := 0, locals := 0 } : Room).cells ({ frames := 0, cells := 0, slots := 0, locals := 0 } : Room).slots s₁ (entryFrame m #[(.ref ga), (.ref ea), (.int 0)] 3)
  refine own_by (T' := s₁) (g' := (mkF m 0 #[vR ga, vR ea, vI 0] [])) (fun t k => castTop (ef_8_0 m ga ea) k) ?_
  refine own_by (T' := s₁) (g' := (mkF m 1 #[vR ga, vR ea, vI 0] [(.int 0)])) (fun t k => XS.iloadN X0.here hx rfl (hb hby d8_0) rfl k) ?_
  refine own_by (T' := s₁) (g' := (mkF m 2 #[vR ga, vR ea, vI 0] [(.ref ga), (.int 0)])) (fun t k => XS.aloadN X0.here hx rfl (hb hby d8_1) rfl rfl k) ?_
  obtain ⟨cl1, Ar1, -, S1, N1, -, -⟩ := id V_ga
  have st1 : ∀ t, Steps p.tables e below (s₁.setTop (mkF m 3 #[vR ga, vR ea, vI 0] [(.int nn), (.int 0)])) t → Steps p.tables e below (s₁.setTop (mkF m 2 #[vR ga, vR ea, vI 0] [(.ref ga), (.int 0)])) t := fun t k => X0.arraylength hx (by rw [e0]; exact Ar1.1) (State.isArrayOf_alike hZ.alike Ar1.2.1) (g := (mkF m 2 #[vR ga, vR ea, vI 0] [(.ref ga), (.int 0)])) rfl rfl (hb hby d8_2) _ (by rw [len_of S1 N1]; exact k)
  refine own_by (T' := s₁) (g' := (mkF m 3 #[vR ga, vR ea, vI 0] [(.int nn), (.int 0)])) (fun t k => st1 t k) ?_
  clear st1
  by_cases hc3_2 : (0 : Int32) < nn
  · refine own_by (T' := s₁) (g' := (mkF m 6 #[vR ga, vR ea, vI 0] [])) (fun t k => XS.icmpNo X0.here hx rfl (hb hby d8_3) rfl (tlt hc3_2).2.1 k) ?_
    refine own_by (T' := s₁) (g' := (mkF m 7 #[vR ga, vR ea, vI 0] [(.ref ga)])) (fun t k => XS.aloadN X0.here hx rfl (hb hby d8_6) rfl rfl k) ?_
    refine own_by (T' := s₁) (g' := (mkF m 8 #[vR ga, vR ea, vI 0] [(.int 0), (.ref ga)])) (fun t k => XS.iloadN X0.here hx rfl (hb hby d8_7) rfl k) ?_
    obtain ⟨cl3, Ar3, q3, S3, N3, Hs3, G3⟩ := id V_ga
    have hin3 : ¬ ((0 : Int32) < 0 ∨ cl3.slots.size ≤ ((0 : Int32)).toNatClampNeg) := inb_of S3 ⟨by decide, hc3_2⟩
    have hat3 : cl3.slots[((0 : Int32)).toNatClampNeg]? = some (.int g0) := Hs3.at hin3 rfl
    refine own_by (T' := s₁) (g' := (mkF m 9 #[vR ga, vR ea, vI 0] [(.int g0)])) (fun t k => X0.iaload hx (j := (0 : Int32)) (v := (.int g0)) (by rw [e0]; exact Ar3.1) (State.isArrayOf_alike hZ.alike Ar3.2.1) Ar3.2.2 hin3 hat3 (g := (mkF m 8 #[vR ga, vR ea, vI 0] [(.int 0), (.ref ga)])) rfl rfl (hb hby d8_8) _ k) ?_
    clear hat3 hin3 G3 Hs3 N3 S3 q3 Ar3 cl3
    refine own_by (T' := s₁) (g' := (mkF m 10 #[vR ga, vR ea, vI 0] [(.ref ea), (.int g0)])) (fun t k => XS.aloadN X0.here hx rfl (hb hby d8_9) rfl rfl k) ?_
    refine own_by (T' := s₁) (g' := (mkF m 11 #[vR ga, vR ea, vI 0] [(.int 0), (.ref ea), (.int g0)])) (fun t k => XS.iloadN X0.here hx rfl (hb hby d8_10) rfl k) ?_
    obtain ⟨cl4, Ar4, q4, S4, N4, Hs4, G4⟩ := id V_ea
    have hin4 : ¬ ((0 : Int32) < 0 ∨ cl4.slots.size ≤ ((0 : Int32)).toNatClampNeg) := inb_of S4 ⟨by decide, by decide⟩
    have hat4 : cl4.slots[((0 : Int32)).toNatClampNeg]? = some (.int p0) := Hs4.at hin4 rfl
    refine own_by (T' := s₁) (g' := (mkF m 12 #[vR ga, vR ea, vI 0] [(.int p0), (.int g0)])) (fun t k => X0.iaload hx (j := (0 : Int32)) (v := (.int p0)) (by rw [e0]; exact Ar4.1) (State.isArrayOf_alike hZ.alike Ar4.2.1) Ar4.2.2 hin4 hat4 (g := (mkF m 11 #[vR ga, vR ea, vI 0] [(.int 0), (.ref ea), (.int g0)])) rfl rfl (hb hby d8_11) _ k) ?_
    clear hat4 hin4 G4 Hs4 N4 S4 q4 Ar4 cl4
    refine own_by (T' := s₁) (g' := (mkF m 15 #[vR ga, vR ea, vI 0] [])) (fun t k => XS.icmpNo X0.here hx rfl (hb hby d8_12) rfl (teq (he hc3_2)).2 k) ?_
    refine own_by (T' := s₁) (g' := (mkF m 16 #[vR ga, vR ea, vI 0] [(.int 1)])) (fun t k => XS.iconst X0.here hx rfl (hb hby d8_15) k) ?_
    refine own_by (T' := s₁) (g' := (mkF m 20 #[vR ga, vR ea, vI 0] [(.int 1)])) (fun t k => XS.goto X0.here hx rfl (pc0 := 16) (pc' := 20) rfl (hb hby d8_16) (by decide) (by decide) k) ?_
    exact own_retN X0 hx (t := .boolean) Bd.notSynchronized Bd.returns (by simp) (hb hby d8_20) (by decide) (by decide) (by rw [e0]; exact ⟨rfl, N_, rfl⟩)
  · refine own_by (T' := s₁) (g' := (mkF m 15 #[vR ga, vR ea, vI 0] [])) (fun t k => XS.icmpYes X0.here hx rfl (pc0 := 3) (pc' := 15) rfl (hb hby d8_3) rfl (flt hc3_2).2.1 (by decide) (by decide) k) ?_
    refine own_by (T' := s₁) (g' := (mkF m 16 #[vR ga, vR ea, vI 0] [(.int 1)])) (fun t k => XS.iconst X0.here hx rfl (hb hby d8_15) k) ?_
    refine own_by (T' := s₁) (g' := (mkF m 20 #[vR ga, vR ea, vI 0] [(.int 1)])) (fun t k => XS.goto X0.here hx rfl (pc0 := 16) (pc' := 20) rfl (hb hby d8_16) (by decide) (by decide) k) ?_
    exact own_retN X0 hx (t := .boolean) Bd.notSynchronized Bd.returns (by simp) (hb hby d8_20) (by decide) (by decide) (by rw [e0]; exact ⟨rfl, N_, rfl⟩)

def Q8_1 (Z : State) (ga : Addr) (ea : Addr) (nn : Int32) (kg : ClassId) (ke : ClassId) (g0 : Int32) (g1 : Int32) (g2 : Int32) (g3 : Int32) (g4 : Int32) (p0 : Int32) (p1 : Int32) (p2 : Int32) (p3 : Int32) (p4 : Int32) (h0 : Heap) (n0 : Nat) (v : Option Value) (h : Heap) (L : List Loc) : Prop := v = some (.int 1) ∧ Fr n0 L ∧ h = h0
theorem ef_8_1 (m : MethodId) (ga : Addr) (ea : Addr) : entryFrame m #[(.ref ga), (.ref ea), (.int 1)] 3 = mkF m 0 #[vR ga, vR ea, vI 1] [] := by first | (simp [entryFrame, mkF, argsToLocals, Value.category]; done) | rfl
set_option maxRecDepth 65536 in
set_option maxHeartbeats 40000000 in
theorem rm8_1 (l : Launch) (Z : State) (a0 : Array Value) (hw : ∀ d ∈ tables_1, d.before a0 Z = true) (ws : List Jvm.Cond) (ga : Addr) (ea : Addr) (nn : Int32) (kg : ClassId) (ke : ClassId) (g0 : Int32) (g1 : Int32) (g2 : Int32) (g3 : Int32) (g4 : Int32) (p0 : Int32) (p1 : Int32) (p2 : Int32) (p3 : Int32) (p4 : Int32) (h0 : Heap) (n0 : Nat) (Zle : n0 ≤ h0.size) (V_ga : Arv Z h0 ga kg .int nn [(.int g0), (.int g1), (.int g2), (.int g3), (.int g4)] (.int 0)) (V_ea : Arv Z h0 ea ke .int (5 : Int32) [(.int p0), (.int p1), (.int p2), (.int p3), (.int p4)] (.int 0)) (he : (1 : Int32) < nn → g1 = p1) :
    MetFree l (⟨"com/example/emu/emu/TableFormFromPrefixPinLaw", "agree", "([I[II)Z"⟩ : MethodName) (head1 (Jvm.Cond.code (⟨"com/example/emu/emu/TableFormFromPrefixPinLaw", "agree", "([I[II)Z"⟩ : MethodName) method_3_code 3 (some .boolean) :: ws) ({ frames := 0, cells := 0, slots := 0, locals := 0 } : Room)) (fun a U => a = #[(.ref ga), (.ref ea), (.int 1)] ∧ Z.Warmed39 U.vm ∧ U.heap = h0) (fun _ _ _ _ _ => True) (fun _ U o U' => ∃ v L, o = .returned v ∧ Q8_1 Z ga ea nn kg ke g0 g1 g2 g3 g4 p0 p1 p2 p3 p4 h0 n0 v U'.heap L ∧ FrameEnd U o U' L ({ frames := 0, cells := 0, slots := 0, locals := 0 } : Room).cells ({ frames := 0, cells := 0, slots := 0, locals := 0 } : Room).slots) := by
  refine MetFree.of_bodySF (plainFor_of_name pn_com_example_emu_emu_TableFormFromPrefixPinLaw) hisR ?_
  intro p e s m args below meth c s₁ Bd hml0 hP hK
  obtain ⟨rfl, hZ, hh⟩ := hP
  have hx := Bd.exec
  have hby := Bd.bytes
  have hml : c.maxLocals = 3 := hml0
  have hown : s.vm.findClass "com/example/emu/emu/TableFormFromPrefixPinLaw" = some m.cls := findClass_of_methodNamed Bd.named
  have hnm := (name_of_methodNamed Bd.named Bd.method).1
  have X0 : Stand p l e ({ frames := 0, cells := 0, slots := 0, locals := 0 } : Room) s m #[(.ref ga), (.ref ea), (.int 1)] below meth c s₁ [] 0 0 := Stand.of_body Bd
  have e0 : s₁.heap = h0 := by rw [← hh, Bd.state]; rfl
  have N_ := Fr.nil n0
  show own_Goes p.tables e below s (Q8_1 Z ga ea nn kg ke g0 g1 g2 g3 g4 p0 p1 p2 p3 p4 h0 n0) ({ frames := 0, cells := 0, slots := 0, locals := 0 } : Room).cells ({ frames := 0, cells := 0, slots := 0, locals := 0 } : Room).slots s₁ (entryFrame m #[(.ref ga), (.ref ea), (.int 1)] 3)
  refine own_by (T' := s₁) (g' := (mkF m 0 #[vR ga, vR ea, vI 1] [])) (fun t k => castTop (ef_8_1 m ga ea) k) ?_
  refine own_by (T' := s₁) (g' := (mkF m 1 #[vR ga, vR ea, vI 1] [(.int 1)])) (fun t k => XS.iloadN X0.here hx rfl (hb hby d8_0) rfl k) ?_
  refine own_by (T' := s₁) (g' := (mkF m 2 #[vR ga, vR ea, vI 1] [(.ref ga), (.int 1)])) (fun t k => XS.aloadN X0.here hx rfl (hb hby d8_1) rfl rfl k) ?_
  obtain ⟨cl1, Ar1, -, S1, N1, -, -⟩ := id V_ga
  have st1 : ∀ t, Steps p.tables e below (s₁.setTop (mkF m 3 #[vR ga, vR ea, vI 1] [(.int nn), (.int 1)])) t → Steps p.tables e below (s₁.setTop (mkF m 2 #[vR ga, vR ea, vI 1] [(.ref ga), (.int 1)])) t := fun t k => X0.arraylength hx (by rw [e0]; exact Ar1.1) (State.isArrayOf_alike hZ.alike Ar1.2.1) (g := (mkF m 2 #[vR ga, vR ea, vI 1] [(.ref ga), (.int 1)])) rfl rfl (hb hby d8_2) _ (by rw [len_of S1 N1]; exact k)
  refine own_by (T' := s₁) (g' := (mkF m 3 #[vR ga, vR ea, vI 1] [(.int nn), (.int 1)])) (fun t k => st1 t k) ?_
  clear st1
  by_cases hc3_2 : (1 : Int32) < nn
  · refine own_by (T' := s₁) (g' := (mkF m 6 #[vR ga, vR ea, vI 1] [])) (fun t k => XS.icmpNo X0.here hx rfl (hb hby d8_3) rfl (tlt hc3_2).2.1 k) ?_
    refine own_by (T' := s₁) (g' := (mkF m 7 #[vR ga, vR ea, vI 1] [(.ref ga)])) (fun t k => XS.aloadN X0.here hx rfl (hb hby d8_6) rfl rfl k) ?_
    refine own_by (T' := s₁) (g' := (mkF m 8 #[vR ga, vR ea, vI 1] [(.int 1), (.ref ga)])) (fun t k => XS.iloadN X0.here hx rfl (hb hby d8_7) rfl k) ?_
    obtain ⟨cl3, Ar3, q3, S3, N3, Hs3, G3⟩ := id V_ga
    have hin3 : ¬ ((1 : Int32) < 0 ∨ cl3.slots.size ≤ ((1 : Int32)).toNatClampNeg) := inb_of S3 ⟨by decide, hc3_2⟩
    have hat3 : cl3.slots[((1 : Int32)).toNatClampNeg]? = some (.int g1) := Hs3.at hin3 rfl
    refine own_by (T' := s₁) (g' := (mkF m 9 #[vR ga, vR ea, vI 1] [(.int g1)])) (fun t k => X0.iaload hx (j := (1 : Int32)) (v := (.int g1)) (by rw [e0]; exact Ar3.1) (State.isArrayOf_alike hZ.alike Ar3.2.1) Ar3.2.2 hin3 hat3 (g := (mkF m 8 #[vR ga, vR ea, vI 1] [(.int 1), (.ref ga)])) rfl rfl (hb hby d8_8) _ k) ?_
    clear hat3 hin3 G3 Hs3 N3 S3 q3 Ar3 cl3
    refine own_by (T' := s₁) (g' := (mkF m 10 #[vR ga, vR ea, vI 1] [(.ref ea), (.int g1)])) (fun t k => XS.aloadN X0.here hx rfl (hb hby d8_9) rfl rfl k) ?_
    refine own_by (T' := s₁) (g' := (mkF m 11 #[vR ga, vR ea, vI 1] [(.int 1), (.ref ea), (.int g1)])) (fun t k => XS.iloadN X0.here hx rfl (hb hby d8_10) rfl k) ?_
    obtain ⟨cl4, Ar4, q4, S4, N4, Hs4, G4⟩ := id V_ea
    have hin4 : ¬ ((1 : Int32) < 0 ∨ cl4.slots.size ≤ ((1 : Int32)).toNatClampNeg) := inb_of S4 ⟨by decide, by decide⟩
    have hat4 : cl4.slots[((1 : Int32)).toNatClampNeg]? = some (.int p1) := Hs4.at hin4 rfl
    refine own_by (T' := s₁) (g' := (mkF m 12 #[vR ga, vR ea, vI 1] [(.int p1), (.int g1)])) (fun t k => X0.iaload hx (j := (1 : Int32)) (v := (.int p1)) (by rw [e0]; exact Ar4.1) (State.isArrayOf_alike hZ.alike Ar4.2.1) Ar4.2.2 hin4 hat4 (g := (mkF m 11 #[vR ga, vR ea, vI 1] [(.int 1), (.ref ea), (.int g1)])) rfl rfl (hb hby d8_11) _ k) ?_
    clear hat4 hin4 G4 Hs4 N4 S4 q4 Ar4 cl4
    refine own_by (T' := s₁) (g' := (mkF m 15 #[vR ga, vR ea, vI 1] [])) (fun t k => XS.icmpNo X0.here hx rfl (hb hby d8_12) rfl (teq (he hc3_2)).2 k) ?_
    refine own_by (T' := s₁) (g' := (mkF m 16 #[vR ga, vR ea, vI 1] [(.int 1)])) (fun t k => XS.iconst X0.here hx rfl (hb hby d8_15) k) ?_
    refine own_by (T' := s₁) (g' := (mkF m 20 #[vR ga, vR ea, vI 1] [(.int 1)])) (fun t k => XS.goto X0.here hx rfl (pc0 := 16) (pc' := 20) rfl (hb hby d8_16) (by decide) (by decide) k) ?_
    exact own_retN X0 hx (t := .boolean) Bd.notSynchronized Bd.returns (by simp) (hb hby d8_20) (by decide) (by decide) (by rw [e0]; exact ⟨rfl, N_, rfl⟩)
  · refine own_by (T' := s₁) (g' := (mkF m 15 #[vR ga, vR ea, vI 1] [])) (fun t k => XS.icmpYes X0.here hx rfl (pc0 := 3) (pc' := 15) rfl (hb hby d8_3) rfl (flt hc3_2).2.1 (by decide) (by decide) k) ?_
    refine own_by (T' := s₁) (g' := (mkF m 16 #[vR ga, vR ea, vI 1] [(.int 1)])) (fun t k => XS.iconst X0.here hx rfl (hb hby d8_15) k) ?_
    refine own_by (T' := s₁) (g' := (mkF m 20 #[vR ga, vR ea, vI 1] [(.int 1)])) (fun t k => XS.goto X0.here hx rfl (pc0 := 16) (pc' := 20) rfl (hb hby d8_16) (by decide) (by decide) k) ?_
    exact own_retN X0 hx (t := .boolean) Bd.notSynchronized Bd.returns (by simp) (hb hby d8_20) (by decide) (by decide) (by rw [e0]; exact ⟨rfl, N_, rfl⟩)

def Q8_2 (Z : State) (ga : Addr) (ea : Addr) (nn : Int32) (kg : ClassId) (ke : ClassId) (g0 : Int32) (g1 : Int32) (g2 : Int32) (g3 : Int32) (g4 : Int32) (p0 : Int32) (p1 : Int32) (p2 : Int32) (p3 : Int32) (p4 : Int32) (h0 : Heap) (n0 : Nat) (v : Option Value) (h : Heap) (L : List Loc) : Prop := v = some (.int 1) ∧ Fr n0 L ∧ h = h0
theorem ef_8_2 (m : MethodId) (ga : Addr) (ea : Addr) : entryFrame m #[(.ref ga), (.ref ea), (.int 2)] 3 = mkF m 0 #[vR ga, vR ea, vI 2] [] := by first | (simp [entryFrame, mkF, argsToLocals, Value.category]; done) | rfl
set_option maxRecDepth 65536 in
set_option maxHeartbeats 40000000 in
theorem rm8_2 (l : Launch) (Z : State) (a0 : Array Value) (hw : ∀ d ∈ tables_1, d.before a0 Z = true) (ws : List Jvm.Cond) (ga : Addr) (ea : Addr) (nn : Int32) (kg : ClassId) (ke : ClassId) (g0 : Int32) (g1 : Int32) (g2 : Int32) (g3 : Int32) (g4 : Int32) (p0 : Int32) (p1 : Int32) (p2 : Int32) (p3 : Int32) (p4 : Int32) (h0 : Heap) (n0 : Nat) (Zle : n0 ≤ h0.size) (V_ga : Arv Z h0 ga kg .int nn [(.int g0), (.int g1), (.int g2), (.int g3), (.int g4)] (.int 0)) (V_ea : Arv Z h0 ea ke .int (5 : Int32) [(.int p0), (.int p1), (.int p2), (.int p3), (.int p4)] (.int 0)) (he : (2 : Int32) < nn → g2 = p2) :
    MetFree l (⟨"com/example/emu/emu/TableFormFromPrefixPinLaw", "agree", "([I[II)Z"⟩ : MethodName) (head1 (Jvm.Cond.code (⟨"com/example/emu/emu/TableFormFromPrefixPinLaw", "agree", "([I[II)Z"⟩ : MethodName) method_3_code 3 (some .boolean) :: ws) ({ frames := 0, cells := 0, slots := 0, locals := 0 } : Room)) (fun a U => a = #[(.ref ga), (.ref ea), (.int 2)] ∧ Z.Warmed39 U.vm ∧ U.heap = h0) (fun _ _ _ _ _ => True) (fun _ U o U' => ∃ v L, o = .returned v ∧ Q8_2 Z ga ea nn kg ke g0 g1 g2 g3 g4 p0 p1 p2 p3 p4 h0 n0 v U'.heap L ∧ FrameEnd U o U' L ({ frames := 0, cells := 0, slots := 0, locals := 0 } : Room).cells ({ frames := 0, cells := 0, slots := 0, locals := 0 } : Room).slots) := by
  refine MetFree.of_bodySF (plainFor_of_name pn_com_example_emu_emu_TableFormFromPrefixPinLaw) hisR ?_
  intro p e s m args below meth c s₁ Bd hml0 hP hK
  obtain ⟨rfl, hZ, hh⟩ := hP
  have hx := Bd.exec
  have hby := Bd.bytes
  have hml : c.maxLocals = 3 := hml0
  have hown : s.vm.findClass "com/example/emu/emu/TableFormFromPrefixPinLaw" = some m.cls := findClass_of_methodNamed Bd.named
  have hnm := (name_of_methodNamed Bd.named Bd.method).1
  have X0 : Stand p l e ({ frames := 0, cells := 0, slots := 0, locals := 0 } : Room) s m #[(.ref ga), (.ref ea), (.int 2)] below meth c s₁ [] 0 0 := Stand.of_body Bd
  have e0 : s₁.heap = h0 := by rw [← hh, Bd.state]; rfl
  have N_ := Fr.nil n0
  show own_Goes p.tables e below s (Q8_2 Z ga ea nn kg ke g0 g1 g2 g3 g4 p0 p1 p2 p3 p4 h0 n0) ({ frames := 0, cells := 0, slots := 0, locals := 0 } : Room).cells ({ frames := 0, cells := 0, slots := 0, locals := 0 } : Room).slots s₁ (entryFrame m #[(.ref ga), (.ref ea), (.int 2)] 3)
  refine own_by (T' := s₁) (g' := (mkF m 0 #[vR ga, vR ea, vI 2] [])) (fun t k => castTop (ef_8_2 m ga ea) k) ?_
  refine own_by (T' := s₁) (g' := (mkF m 1 #[vR ga, vR ea, vI 2] [(.int 2)])) (fun t k => XS.iloadN X0.here hx rfl (hb hby d8_0) rfl k) ?_
  refine own_by (T' := s₁) (g' := (mkF m 2 #[vR ga, vR ea, vI 2] [(.ref ga), (.int 2)])) (fun t k => XS.aloadN X0.here hx rfl (hb hby d8_1) rfl rfl k) ?_
  obtain ⟨cl1, Ar1, -, S1, N1, -, -⟩ := id V_ga
  have st1 : ∀ t, Steps p.tables e below (s₁.setTop (mkF m 3 #[vR ga, vR ea, vI 2] [(.int nn), (.int 2)])) t → Steps p.tables e below (s₁.setTop (mkF m 2 #[vR ga, vR ea, vI 2] [(.ref ga), (.int 2)])) t := fun t k => X0.arraylength hx (by rw [e0]; exact Ar1.1) (State.isArrayOf_alike hZ.alike Ar1.2.1) (g := (mkF m 2 #[vR ga, vR ea, vI 2] [(.ref ga), (.int 2)])) rfl rfl (hb hby d8_2) _ (by rw [len_of S1 N1]; exact k)
  refine own_by (T' := s₁) (g' := (mkF m 3 #[vR ga, vR ea, vI 2] [(.int nn), (.int 2)])) (fun t k => st1 t k) ?_
  clear st1
  by_cases hc3_2 : (2 : Int32) < nn
  · refine own_by (T' := s₁) (g' := (mkF m 6 #[vR ga, vR ea, vI 2] [])) (fun t k => XS.icmpNo X0.here hx rfl (hb hby d8_3) rfl (tlt hc3_2).2.1 k) ?_
    refine own_by (T' := s₁) (g' := (mkF m 7 #[vR ga, vR ea, vI 2] [(.ref ga)])) (fun t k => XS.aloadN X0.here hx rfl (hb hby d8_6) rfl rfl k) ?_
    refine own_by (T' := s₁) (g' := (mkF m 8 #[vR ga, vR ea, vI 2] [(.int 2), (.ref ga)])) (fun t k => XS.iloadN X0.here hx rfl (hb hby d8_7) rfl k) ?_
    obtain ⟨cl3, Ar3, q3, S3, N3, Hs3, G3⟩ := id V_ga
    have hin3 : ¬ ((2 : Int32) < 0 ∨ cl3.slots.size ≤ ((2 : Int32)).toNatClampNeg) := inb_of S3 ⟨by decide, hc3_2⟩
    have hat3 : cl3.slots[((2 : Int32)).toNatClampNeg]? = some (.int g2) := Hs3.at hin3 rfl
    refine own_by (T' := s₁) (g' := (mkF m 9 #[vR ga, vR ea, vI 2] [(.int g2)])) (fun t k => X0.iaload hx (j := (2 : Int32)) (v := (.int g2)) (by rw [e0]; exact Ar3.1) (State.isArrayOf_alike hZ.alike Ar3.2.1) Ar3.2.2 hin3 hat3 (g := (mkF m 8 #[vR ga, vR ea, vI 2] [(.int 2), (.ref ga)])) rfl rfl (hb hby d8_8) _ k) ?_
    clear hat3 hin3 G3 Hs3 N3 S3 q3 Ar3 cl3
    refine own_by (T' := s₁) (g' := (mkF m 10 #[vR ga, vR ea, vI 2] [(.ref ea), (.int g2)])) (fun t k => XS.aloadN X0.here hx rfl (hb hby d8_9) rfl rfl k) ?_
    refine own_by (T' := s₁) (g' := (mkF m 11 #[vR ga, vR ea, vI 2] [(.int 2), (.ref ea), (.int g2)])) (fun t k => XS.iloadN X0.here hx rfl (hb hby d8_10) rfl k) ?_
    obtain ⟨cl4, Ar4, q4, S4, N4, Hs4, G4⟩ := id V_ea
    have hin4 : ¬ ((2 : Int32) < 0 ∨ cl4.slots.size ≤ ((2 : Int32)).toNatClampNeg) := inb_of S4 ⟨by decide, by decide⟩
    have hat4 : cl4.slots[((2 : Int32)).toNatClampNeg]? = some (.int p2) := Hs4.at hin4 rfl
    refine own_by (T' := s₁) (g' := (mkF m 12 #[vR ga, vR ea, vI 2] [(.int p2), (.int g2)])) (fun t k => X0.iaload hx (j := (2 : Int32)) (v := (.int p2)) (by rw [e0]; exact Ar4.1) (State.isArrayOf_alike hZ.alike Ar4.2.1) Ar4.2.2 hin4 hat4 (g := (mkF m 11 #[vR ga, vR ea, vI 2] [(.int 2), (.ref ea), (.int g2)])) rfl rfl (hb hby d8_11) _ k) ?_
    clear hat4 hin4 G4 Hs4 N4 S4 q4 Ar4 cl4
    refine own_by (T' := s₁) (g' := (mkF m 15 #[vR ga, vR ea, vI 2] [])) (fun t k => XS.icmpNo X0.here hx rfl (hb hby d8_12) rfl (teq (he hc3_2)).2 k) ?_
    refine own_by (T' := s₁) (g' := (mkF m 16 #[vR ga, vR ea, vI 2] [(.int 1)])) (fun t k => XS.iconst X0.here hx rfl (hb hby d8_15) k) ?_
    refine own_by (T' := s₁) (g' := (mkF m 20 #[vR ga, vR ea, vI 2] [(.int 1)])) (fun t k => XS.goto X0.here hx rfl (pc0 := 16) (pc' := 20) rfl (hb hby d8_16) (by decide) (by decide) k) ?_
    exact own_retN X0 hx (t := .boolean) Bd.notSynchronized Bd.returns (by simp) (hb hby d8_20) (by decide) (by decide) (by rw [e0]; exact ⟨rfl, N_, rfl⟩)
  · refine own_by (T' := s₁) (g' := (mkF m 15 #[vR ga, vR ea, vI 2] [])) (fun t k => XS.icmpYes X0.here hx rfl (pc0 := 3) (pc' := 15) rfl (hb hby d8_3) rfl (flt hc3_2).2.1 (by decide) (by decide) k) ?_
    refine own_by (T' := s₁) (g' := (mkF m 16 #[vR ga, vR ea, vI 2] [(.int 1)])) (fun t k => XS.iconst X0.here hx rfl (hb hby d8_15) k) ?_
    refine own_by (T' := s₁) (g' := (mkF m 20 #[vR ga, vR ea, vI 2] [(.int 1)])) (fun t k => XS.goto X0.here hx rfl (pc0 := 16) (pc' := 20) rfl (hb hby d8_16) (by decide) (by decide) k) ?_
    exact own_retN X0 hx (t := .boolean) Bd.notSynchronized Bd.returns (by simp) (hb hby d8_20) (by decide) (by decide) (by rw [e0]; exact ⟨rfl, N_, rfl⟩)

def Q8_3 (Z : State) (ga : Addr) (ea : Addr) (nn : Int32) (kg : ClassId) (ke : ClassId) (g0 : Int32) (g1 : Int32) (g2 : Int32) (g3 : Int32) (g4 : Int32) (p0 : Int32) (p1 : Int32) (p2 : Int32) (p3 : Int32) (p4 : Int32) (h0 : Heap) (n0 : Nat) (v : Option Value) (h : Heap) (L : List Loc) : Prop := v = some (.int 1) ∧ Fr n0 L ∧ h = h0
theorem ef_8_3 (m : MethodId) (ga : Addr) (ea : Addr) : entryFrame m #[(.ref ga), (.ref ea), (.int 3)] 3 = mkF m 0 #[vR ga, vR ea, vI 3] [] := by first | (simp [entryFrame, mkF, argsToLocals, Value.category]; done) | rfl
set_option maxRecDepth 65536 in
set_option maxHeartbeats 40000000 in
theorem rm8_3 (l : Launch) (Z : State) (a0 : Array Value) (hw : ∀ d ∈ tables_1, d.before a0 Z = true) (ws : List Jvm.Cond) (ga : Addr) (ea : Addr) (nn : Int32) (kg : ClassId) (ke : ClassId) (g0 : Int32) (g1 : Int32) (g2 : Int32) (g3 : Int32) (g4 : Int32) (p0 : Int32) (p1 : Int32) (p2 : Int32) (p3 : Int32) (p4 : Int32) (h0 : Heap) (n0 : Nat) (Zle : n0 ≤ h0.size) (V_ga : Arv Z h0 ga kg .int nn [(.int g0), (.int g1), (.int g2), (.int g3), (.int g4)] (.int 0)) (V_ea : Arv Z h0 ea ke .int (5 : Int32) [(.int p0), (.int p1), (.int p2), (.int p3), (.int p4)] (.int 0)) (he : (3 : Int32) < nn → g3 = p3) :
    MetFree l (⟨"com/example/emu/emu/TableFormFromPrefixPinLaw", "agree", "([I[II)Z"⟩ : MethodName) (head1 (Jvm.Cond.code (⟨"com/example/emu/emu/TableFormFromPrefixPinLaw", "agree", "([I[II)Z"⟩ : MethodName) method_3_code 3 (some .boolean) :: ws) ({ frames := 0, cells := 0, slots := 0, locals := 0 } : Room)) (fun a U => a = #[(.ref ga), (.ref ea), (.int 3)] ∧ Z.Warmed39 U.vm ∧ U.heap = h0) (fun _ _ _ _ _ => True) (fun _ U o U' => ∃ v L, o = .returned v ∧ Q8_3 Z ga ea nn kg ke g0 g1 g2 g3 g4 p0 p1 p2 p3 p4 h0 n0 v U'.heap L ∧ FrameEnd U o U' L ({ frames := 0, cells := 0, slots := 0, locals := 0 } : Room).cells ({ frames := 0, cells := 0, slots := 0, locals := 0 } : Room).slots) := by
  refine MetFree.of_bodySF (plainFor_of_name pn_com_example_emu_emu_TableFormFromPrefixPinLaw) hisR ?_
  intro p e s m args below meth c s₁ Bd hml0 hP hK
  obtain ⟨rfl, hZ, hh⟩ := hP
  have hx := Bd.exec
  have hby := Bd.bytes
  have hml : c.maxLocals = 3 := hml0
  have hown : s.vm.findClass "com/example/emu/emu/TableFormFromPrefixPinLaw" = some m.cls := findClass_of_methodNamed Bd.named
  have hnm := (name_of_methodNamed Bd.named Bd.method).1
  have X0 : Stand p l e ({ frames := 0, cells := 0, slots := 0, locals := 0 } : Room) s m #[(.ref ga), (.ref ea), (.int 3)] below meth c s₁ [] 0 0 := Stand.of_body Bd
  have e0 : s₁.heap = h0 := by rw [← hh, Bd.state]; rfl
  have N_ := Fr.nil n0
  show own_Goes p.tables e below s (Q8_3 Z ga ea nn kg ke g0 g1 g2 g3 g4 p0 p1 p2 p3 p4 h0 n0) ({ frames := 0, cells := 0, slots := 0, locals := 0 } : Room).cells ({ frames := 0, cells := 0, slots := 0, locals := 0 } : Room).slots s₁ (entryFrame m #[(.ref ga), (.ref ea), (.int 3)] 3)
  refine own_by (T' := s₁) (g' := (mkF m 0 #[vR ga, vR ea, vI 3] [])) (fun t k => castTop (ef_8_3 m ga ea) k) ?_
  refine own_by (T' := s₁) (g' := (mkF m 1 #[vR ga, vR ea, vI 3] [(.int 3)])) (fun t k => XS.iloadN X0.here hx rfl (hb hby d8_0) rfl k) ?_
  refine own_by (T' := s₁) (g' := (mkF m 2 #[vR ga, vR ea, vI 3] [(.ref ga), (.int 3)])) (fun t k => XS.aloadN X0.here hx rfl (hb hby d8_1) rfl rfl k) ?_
  obtain ⟨cl1, Ar1, -, S1, N1, -, -⟩ := id V_ga
  have st1 : ∀ t, Steps p.tables e below (s₁.setTop (mkF m 3 #[vR ga, vR ea, vI 3] [(.int nn), (.int 3)])) t → Steps p.tables e below (s₁.setTop (mkF m 2 #[vR ga, vR ea, vI 3] [(.ref ga), (.int 3)])) t := fun t k => X0.arraylength hx (by rw [e0]; exact Ar1.1) (State.isArrayOf_alike hZ.alike Ar1.2.1) (g := (mkF m 2 #[vR ga, vR ea, vI 3] [(.ref ga), (.int 3)])) rfl rfl (hb hby d8_2) _ (by rw [len_of S1 N1]; exact k)
  refine own_by (T' := s₁) (g' := (mkF m 3 #[vR ga, vR ea, vI 3] [(.int nn), (.int 3)])) (fun t k => st1 t k) ?_
  clear st1
  by_cases hc3_2 : (3 : Int32) < nn
  · refine own_by (T' := s₁) (g' := (mkF m 6 #[vR ga, vR ea, vI 3] [])) (fun t k => XS.icmpNo X0.here hx rfl (hb hby d8_3) rfl (tlt hc3_2).2.1 k) ?_
    refine own_by (T' := s₁) (g' := (mkF m 7 #[vR ga, vR ea, vI 3] [(.ref ga)])) (fun t k => XS.aloadN X0.here hx rfl (hb hby d8_6) rfl rfl k) ?_
    refine own_by (T' := s₁) (g' := (mkF m 8 #[vR ga, vR ea, vI 3] [(.int 3), (.ref ga)])) (fun t k => XS.iloadN X0.here hx rfl (hb hby d8_7) rfl k) ?_
    obtain ⟨cl3, Ar3, q3, S3, N3, Hs3, G3⟩ := id V_ga
    have hin3 : ¬ ((3 : Int32) < 0 ∨ cl3.slots.size ≤ ((3 : Int32)).toNatClampNeg) := inb_of S3 ⟨by decide, hc3_2⟩
    have hat3 : cl3.slots[((3 : Int32)).toNatClampNeg]? = some (.int g3) := Hs3.at hin3 rfl
    refine own_by (T' := s₁) (g' := (mkF m 9 #[vR ga, vR ea, vI 3] [(.int g3)])) (fun t k => X0.iaload hx (j := (3 : Int32)) (v := (.int g3)) (by rw [e0]; exact Ar3.1) (State.isArrayOf_alike hZ.alike Ar3.2.1) Ar3.2.2 hin3 hat3 (g := (mkF m 8 #[vR ga, vR ea, vI 3] [(.int 3), (.ref ga)])) rfl rfl (hb hby d8_8) _ k) ?_
    clear hat3 hin3 G3 Hs3 N3 S3 q3 Ar3 cl3
    refine own_by (T' := s₁) (g' := (mkF m 10 #[vR ga, vR ea, vI 3] [(.ref ea), (.int g3)])) (fun t k => XS.aloadN X0.here hx rfl (hb hby d8_9) rfl rfl k) ?_
    refine own_by (T' := s₁) (g' := (mkF m 11 #[vR ga, vR ea, vI 3] [(.int 3), (.ref ea), (.int g3)])) (fun t k => XS.iloadN X0.here hx rfl (hb hby d8_10) rfl k) ?_
    obtain ⟨cl4, Ar4, q4, S4, N4, Hs4, G4⟩ := id V_ea
    have hin4 : ¬ ((3 : Int32) < 0 ∨ cl4.slots.size ≤ ((3 : Int32)).toNatClampNeg) := inb_of S4 ⟨by decide, by decide⟩
    have hat4 : cl4.slots[((3 : Int32)).toNatClampNeg]? = some (.int p3) := Hs4.at hin4 rfl
    refine own_by (T' := s₁) (g' := (mkF m 12 #[vR ga, vR ea, vI 3] [(.int p3), (.int g3)])) (fun t k => X0.iaload hx (j := (3 : Int32)) (v := (.int p3)) (by rw [e0]; exact Ar4.1) (State.isArrayOf_alike hZ.alike Ar4.2.1) Ar4.2.2 hin4 hat4 (g := (mkF m 11 #[vR ga, vR ea, vI 3] [(.int 3), (.ref ea), (.int g3)])) rfl rfl (hb hby d8_11) _ k) ?_
    clear hat4 hin4 G4 Hs4 N4 S4 q4 Ar4 cl4
    refine own_by (T' := s₁) (g' := (mkF m 15 #[vR ga, vR ea, vI 3] [])) (fun t k => XS.icmpNo X0.here hx rfl (hb hby d8_12) rfl (teq (he hc3_2)).2 k) ?_
    refine own_by (T' := s₁) (g' := (mkF m 16 #[vR ga, vR ea, vI 3] [(.int 1)])) (fun t k => XS.iconst X0.here hx rfl (hb hby d8_15) k) ?_
    refine own_by (T' := s₁) (g' := (mkF m 20 #[vR ga, vR ea, vI 3] [(.int 1)])) (fun t k => XS.goto X0.here hx rfl (pc0 := 16) (pc' := 20) rfl (hb hby d8_16) (by decide) (by decide) k) ?_
    exact own_retN X0 hx (t := .boolean) Bd.notSynchronized Bd.returns (by simp) (hb hby d8_20) (by decide) (by decide) (by rw [e0]; exact ⟨rfl, N_, rfl⟩)
  · refine own_by (T' := s₁) (g' := (mkF m 15 #[vR ga, vR ea, vI 3] [])) (fun t k => XS.icmpYes X0.here hx rfl (pc0 := 3) (pc' := 15) rfl (hb hby d8_3) rfl (flt hc3_2).2.1 (by decide) (by decide) k) ?_
    refine own_by (T' := s₁) (g' := (mkF m 16 #[vR ga, vR ea, vI 3] [(.int 1)])) (fun t k => XS.iconst X0.here hx rfl (hb hby d8_15) k) ?_
    refine own_by (T' := s₁) (g' := (mkF m 20 #[vR ga, vR ea, vI 3] [(.int 1)])) (fun t k => XS.goto X0.here hx rfl (pc0 := 16) (pc' := 20) rfl (hb hby d8_16) (by decide) (by decide) k) ?_
    exact own_retN X0 hx (t := .boolean) Bd.notSynchronized Bd.returns (by simp) (hb hby d8_20) (by decide) (by decide) (by rw [e0]; exact ⟨rfl, N_, rfl⟩)

def Q8_4 (Z : State) (ga : Addr) (ea : Addr) (nn : Int32) (kg : ClassId) (ke : ClassId) (g0 : Int32) (g1 : Int32) (g2 : Int32) (g3 : Int32) (g4 : Int32) (p0 : Int32) (p1 : Int32) (p2 : Int32) (p3 : Int32) (p4 : Int32) (h0 : Heap) (n0 : Nat) (v : Option Value) (h : Heap) (L : List Loc) : Prop := v = some (.int 1) ∧ Fr n0 L ∧ h = h0
theorem ef_8_4 (m : MethodId) (ga : Addr) (ea : Addr) : entryFrame m #[(.ref ga), (.ref ea), (.int 4)] 3 = mkF m 0 #[vR ga, vR ea, vI 4] [] := by first | (simp [entryFrame, mkF, argsToLocals, Value.category]; done) | rfl
set_option maxRecDepth 65536 in
set_option maxHeartbeats 40000000 in
theorem rm8_4 (l : Launch) (Z : State) (a0 : Array Value) (hw : ∀ d ∈ tables_1, d.before a0 Z = true) (ws : List Jvm.Cond) (ga : Addr) (ea : Addr) (nn : Int32) (kg : ClassId) (ke : ClassId) (g0 : Int32) (g1 : Int32) (g2 : Int32) (g3 : Int32) (g4 : Int32) (p0 : Int32) (p1 : Int32) (p2 : Int32) (p3 : Int32) (p4 : Int32) (h0 : Heap) (n0 : Nat) (Zle : n0 ≤ h0.size) (V_ga : Arv Z h0 ga kg .int nn [(.int g0), (.int g1), (.int g2), (.int g3), (.int g4)] (.int 0)) (V_ea : Arv Z h0 ea ke .int (5 : Int32) [(.int p0), (.int p1), (.int p2), (.int p3), (.int p4)] (.int 0)) (he : (4 : Int32) < nn → g4 = p4) :
    MetFree l (⟨"com/example/emu/emu/TableFormFromPrefixPinLaw", "agree", "([I[II)Z"⟩ : MethodName) (head1 (Jvm.Cond.code (⟨"com/example/emu/emu/TableFormFromPrefixPinLaw", "agree", "([I[II)Z"⟩ : MethodName) method_3_code 3 (some .boolean) :: ws) ({ frames := 0, cells := 0, slots := 0, locals := 0 } : Room)) (fun a U => a = #[(.ref ga), (.ref ea), (.int 4)] ∧ Z.Warmed39 U.vm ∧ U.heap = h0) (fun _ _ _ _ _ => True) (fun _ U o U' => ∃ v L, o = .returned v ∧ Q8_4 Z ga ea nn kg ke g0 g1 g2 g3 g4 p0 p1 p2 p3 p4 h0 n0 v U'.heap L ∧ FrameEnd U o U' L ({ frames := 0, cells := 0, slots := 0, locals := 0 } : Room).cells ({ frames := 0, cells := 0, slots := 0, locals := 0 } : Room).slots) := by
  refine MetFree.of_bodySF (plainFor_of_name pn_com_example_emu_emu_TableFormFromPrefixPinLaw) hisR ?_
  intro p e s m args below meth c s₁ Bd hml0 hP hK
  obtain ⟨rfl, hZ, hh⟩ := hP
  have hx := Bd.exec
  have hby := Bd.bytes
  have hml : c.maxLocals = 3 := hml0
  have hown : s.vm.findClass "com/example/emu/emu/TableFormFromPrefixPinLaw" = some m.cls := findClass_of_methodNamed Bd.named
  have hnm := (name_of_methodNamed Bd.named Bd.method).1
  have X0 : Stand p l e ({ frames := 0, cells := 0, slots := 0, locals := 0 } : Room) s m #[(.ref ga), (.ref ea), (.int 4)] below meth c s₁ [] 0 0 := Stand.of_body Bd
  have e0 : s₁.heap = h0 := by rw [← hh, Bd.state]; rfl
  have N_ := Fr.nil n0
  show own_Goes p.tables e below s (Q8_4 Z ga ea nn kg ke g0 g1 g2 g3 g4 p0 p1 p2 p3 p4 h0 n0) ({ frames := 0, cells := 0, slots := 0, locals := 0 } : Room).cells ({ frames := 0, cells := 0, slots := 0, locals := 0 } : Room).slots s₁ (entryFrame m #[(.ref ga), (.ref ea), (.int 4)] 3)
  refine own_by (T' := s₁) (g' := (mkF m 0 #[vR ga, vR ea, vI 4] [])) (fun t k => castTop (ef_8_4 m ga ea) k) ?_
  refine own_by (T' := s₁) (g' := (mkF m 1 #[vR ga, vR ea, vI 4] [(.int 4)])) (fun t k => XS.iloadN X0.here hx rfl (hb hby d8_0) rfl k) ?_
  refine own_by (T' := s₁) (g' := (mkF m 2 #[vR ga, vR ea, vI 4] [(.ref ga), (.int 4)])) (fun t k => XS.aloadN X0.here hx rfl (hb hby d8_1) rfl rfl k) ?_
  obtain ⟨cl1, Ar1, -, S1, N1, -, -⟩ := id V_ga
  have st1 : ∀ t, Steps p.tables e below (s₁.setTop (mkF m 3 #[vR ga, vR ea, vI 4] [(.int nn), (.int 4)])) t → Steps p.tables e below (s₁.setTop (mkF m 2 #[vR ga, vR ea, vI 4] [(.ref ga), (.int 4)])) t := fun t k => X0.arraylength hx (by rw [e0]; exact Ar1.1) (State.isArrayOf_alike hZ.alike Ar1.2.1) (g := (mkF m 2 #[vR ga, vR ea, vI 4] [(.ref ga), (.int 4)])) rfl rfl (hb hby d8_2) _ (by rw [len_of S1 N1]; exact k)
  refine own_by (T' := s₁) (g' := (mkF m 3 #[vR ga, vR ea, vI 4] [(.int nn), (.int 4)])) (fun t k => st1 t k) ?_
  clear st1
  by_cases hc3_2 : (4 : Int32) < nn
  · refine own_by (T' := s₁) (g' := (mkF m 6 #[vR ga, vR ea, vI 4] [])) (fun t k => XS.icmpNo X0.here hx rfl (hb hby d8_3) rfl (tlt hc3_2).2.1 k) ?_
    refine own_by (T' := s₁) (g' := (mkF m 7 #[vR ga, vR ea, vI 4] [(.ref ga)])) (fun t k => XS.aloadN X0.here hx rfl (hb hby d8_6) rfl rfl k) ?_
    refine own_by (T' := s₁) (g' := (mkF m 8 #[vR ga, vR ea, vI 4] [(.int 4), (.ref ga)])) (fun t k => XS.iloadN X0.here hx rfl (hb hby d8_7) rfl k) ?_
    obtain ⟨cl3, Ar3, q3, S3, N3, Hs3, G3⟩ := id V_ga
    have hin3 : ¬ ((4 : Int32) < 0 ∨ cl3.slots.size ≤ ((4 : Int32)).toNatClampNeg) := inb_of S3 ⟨by decide, hc3_2⟩
    have hat3 : cl3.slots[((4 : Int32)).toNatClampNeg]? = some (.int g4) := Hs3.at hin3 rfl
    refine own_by (T' := s₁) (g' := (mkF m 9 #[vR ga, vR ea, vI 4] [(.int g4)])) (fun t k => X0.iaload hx (j := (4 : Int32)) (v := (.int g4)) (by rw [e0]; exact Ar3.1) (State.isArrayOf_alike hZ.alike Ar3.2.1) Ar3.2.2 hin3 hat3 (g := (mkF m 8 #[vR ga, vR ea, vI 4] [(.int 4), (.ref ga)])) rfl rfl (hb hby d8_8) _ k) ?_
    clear hat3 hin3 G3 Hs3 N3 S3 q3 Ar3 cl3
    refine own_by (T' := s₁) (g' := (mkF m 10 #[vR ga, vR ea, vI 4] [(.ref ea), (.int g4)])) (fun t k => XS.aloadN X0.here hx rfl (hb hby d8_9) rfl rfl k) ?_
    refine own_by (T' := s₁) (g' := (mkF m 11 #[vR ga, vR ea, vI 4] [(.int 4), (.ref ea), (.int g4)])) (fun t k => XS.iloadN X0.here hx rfl (hb hby d8_10) rfl k) ?_
    obtain ⟨cl4, Ar4, q4, S4, N4, Hs4, G4⟩ := id V_ea
    have hin4 : ¬ ((4 : Int32) < 0 ∨ cl4.slots.size ≤ ((4 : Int32)).toNatClampNeg) := inb_of S4 ⟨by decide, by decide⟩
    have hat4 : cl4.slots[((4 : Int32)).toNatClampNeg]? = some (.int p4) := Hs4.at hin4 rfl
    refine own_by (T' := s₁) (g' := (mkF m 12 #[vR ga, vR ea, vI 4] [(.int p4), (.int g4)])) (fun t k => X0.iaload hx (j := (4 : Int32)) (v := (.int p4)) (by rw [e0]; exact Ar4.1) (State.isArrayOf_alike hZ.alike Ar4.2.1) Ar4.2.2 hin4 hat4 (g := (mkF m 11 #[vR ga, vR ea, vI 4] [(.int 4), (.ref ea), (.int g4)])) rfl rfl (hb hby d8_11) _ k) ?_
    clear hat4 hin4 G4 Hs4 N4 S4 q4 Ar4 cl4
    refine own_by (T' := s₁) (g' := (mkF m 15 #[vR ga, vR ea, vI 4] [])) (fun t k => XS.icmpNo X0.here hx rfl (hb hby d8_12) rfl (teq (he hc3_2)).2 k) ?_
    refine own_by (T' := s₁) (g' := (mkF m 16 #[vR ga, vR ea, vI 4] [(.int 1)])) (fun t k => XS.iconst X0.here hx rfl (hb hby d8_15) k) ?_
    refine own_by (T' := s₁) (g' := (mkF m 20 #[vR ga, vR ea, vI 4] [(.int 1)])) (fun t k => XS.goto X0.here hx rfl (pc0 := 16) (pc' := 20) rfl (hb hby d8_16) (by decide) (by decide) k) ?_
    exact own_retN X0 hx (t := .boolean) Bd.notSynchronized Bd.returns (by simp) (hb hby d8_20) (by decide) (by decide) (by rw [e0]; exact ⟨rfl, N_, rfl⟩)
  · refine own_by (T' := s₁) (g' := (mkF m 15 #[vR ga, vR ea, vI 4] [])) (fun t k => XS.icmpYes X0.here hx rfl (pc0 := 3) (pc' := 15) rfl (hb hby d8_3) rfl (flt hc3_2).2.1 (by decide) (by decide) k) ?_
    refine own_by (T' := s₁) (g' := (mkF m 16 #[vR ga, vR ea, vI 4] [(.int 1)])) (fun t k => XS.iconst X0.here hx rfl (hb hby d8_15) k) ?_
    refine own_by (T' := s₁) (g' := (mkF m 20 #[vR ga, vR ea, vI 4] [(.int 1)])) (fun t k => XS.goto X0.here hx rfl (pc0 := 16) (pc' := 20) rfl (hb hby d8_16) (by decide) (by decide) k) ?_
    exact own_retN X0 hx (t := .boolean) Bd.notSynchronized Bd.returns (by simp) (hb hby d8_20) (by decide) (by decide) (by rw [e0]; exact ⟨rfl, N_, rfl⟩)

def Q0 (Z : State) (x1 : Int32) (x2 : Int32) (x3 : Int32) (m0 : Addr) (m1 : Addr) (m2 : Addr) (m3 : Addr) (h0 : Heap) (n0 : Nat) (v : Option Value) (h : Heap) (L : List Loc) : Prop := v = some (.int 1) ∧ Fr n0 L
theorem ef_0 (m : MethodId) (x1 : Int32) (x2 : Int32) (x3 : Int32) : entryFrame m #[(.int x1), (.int x2), (.int x3)] maxLocals = mkF m 0 #[vI x1, vI x2, vI x3, .unset, .unset, .unset, .unset, .unset, .unset, .unset, .unset, .unset, .unset, .unset] [] := by first | (simp [entryFrame, mkF, argsToLocals, Value.category, maxLocals]; done) | rfl
theorem pd_0 : parseMethodDescriptor "([II)I" = some ⟨[(.array .int), .int], some .int⟩ := by decide +kernel
theorem pd_2 : parseMethodDescriptor "([I[I[II)I" = some ⟨[(.array .int), (.array .int), (.array .int), .int], some .int⟩ := by decide +kernel
theorem pd_3 : parseMethodDescriptor "(I[I[I[II)I" = some ⟨[.int, (.array .int), (.array .int), (.array .int), .int], some .int⟩ := by decide +kernel
theorem pd_4 : parseMethodDescriptor "([I)[I" = some ⟨[(.array .int)], some (.array .int)⟩ := by decide +kernel
theorem pd_7 : parseMethodDescriptor "([I[II)Z" = some ⟨[(.array .int), (.array .int), .int], some .boolean⟩ := by decide +kernel
set_option maxRecDepth 65536 in
set_option maxHeartbeats 40000000 in
theorem own_c372_0 (l : Launch) (Z : State) (a0 : Array Value) (hw : ∀ d ∈ tables_1, d.before a0 Z = true) {p : Program} {e : Env} {s : State} {m : MethodId} {below : List Frame} {meth : Method} {c : Code} (hx : p.tables.exec = Jvm.exec) (hby : c.code = code) (hml : c.maxLocals = 14) (hlk : meth.locks = false) (hret : meth.sig.returnType = ret) (x1 : Int32) (x2 : Int32) (x3 : Int32) (m0 : Addr) (m1 : Addr) (m2 : Addr) (m3 : Addr) (h0 : Heap) (n0 : Nat) (b1 : Addr) (k1 : ClassId) (c0 : Int32) (c1 : Int32) (c2 : Int32) (c3 : Int32) (c4 : Int32) (b7 : Addr) (k7 : ClassId) (t1 : Int32) (t2 : Int32) (t3 : Int32) (t4 : Int32) (b18 : Addr) (k18 : ClassId) (b28 : Addr) (k28 : ClassId) (u1 : Int32) (u2 : Int32) (u3 : Int32) (u4 : Int32) (b38 : Addr) (k38 : ClassId) (w0 : Int32) (w1 : Int32) (w2 : Int32) (w3 : Int32) (w4 : Int32) (nn : Int32) (b49 : Addr) (k49 : ClassId) {Tj : State} {hj : Heap} {locsj : List Loc}
    (hZ : Z.Warmed39 s.vm) (hown : s.vm.findClass "com/example/emu/emu/TableFormFromPrefixPinLaw" = some m.cls) (Xj : Stand p l e room_1 s m #[(.int x1), (.int x2), (.int x3)] below meth c Tj locsj 6 30) (ej : Tj.heap = hj)
    (E_m2 : Exa Z hj m2 "com/example/emu/emu/TableForm") (S_NEXT_ONE_BASED : Sta Z hj "com/example/emu/emu/TableForm" "NEXT_ONE_BASED" "Lcom/example/emu/emu/TableForm;" (.ref m2)) (E_m3 : Exa Z hj m3 "com/example/emu/emu/TableForm") (S_NEXTVAL : Sta Z hj "com/example/emu/emu/TableForm" "NEXTVAL" "Lcom/example/emu/emu/TableForm;" (.ref m3)) (E_m1 : Exa Z hj m1 "com/example/emu/emu/TableForm") (S_NEXT : Sta Z hj "com/example/emu/emu/TableForm" "NEXT" "Lcom/example/emu/emu/TableForm;" (.ref m1)) (E_m0 : Exa Z hj m0 "com/example/emu/emu/TableForm") (S_PREFIX : Sta Z hj "com/example/emu/emu/TableForm" "PREFIX" "Lcom/example/emu/emu/TableForm;" (.ref m0)) (F_ordinal_m2 : Fld Z hj m2 "java/lang/Enum" "ordinal" "I" (.int 2)) (F_ordinal_m3 : Fld Z hj m3 "java/lang/Enum" "ordinal" "I" (.int 3)) (F_ordinal_m1 : Fld Z hj m1 "java/lang/Enum" "ordinal" "I" (.int 1)) (F_ordinal_m0 : Fld Z hj m0 "java/lang/Enum" "ordinal" "I" (.int 0)) (Zle : n0 ≤ hj.size) (N_ : Fr n0 locsj) (ne_m2_b1 : m2 ≠ b1) (ne_m3_b1 : m3 ≠ b1) (ne_m1_b1 : m1 ≠ b1) (ne_m0_b1 : m0 ≠ b1) (g_b1 : n0 ≤ b1) (ne_m2_b7 : m2 ≠ b7) (ne_m3_b7 : m3 ≠ b7) (ne_m1_b7 : m1 ≠ b7) (ne_m0_b7 : m0 ≠ b7) (ne_b1_b7 : b1 ≠ b7) (g_b7 : n0 ≤ b7) (ne_m2_b18 : m2 ≠ b18) (ne_m3_b18 : m3 ≠ b18) (ne_m1_b18 : m1 ≠ b18) (ne_m0_b18 : m0 ≠ b18) (ne_b1_b18 : b1 ≠ b18) (ne_b7_b18 : b7 ≠ b18) (g_b18 : n0 ≤ b18) (ne_m2_b28 : m2 ≠ b28) (ne_m3_b28 : m3 ≠ b28) (ne_m1_b28 : m1 ≠ b28) (ne_m0_b28 : m0 ≠ b28) (ne_b1_b28 : b1 ≠ b28) (ne_b7_b28 : b7 ≠ b28) (ne_b18_b28 : b18 ≠ b28) (g_b28 : n0 ≤ b28) (ne_m2_b38 : m2 ≠ b38) (ne_m3_b38 : m3 ≠ b38) (ne_m1_b38 : m1 ≠ b38) (ne_m0_b38 : m0 ≠ b38) (ne_b1_b38 : b1 ≠ b38) (ne_b7_b38 : b7 ≠ b38) (ne_b18_b38 : b18 ≠ b38) (ne_b28_b38 : b28 ≠ b38) (g_b38 : n0 ≤ b38) (ne_m2_b49 : m2 ≠ b49) (ne_m3_b49 : m3 ≠ b49) (ne_m1_b49 : m1 ≠ b49) (ne_m0_b49 : m0 ≠ b49) (ne_b1_b49 : b1 ≠ b49) (ne_b7_b49 : b7 ≠ b49) (ne_b18_b49 : b18 ≠ b49) (ne_b28_b49 : b28 ≠ b49) (ne_b38_b49 : b38 ≠ b49) (g_b49 : n0 ≤ b49) (V_b49 : Arv Z hj b49 k49 .int nn [(.int 0), (.int t1), (.int t2), (.int t3), (.int t4)] (.int 0)) (V_b7 : Arv Z hj b7 k7 .int (5 : Int32) [(.int 0), (.int t1), (.int t2), (.int t3), (.int t4)] (.int 0)) (V_b38 : Arv Z hj b38 k38 .int (5 : Int32) [(.int w0), (.int w1), (.int w2), (.int w3), (.int w4)] (.int 0)) (e_c0 : c0 = (x1 &&& (3 : Int32))) (e_c1 : c1 = (((x1.toUInt32 >>> ((2 : Int32) &&& 31).toUInt32).toInt32) &&& (3 : Int32))) (e_c2 : c2 = (((x1.toUInt32 >>> ((4 : Int32) &&& 31).toUInt32).toInt32) &&& (3 : Int32))) (e_c3 : c3 = (((x1.toUInt32 >>> ((6 : Int32) &&& 31).toUInt32).toInt32) &&& (3 : Int32))) (e_c4 : c4 = (((x1.toUInt32 >>> ((8 : Int32) &&& 31).toUInt32).toInt32) &&& (3 : Int32))) (e_t1 : t1 = (own_bd1 c0 c1 c2 c3 c4)) (HB1 : own_B1 c0 c1 t1) (hr1 : t1 = 0 ∨ t1 = 1) (e_t2 : t2 = (own_bd2 c0 c1 c2 c3 c4)) (HB2 : own_B2 c0 c1 c2 t2) (hr2 : t2 = 0 ∨ t2 = 1 ∨ t2 = 2) (e_t3 : t3 = (own_bd3 c0 c1 c2 c3 c4)) (HB3 : own_B3 c0 c1 c2 c3 t3) (hr3 : t3 = 0 ∨ t3 = 1 ∨ t3 = 2 ∨ t3 = 3) (e_t4 : t4 = (own_bd4 c0 c1 c2 c3 c4)) (HB4 : own_B4 c0 c1 c2 c3 c4 t4) (hr4 : t4 = 0 ∨ t4 = 1 ∨ t4 = 2 ∨ t4 = 3 ∨ t4 = 4) (e_u1 : u1 = (own_nvs c1 (0 : Int32) c0 c1 c2 c3 c4 (-1 : Int32) (0 : Int32) (0 : Int32) (0 : Int32) (0 : Int32))) (e_u2 : u2 = (own_nvs c2 t1 c0 c1 c2 c3 c4 (-1 : Int32) u1 (0 : Int32) (0 : Int32) (0 : Int32))) (e_u3 : u3 = (own_nvs c3 t2 c0 c1 c2 c3 c4 (-1 : Int32) u1 u2 (0 : Int32) (0 : Int32))) (e_u4 : u4 = (own_nvs c4 t3 c0 c1 c2 c3 c4 (-1 : Int32) u1 u2 u3 (0 : Int32))) (e_w0 : w0 = (own_pick (0 : Int32) (0 : Int32) (-1 : Int32) (-1 : Int32))) (e_w1 : w1 = (own_pick (0 : Int32) t1 (0 : Int32) u1)) (e_w2 : w2 = (own_pick (0 : Int32) t2 t1 u2)) (e_w3 : w3 = (own_pick (0 : Int32) t3 t2 u3)) (e_w4 : w4 = (own_pick (0 : Int32) t4 t3 u4)) (e_nn : nn = ((x2 &&& (7 : Int32)) % (6 : Int32))) (hn0 : ¬ nn < 0) (hn5 : nn.toNatClampNeg ≤ 5) (hn6 : nn < 6) : own_Goes p.tables e below s (Q0 Z x1 x2 x3 m0 m1 m2 m3 h0 n0) room_1.cells room_1.slots Tj (mkF m 372 #[vI x1, vI x2, vI x3, vR b1, vR b7, vR b18, vR b28, vI 0, vR b38, vI nn, vR b49, .unset, .unset, .unset] []) := by
  refine own_by (T' := Tj) (g' := (mkF m 374 #[vI x1, vI x2, vI x3, vR b1, vR b7, vR b18, vR b28, vI 0, vR b38, vI nn, vR b49, .unset, .unset, .unset] [(.int 0)])) (fun t k => XS.iload Xj.here hx rfl (hb hby at_372) rfl k) ?_
  refine own_by (T' := Tj) (g' := (mkF m 377 #[vI x1, vI x2, vI x3, vR b1, vR b7, vR b18, vR b28, vI 0, vR b38, vI nn, vR b49, .unset, .unset, .unset] [])) (fun t k => XS.ifNo Xj.here hx rfl (hb hby at_374) rfl ((if0 _ _).trans (teq (by decide)).2) k) ?_
  obtain ⟨T50, X50, e50, st50⟩ := getS2 Xj hx hZ hown (host := "") (Or.inl (hw _ (own_m 42 rfl))) Via.refl ej S_PREFIX (g := (mkF m 377 #[vI x1, vI x2, vI x3, vR b1, vR b7, vR b18, vR b28, vI 0, vR b38, vI nn, vR b49, .unset, .unset, .unset] [])) rfl (hb hby at_377)
  refine own_by (T' := T50) (g' := (mkF m 380 #[vI x1, vI x2, vI x3, vR b1, vR b7, vR b18, vR b28, vI 0, vR b38, vI nn, vR b49, .unset, .unset, .unset] [(.ref m0)])) (fun t k => st50 t k) ?_
  clear st50
  refine own_by (T' := T50) (g' := (mkF m 410 #[vI x1, vI x2, vI x3, vR b1, vR b7, vR b18, vR b28, vI 0, vR b38, vI nn, vR b49, .unset, .unset, .unset] [(.ref m0)])) (fun t k => XS.goto X50.here hx rfl (pc0 := 380) (pc' := 410) rfl (hb hby at_380) (by decide) (by decide) k) ?_
  refine own_by (T' := T50) (g' := (mkF m 412 #[vI x1, vI x2, vI x3, vR b1, vR b7, vR b18, vR b28, vI 0, vR b38, vI nn, vR b49, vR m0, .unset, .unset] [])) (fun t k => XS.astore X50.here hx rfl (hb hby at_410) rfl rfl (l' := #[vI x1, vI x2, vI x3, vR b1, vR b7, vR b18, vR b28, vI 0, vR b38, vI nn, vR b49, vR m0, .unset, .unset]) rfl k) ?_
  refine own_by (T' := T50) (g' := (mkF m 414 #[vI x1, vI x2, vI x3, vR b1, vR b7, vR b18, vR b28, vI 0, vR b38, vI nn, vR b49, vR m0, .unset, .unset] [(.ref m0)])) (fun t k => XS.aload X50.here hx rfl (hb hby at_412) rfl rfl k) ?_
  refine own_by (T' := T50) (g' := (mkF m 416 #[vI x1, vI x2, vI x3, vR b1, vR b7, vR b18, vR b28, vI 0, vR b38, vI nn, vR b49, vR m0, .unset, .unset] [(.ref b49), (.ref m0)])) (fun t k => XS.aload X50.here hx rfl (hb hby at_414) rfl rfl k) ?_
  have lt_m2_51 := E_m2.lt
  have lt_m3_51 := E_m3.lt
  have lt_m1_51 := E_m1.lt
  have lt_m0_51 := E_m0.lt
  have lt_b49_51 := V_b49.lt
  have lt_b7_51 := V_b7.lt
  have lt_b38_51 := V_b38.lt
  have Zpre51 := Zle
  obtain ⟨cq51, kq51, q51a, q51b, q51c⟩ := isOf hZ e50 E_m0
  obtain ⟨_, _, ⟨T51, L51, k51, n51⟩, -, X51, ⟨Lc51, hQ51, l51, y51, z51⟩, st51⟩ := X50.virtualBack hx (y := (⟨"com/example/emu/emu/TableForm", "fromPrefix", "([I)[I"⟩ : MethodName)) (z := (⟨"com/example/emu/emu/TableForm", "fromPrefix", "([I)[I"⟩ : MethodName)) hown (mvT hZ (hw _ (own_m 17 rfl))) (mvT hZ (hw _ (own_m 18 rfl))) (notFace_of_selects (args := #[]) (mvT hZ (hw _ (own_m 20 rfl)))) (mvT hZ (hw _ (own_m 20 rfl))) (mvT hZ (hw _ (own_m 19 rfl))) (by decide) (backOf (W := 0) (rm5 l Z a0 hw [] m0 b49 nn (0 : Int32) k49 (0 : Int32) t1 t2 t3 t4 hj n0 Zle E_m0 F_ordinal_m0 V_b49 (hn0) (hn5) (hn6) (by decide) (rfl) (hr1) (hr2) (hr3)) hZ (hw _ (own_m 21 rfl)) (hw _ (own_m 15 rfl)) (by decide) (by decide)) q51a q51c (g := (mkF m 416 #[vI x1, vI x2, vI x3, vR b1, vR b7, vR b18, vR b28, vI 0, vR b38, vI nn, vR b49, vR m0, .unset, .unset] [(.ref b49), (.ref m0)])) rfl (by rw [hml]; rfl) (Steps.refl _) (argsL := [(.ref b49)]) (rest := []) (lenOf pd_4 rfl) rfl (own_le rfl) (hb hby at_416) (fun _ _ => ⟨rfl, e50, (by decide : 6 + 1 ≤ _), (by decide : 30 + 5 ≤ _)⟩)
  dsimp only [Pt.U, Pt.locs, Pt.cells, Pt.slots] at X51 l51 y51 z51 st51 hQ51
  subst l51 y51 z51
  obtain ⟨tb_51, g0_51, g1_51, g2_51, g3_51, g4_51, kb_51, rfl, Nq51, c51_0, c51_1, c51_2, c51_3, c51_4, c51_5, c51_6, c51_7⟩ := hQ51
  replace N_ := Fr.app N_ Nq51
  clear Nq51
  replace S_NEXT_ONE_BASED := own_staKeep S_NEXT_ONE_BASED c51_0 all0
  replace S_NEXTVAL := own_staKeep S_NEXTVAL c51_0 all0
  replace S_NEXT := own_staKeep S_NEXT c51_0 all0
  replace S_PREFIX := own_staKeep S_PREFIX c51_0 all0
  replace E_m2 := E_m2.keep c51_0
  replace E_m3 := E_m3.keep c51_0
  replace E_m1 := E_m1.keep c51_0
  replace E_m0 := E_m0.keep c51_0
  replace F_ordinal_m2 := F_ordinal_m2.keep c51_0 nin0
  replace F_ordinal_m3 := F_ordinal_m3.keep c51_0 nin0
  replace F_ordinal_m1 := F_ordinal_m1.keep c51_0 nin0
  replace F_ordinal_m0 := F_ordinal_m0.keep c51_0 nin0
  replace Zle := Nat.le_trans Zle c51_0.1
  replace V_b49 := V_b49.keep c51_0 nin0
  replace V_b7 := V_b7.keep c51_0 nin0
  replace V_b38 := V_b38.keep c51_0 nin0
  have ne_m2_tb_51 : m2 ≠ tb_51 := Nat.ne_of_lt (Nat.lt_of_lt_of_le lt_m2_51 c51_1)
  have ne_m3_tb_51 : m3 ≠ tb_51 := Nat.ne_of_lt (Nat.lt_of_lt_of_le lt_m3_51 c51_1)
  have ne_m1_tb_51 : m1 ≠ tb_51 := Nat.ne_of_lt (Nat.lt_of_lt_of_le lt_m1_51 c51_1)
  have ne_m0_tb_51 : m0 ≠ tb_51 := Nat.ne_of_lt (Nat.lt_of_lt_of_le lt_m0_51 c51_1)
  have ne_b49_tb_51 : b49 ≠ tb_51 := Nat.ne_of_lt (Nat.lt_of_lt_of_le lt_b49_51 c51_1)
  have ne_b7_tb_51 : b7 ≠ tb_51 := Nat.ne_of_lt (Nat.lt_of_lt_of_le lt_b7_51 c51_1)
  have ne_b38_tb_51 : b38 ≠ tb_51 := Nat.ne_of_lt (Nat.lt_of_lt_of_le lt_b38_51 c51_1)
  have g_tb_51 : n0 ≤ tb_51 := Nat.le_trans Zpre51 c51_1
  have HG0 := c51_3
  have HG1 := c51_4
  have HG2 := c51_5
  have HG3 := c51_6
  have HG4 := c51_7
  clear lt_m2_51 lt_m3_51 lt_m1_51 lt_m0_51 lt_b49_51 lt_b7_51 lt_b38_51
  refine own_by (T' := T51) (g' := (mkF m 419 #[vI x1, vI x2, vI x3, vR b1, vR b7, vR b18, vR b28, vI 0, vR b38, vI nn, vR b49, vR m0, .unset, .unset] [(.ref tb_51)])) (fun t k => st51.trans k) ?_
  clear st51 X50 e50
  refine own_by (T' := T51) (g' := (mkF m 421 #[vI x1, vI x2, vI x3, vR b1, vR b7, vR b18, vR b28, vI 0, vR b38, vI nn, vR b49, vR m0, vR tb_51, .unset] [])) (fun t k => XS.astore X51.here hx rfl (hb hby at_419) rfl rfl (l' := #[vI x1, vI x2, vI x3, vR b1, vR b7, vR b18, vR b28, vI 0, vR b38, vI nn, vR b49, vR m0, vR tb_51, .unset]) rfl k) ?_
  refine own_by (T' := T51) (g' := (mkF m 423 #[vI x1, vI x2, vI x3, vR b1, vR b7, vR b18, vR b28, vI 0, vR b38, vI nn, vR b49, vR m0, vR tb_51, .unset] [(.ref tb_51)])) (fun t k => XS.aload X51.here hx rfl (hb hby at_421) rfl rfl k) ?_
  obtain ⟨cl52, Ar52, -, S52, N52, -, -⟩ := id c51_2
  have st52 : ∀ t, Steps p.tables e below (T51.setTop (mkF m 424 #[vI x1, vI x2, vI x3, vR b1, vR b7, vR b18, vR b28, vI 0, vR b38, vI nn, vR b49, vR m0, vR tb_51, .unset] [(.int nn)])) t → Steps p.tables e below (T51.setTop (mkF m 423 #[vI x1, vI x2, vI x3, vR b1, vR b7, vR b18, vR b28, vI 0, vR b38, vI nn, vR b49, vR m0, vR tb_51, .unset] [(.ref tb_51)])) t := fun t k => X51.arraylength hx (by exact Ar52.1) (State.isArrayOf_alike hZ.alike Ar52.2.1) (g := (mkF m 423 #[vI x1, vI x2, vI x3, vR b1, vR b7, vR b18, vR b28, vI 0, vR b38, vI nn, vR b49, vR m0, vR tb_51, .unset] [(.ref tb_51)])) rfl rfl (hb hby at_423) _ (by rw [len_of S52 N52]; exact k)
  refine own_by (T' := T51) (g' := (mkF m 424 #[vI x1, vI x2, vI x3, vR b1, vR b7, vR b18, vR b28, vI 0, vR b38, vI nn, vR b49, vR m0, vR tb_51, .unset] [(.int nn)])) (fun t k => st52 t k) ?_
  clear st52
  refine own_by (T' := T51) (g' := (mkF m 426 #[vI x1, vI x2, vI x3, vR b1, vR b7, vR b18, vR b28, vI 0, vR b38, vI nn, vR b49, vR m0, vR tb_51, .unset] [(.int nn), (.int nn)])) (fun t k => XS.iload X51.here hx rfl (hb hby at_424) rfl k) ?_
  refine own_by (T' := T51) (g' := (mkF m 429 #[vI x1, vI x2, vI x3, vR b1, vR b7, vR b18, vR b28, vI 0, vR b38, vI nn, vR b49, vR m0, vR tb_51, .unset] [])) (fun t k => XS.icmpNo X51.here hx rfl (hb hby at_426) rfl (teq (rfl : nn = nn)).2 k) ?_
  refine own_by (T' := T51) (g' := (mkF m 430 #[vI x1, vI x2, vI x3, vR b1, vR b7, vR b18, vR b28, vI 0, vR b38, vI nn, vR b49, vR m0, vR tb_51, .unset] [(.int 1)])) (fun t k => XS.iconst X51.here hx rfl (hb hby at_429) k) ?_
  refine own_by (T' := T51) (g' := (mkF m 434 #[vI x1, vI x2, vI x3, vR b1, vR b7, vR b18, vR b28, vI 0, vR b38, vI nn, vR b49, vR m0, vR tb_51, .unset] [(.int 1)])) (fun t k => XS.goto X51.here hx rfl (pc0 := 430) (pc' := 434) rfl (hb hby at_430) (by decide) (by decide) k) ?_
  refine own_by (T' := T51) (g' := (mkF m 436 #[vI x1, vI x2, vI x3, vR b1, vR b7, vR b18, vR b28, vI 0, vR b38, vI nn, vR b49, vR m0, vR tb_51, vI 1] [])) (fun t k => XS.istore X51.here hx rfl (hb hby at_434) rfl (l' := #[vI x1, vI x2, vI x3, vR b1, vR b7, vR b18, vR b28, vI 0, vR b38, vI nn, vR b49, vR m0, vR tb_51, vI 1]) rfl k) ?_
  have GU0 : (0 : Int32) < nn → g0_51 = w0 := fun q => by rw [HG0 q, e_w0]; rfl
  have GU1 : (1 : Int32) < nn → g1_51 = w1 := fun q => by rw [HG1 q, e_w1]; rfl
  have GU2 : (2 : Int32) < nn → g2_51 = w2 := fun q => by rw [HG2 q, e_w2]; rfl
  have GU3 : (3 : Int32) < nn → g3_51 = w3 := fun q => by rw [HG3 q, e_w3]; rfl
  have GU4 : (4 : Int32) < nn → g4_51 = w4 := fun q => by rw [HG4 q, e_w4]; rfl
  refine own_by (T' := T51) (g' := (mkF m 438 #[vI x1, vI x2, vI x3, vR b1, vR b7, vR b18, vR b28, vI 0, vR b38, vI nn, vR b49, vR m0, vR tb_51, vI 1] [(.int 1)])) (fun t k => XS.iload X51.here hx rfl (hb hby at_436) rfl k) ?_
  refine own_by (T' := T51) (g' := (mkF m 441 #[vI x1, vI x2, vI x3, vR b1, vR b7, vR b18, vR b28, vI 0, vR b38, vI nn, vR b49, vR m0, vR tb_51, vI 1] [])) (fun t k => XS.ifNo X51.here hx rfl (hb hby at_438) rfl ((if0 _ _).trans (feq (by decide)).1) k) ?_
  refine own_by (T' := T51) (g' := (mkF m 443 #[vI x1, vI x2, vI x3, vR b1, vR b7, vR b18, vR b28, vI 0, vR b38, vI nn, vR b49, vR m0, vR tb_51, vI 1] [(.ref tb_51)])) (fun t k => XS.aload X51.here hx rfl (hb hby at_441) rfl rfl k) ?_
  refine own_by (T' := T51) (g' := (mkF m 445 #[vI x1, vI x2, vI x3, vR b1, vR b7, vR b18, vR b28, vI 0, vR b38, vI nn, vR b49, vR m0, vR tb_51, vI 1] [(.ref b38), (.ref tb_51)])) (fun t k => XS.aload X51.here hx rfl (hb hby at_443) rfl rfl k) ?_
  refine own_by (T' := T51) (g' := (mkF m 446 #[vI x1, vI x2, vI x3, vR b1, vR b7, vR b18, vR b28, vI 0, vR b38, vI nn, vR b49, vR m0, vR tb_51, vI 1] [(.int 0), (.ref b38), (.ref tb_51)])) (fun t k => XS.iconst X51.here hx rfl (hb hby at_445) k) ?_
  obtain ⟨_, _, ⟨T53, L53, k53, n53⟩, -, X53, ⟨Lc53, hQ53, l53, y53, z53⟩, st53⟩ := Jvm.LawKit.callS X51 hx (y := (⟨"com/example/emu/emu/TableFormFromPrefixPinLaw", "agree", "([I[II)Z"⟩ : MethodName)) hown (mvT hZ (hw _ (own_m 35 rfl))) (mvT hZ (hw _ (own_m 36 rfl))) (mvT hZ (hw _ (own_m 3 rfl))) (mvT hZ (hw _ (own_m 37 rfl))) (by decide) (backOf (W := 0) (rm8_0 l Z a0 hw [] tb_51 b38 nn kb_51 k38 g0_51 g1_51 g2_51 g3_51 g4_51 w0 w1 w2 w3 w4 T51.heap n0 Zle c51_2 V_b38 (GU0)) hZ (hw _ (own_m 37 rfl)) (hw _ (own_m 3 rfl)) (by decide) (by decide)) (g := (mkF m 446 #[vI x1, vI x2, vI x3, vR b1, vR b7, vR b18, vR b28, vI 0, vR b38, vI nn, vR b49, vR m0, vR tb_51, vI 1] [(.int 0), (.ref b38), (.ref tb_51)])) rfl (by rw [hml]; rfl) (argsL := [(.ref tb_51), (.ref b38), (.int 0)]) (rest := []) (lenOf pd_7 rfl) rfl (own_le rfl) (hb hby at_446) (fun _ _ => ⟨rfl, rfl, (by decide : 7 + 0 ≤ _), (by decide : 35 + 0 ≤ _)⟩)
  dsimp only [Pt.U, Pt.locs, Pt.cells, Pt.slots] at X53 l53 y53 z53 st53 hQ53
  subst l53 y53 z53
  obtain ⟨rfl, Nq53, e53⟩ := hQ53
  replace N_ := Fr.app N_ Nq53
  clear Nq53
  refine own_by (T' := T53) (g' := (mkF m 449 #[vI x1, vI x2, vI x3, vR b1, vR b7, vR b18, vR b28, vI 0, vR b38, vI nn, vR b49, vR m0, vR tb_51, vI 1] [(.int 1)])) (fun t k => st53 _ k) ?_
  clear st53 X51
  refine own_by (T' := T53) (g' := (mkF m 452 #[vI x1, vI x2, vI x3, vR b1, vR b7, vR b18, vR b28, vI 0, vR b38, vI nn, vR b49, vR m0, vR tb_51, vI 1] [])) (fun t k => XS.ifNo X53.here hx rfl (hb hby at_449) rfl ((if0 _ _).trans (feq (by decide)).1) k) ?_
  refine own_by (T' := T53) (g' := (mkF m 454 #[vI x1, vI x2, vI x3, vR b1, vR b7, vR b18, vR b28, vI 0, vR b38, vI nn, vR b49, vR m0, vR tb_51, vI 1] [(.ref tb_51)])) (fun t k => XS.aload X53.here hx rfl (hb hby at_452) rfl rfl k) ?_
  refine own_by (T' := T53) (g' := (mkF m 456 #[vI x1, vI x2, vI x3, vR b1, vR b7, vR b18, vR b28, vI 0, vR b38, vI nn, vR b49, vR m0, vR tb_51, vI 1] [(.ref b38), (.ref tb_51)])) (fun t k => XS.aload X53.here hx rfl (hb hby at_454) rfl rfl k) ?_
  refine own_by (T' := T53) (g' := (mkF m 457 #[vI x1, vI x2, vI x3, vR b1, vR b7, vR b18, vR b28, vI 0, vR b38, vI nn, vR b49, vR m0, vR tb_51, vI 1] [(.int 1), (.ref b38), (.ref tb_51)])) (fun t k => XS.iconst X53.here hx rfl (hb hby at_456) k) ?_
  obtain ⟨_, _, ⟨T54, L54, k54, n54⟩, -, X54, ⟨Lc54, hQ54, l54, y54, z54⟩, st54⟩ := Jvm.LawKit.callS X53 hx (y := (⟨"com/example/emu/emu/TableFormFromPrefixPinLaw", "agree", "([I[II)Z"⟩ : MethodName)) hown (mvT hZ (hw _ (own_m 35 rfl))) (mvT hZ (hw _ (own_m 36 rfl))) (mvT hZ (hw _ (own_m 3 rfl))) (mvT hZ (hw _ (own_m 37 rfl))) (by decide) (backOf (W := 0) (rm8_1 l Z a0 hw [] tb_51 b38 nn kb_51 k38 g0_51 g1_51 g2_51 g3_51 g4_51 w0 w1 w2 w3 w4 T51.heap n0 Zle c51_2 V_b38 (GU1)) hZ (hw _ (own_m 37 rfl)) (hw _ (own_m 3 rfl)) (by decide) (by decide)) (g := (mkF m 457 #[vI x1, vI x2, vI x3, vR b1, vR b7, vR b18, vR b28, vI 0, vR b38, vI nn, vR b49, vR m0, vR tb_51, vI 1] [(.int 1), (.ref b38), (.ref tb_51)])) rfl (by rw [hml]; rfl) (argsL := [(.ref tb_51), (.ref b38), (.int 1)]) (rest := []) (lenOf pd_7 rfl) rfl (own_le rfl) (hb hby at_457) (fun _ _ => ⟨rfl, e53, (by decide : 7 + 0 ≤ _), (by decide : 35 + 0 ≤ _)⟩)
  dsimp only [Pt.U, Pt.locs, Pt.cells, Pt.slots] at X54 l54 y54 z54 st54 hQ54
  subst l54 y54 z54
  obtain ⟨rfl, Nq54, e54⟩ := hQ54
  replace N_ := Fr.app N_ Nq54
  clear Nq54
  refine own_by (T' := T54) (g' := (mkF m 460 #[vI x1, vI x2, vI x3, vR b1, vR b7, vR b18, vR b28, vI 0, vR b38, vI nn, vR b49, vR m0, vR tb_51, vI 1] [(.int 1)])) (fun t k => st54 _ k) ?_
  clear st54 X53 e53
  refine own_by (T' := T54) (g' := (mkF m 463 #[vI x1, vI x2, vI x3, vR b1, vR b7, vR b18, vR b28, vI 0, vR b38, vI nn, vR b49, vR m0, vR tb_51, vI 1] [])) (fun t k => XS.ifNo X54.here hx rfl (hb hby at_460) rfl ((if0 _ _).trans (feq (by decide)).1) k) ?_
  refine own_by (T' := T54) (g' := (mkF m 465 #[vI x1, vI x2, vI x3, vR b1, vR b7, vR b18, vR b28, vI 0, vR b38, vI nn, vR b49, vR m0, vR tb_51, vI 1] [(.ref tb_51)])) (fun t k => XS.aload X54.here hx rfl (hb hby at_463) rfl rfl k) ?_
  refine own_by (T' := T54) (g' := (mkF m 467 #[vI x1, vI x2, vI x3, vR b1, vR b7, vR b18, vR b28, vI 0, vR b38, vI nn, vR b49, vR m0, vR tb_51, vI 1] [(.ref b38), (.ref tb_51)])) (fun t k => XS.aload X54.here hx rfl (hb hby at_465) rfl rfl k) ?_
  refine own_by (T' := T54) (g' := (mkF m 468 #[vI x1, vI x2, vI x3, vR b1, vR b7, vR b18, vR b28, vI 0, vR b38, vI nn, vR b49, vR m0, vR tb_51, vI 1] [(.int 2), (.ref b38), (.ref tb_51)])) (fun t k => XS.iconst X54.here hx rfl (hb hby at_467) k) ?_
  obtain ⟨_, _, ⟨T55, L55, k55, n55⟩, -, X55, ⟨Lc55, hQ55, l55, y55, z55⟩, st55⟩ := Jvm.LawKit.callS X54 hx (y := (⟨"com/example/emu/emu/TableFormFromPrefixPinLaw", "agree", "([I[II)Z"⟩ : MethodName)) hown (mvT hZ (hw _ (own_m 35 rfl))) (mvT hZ (hw _ (own_m 36 rfl))) (mvT hZ (hw _ (own_m 3 rfl))) (mvT hZ (hw _ (own_m 37 rfl))) (by decide) (backOf (W := 0) (rm8_2 l Z a0 hw [] tb_51 b38 nn kb_51 k38 g0_51 g1_51 g2_51 g3_51 g4_51 w0 w1 w2 w3 w4 T51.heap n0 Zle c51_2 V_b38 (GU2)) hZ (hw _ (own_m 37 rfl)) (hw _ (own_m 3 rfl)) (by decide) (by decide)) (g := (mkF m 468 #[vI x1, vI x2, vI x3, vR b1, vR b7, vR b18, vR b28, vI 0, vR b38, vI nn, vR b49, vR m0, vR tb_51, vI 1] [(.int 2), (.ref b38), (.ref tb_51)])) rfl (by rw [hml]; rfl) (argsL := [(.ref tb_51), (.ref b38), (.int 2)]) (rest := []) (lenOf pd_7 rfl) rfl (own_le rfl) (hb hby at_468) (fun _ _ => ⟨rfl, e54, (by decide : 7 + 0 ≤ _), (by decide : 35 + 0 ≤ _)⟩)
  dsimp only [Pt.U, Pt.locs, Pt.cells, Pt.slots] at X55 l55 y55 z55 st55 hQ55
  subst l55 y55 z55
  obtain ⟨rfl, Nq55, e55⟩ := hQ55
  replace N_ := Fr.app N_ Nq55
  clear Nq55
  refine own_by (T' := T55) (g' := (mkF m 471 #[vI x1, vI x2, vI x3, vR b1, vR b7, vR b18, vR b28, vI 0, vR b38, vI nn, vR b49, vR m0, vR tb_51, vI 1] [(.int 1)])) (fun t k => st55 _ k) ?_
  clear st55 X54 e54
  refine own_by (T' := T55) (g' := (mkF m 474 #[vI x1, vI x2, vI x3, vR b1, vR b7, vR b18, vR b28, vI 0, vR b38, vI nn, vR b49, vR m0, vR tb_51, vI 1] [])) (fun t k => XS.ifNo X55.here hx rfl (hb hby at_471) rfl ((if0 _ _).trans (feq (by decide)).1) k) ?_
  refine own_by (T' := T55) (g' := (mkF m 476 #[vI x1, vI x2, vI x3, vR b1, vR b7, vR b18, vR b28, vI 0, vR b38, vI nn, vR b49, vR m0, vR tb_51, vI 1] [(.ref tb_51)])) (fun t k => XS.aload X55.here hx rfl (hb hby at_474) rfl rfl k) ?_
  refine own_by (T' := T55) (g' := (mkF m 478 #[vI x1, vI x2, vI x3, vR b1, vR b7, vR b18, vR b28, vI 0, vR b38, vI nn, vR b49, vR m0, vR tb_51, vI 1] [(.ref b38), (.ref tb_51)])) (fun t k => XS.aload X55.here hx rfl (hb hby at_476) rfl rfl k) ?_
  refine own_by (T' := T55) (g' := (mkF m 479 #[vI x1, vI x2, vI x3, vR b1, vR b7, vR b18, vR b28, vI 0, vR b38, vI nn, vR b49, vR m0, vR tb_51, vI 1] [(.int 3), (.ref b38), (.ref tb_51)])) (fun t k => XS.iconst X55.here hx rfl (hb hby at_478) k) ?_
  obtain ⟨_, _, ⟨T56, L56, k56, n56⟩, -, X56, ⟨Lc56, hQ56, l56, y56, z56⟩, st56⟩ := Jvm.LawKit.callS X55 hx (y := (⟨"com/example/emu/emu/TableFormFromPrefixPinLaw", "agree", "([I[II)Z"⟩ : MethodName)) hown (mvT hZ (hw _ (own_m 35 rfl))) (mvT hZ (hw _ (own_m 36 rfl))) (mvT hZ (hw _ (own_m 3 rfl))) (mvT hZ (hw _ (own_m 37 rfl))) (by decide) (backOf (W := 0) (rm8_3 l Z a0 hw [] tb_51 b38 nn kb_51 k38 g0_51 g1_51 g2_51 g3_51 g4_51 w0 w1 w2 w3 w4 T51.heap n0 Zle c51_2 V_b38 (GU3)) hZ (hw _ (own_m 37 rfl)) (hw _ (own_m 3 rfl)) (by decide) (by decide)) (g := (mkF m 479 #[vI x1, vI x2, vI x3, vR b1, vR b7, vR b18, vR b28, vI 0, vR b38, vI nn, vR b49, vR m0, vR tb_51, vI 1] [(.int 3), (.ref b38), (.ref tb_51)])) rfl (by rw [hml]; rfl) (argsL := [(.ref tb_51), (.ref b38), (.int 3)]) (rest := []) (lenOf pd_7 rfl) rfl (own_le rfl) (hb hby at_479) (fun _ _ => ⟨rfl, e55, (by decide : 7 + 0 ≤ _), (by decide : 35 + 0 ≤ _)⟩)
  dsimp only [Pt.U, Pt.locs, Pt.cells, Pt.slots] at X56 l56 y56 z56 st56 hQ56
  subst l56 y56 z56
  obtain ⟨rfl, Nq56, e56⟩ := hQ56
  replace N_ := Fr.app N_ Nq56
  clear Nq56
  refine own_by (T' := T56) (g' := (mkF m 482 #[vI x1, vI x2, vI x3, vR b1, vR b7, vR b18, vR b28, vI 0, vR b38, vI nn, vR b49, vR m0, vR tb_51, vI 1] [(.int 1)])) (fun t k => st56 _ k) ?_
  clear st56 X55 e55
  refine own_by (T' := T56) (g' := (mkF m 485 #[vI x1, vI x2, vI x3, vR b1, vR b7, vR b18, vR b28, vI 0, vR b38, vI nn, vR b49, vR m0, vR tb_51, vI 1] [])) (fun t k => XS.ifNo X56.here hx rfl (hb hby at_482) rfl ((if0 _ _).trans (feq (by decide)).1) k) ?_
  refine own_by (T' := T56) (g' := (mkF m 487 #[vI x1, vI x2, vI x3, vR b1, vR b7, vR b18, vR b28, vI 0, vR b38, vI nn, vR b49, vR m0, vR tb_51, vI 1] [(.ref tb_51)])) (fun t k => XS.aload X56.here hx rfl (hb hby at_485) rfl rfl k) ?_
  refine own_by (T' := T56) (g' := (mkF m 489 #[vI x1, vI x2, vI x3, vR b1, vR b7, vR b18, vR b28, vI 0, vR b38, vI nn, vR b49, vR m0, vR tb_51, vI 1] [(.ref b38), (.ref tb_51)])) (fun t k => XS.aload X56.here hx rfl (hb hby at_487) rfl rfl k) ?_
  refine own_by (T' := T56) (g' := (mkF m 490 #[vI x1, vI x2, vI x3, vR b1, vR b7, vR b18, vR b28, vI 0, vR b38, vI nn, vR b49, vR m0, vR tb_51, vI 1] [(.int 4), (.ref b38), (.ref tb_51)])) (fun t k => XS.iconst X56.here hx rfl (hb hby at_489) k) ?_
  obtain ⟨_, _, ⟨T57, L57, k57, n57⟩, -, X57, ⟨Lc57, hQ57, l57, y57, z57⟩, st57⟩ := Jvm.LawKit.callS X56 hx (y := (⟨"com/example/emu/emu/TableFormFromPrefixPinLaw", "agree", "([I[II)Z"⟩ : MethodName)) hown (mvT hZ (hw _ (own_m 35 rfl))) (mvT hZ (hw _ (own_m 36 rfl))) (mvT hZ (hw _ (own_m 3 rfl))) (mvT hZ (hw _ (own_m 37 rfl))) (by decide) (backOf (W := 0) (rm8_4 l Z a0 hw [] tb_51 b38 nn kb_51 k38 g0_51 g1_51 g2_51 g3_51 g4_51 w0 w1 w2 w3 w4 T51.heap n0 Zle c51_2 V_b38 (GU4)) hZ (hw _ (own_m 37 rfl)) (hw _ (own_m 3 rfl)) (by decide) (by decide)) (g := (mkF m 490 #[vI x1, vI x2, vI x3, vR b1, vR b7, vR b18, vR b28, vI 0, vR b38, vI nn, vR b49, vR m0, vR tb_51, vI 1] [(.int 4), (.ref b38), (.ref tb_51)])) rfl (by rw [hml]; rfl) (argsL := [(.ref tb_51), (.ref b38), (.int 4)]) (rest := []) (lenOf pd_7 rfl) rfl (own_le rfl) (hb hby at_490) (fun _ _ => ⟨rfl, e56, (by decide : 7 + 0 ≤ _), (by decide : 35 + 0 ≤ _)⟩)
  dsimp only [Pt.U, Pt.locs, Pt.cells, Pt.slots] at X57 l57 y57 z57 st57 hQ57
  subst l57 y57 z57
  obtain ⟨rfl, Nq57, e57⟩ := hQ57
  replace N_ := Fr.app N_ Nq57
  clear Nq57
  refine own_by (T' := T57) (g' := (mkF m 493 #[vI x1, vI x2, vI x3, vR b1, vR b7, vR b18, vR b28, vI 0, vR b38, vI nn, vR b49, vR m0, vR tb_51, vI 1] [(.int 1)])) (fun t k => st57 _ k) ?_
  clear st57 X56 e56
  refine own_by (T' := T57) (g' := (mkF m 496 #[vI x1, vI x2, vI x3, vR b1, vR b7, vR b18, vR b28, vI 0, vR b38, vI nn, vR b49, vR m0, vR tb_51, vI 1] [])) (fun t k => XS.ifNo X57.here hx rfl (hb hby at_493) rfl ((if0 _ _).trans (feq (by decide)).1) k) ?_
  refine own_by (T' := T57) (g' := (mkF m 497 #[vI x1, vI x2, vI x3, vR b1, vR b7, vR b18, vR b28, vI 0, vR b38, vI nn, vR b49, vR m0, vR tb_51, vI 1] [(.int 1)])) (fun t k => XS.iconst X57.here hx rfl (hb hby at_496) k) ?_
  refine own_by (T' := T57) (g' := (mkF m 501 #[vI x1, vI x2, vI x3, vR b1, vR b7, vR b18, vR b28, vI 0, vR b38, vI nn, vR b49, vR m0, vR tb_51, vI 1] [(.int 1)])) (fun t k => XS.goto X57.here hx rfl (pc0 := 497) (pc' := 501) rfl (hb hby at_497) (by decide) (by decide) k) ?_
  refine own_by (T' := T57) (g' := (mkF m 503 #[vI x1, vI x2, vI x3, vR b1, vR b7, vR b18, vR b28, vI 0, vR b38, vI nn, vR b49, vR m0, vR tb_51, vI 1] [])) (fun t k => XS.istore X57.here hx rfl (hb hby at_501) rfl (l' := #[vI x1, vI x2, vI x3, vR b1, vR b7, vR b18, vR b28, vI 0, vR b38, vI nn, vR b49, vR m0, vR tb_51, vI 1]) rfl k) ?_
  refine own_by (T' := T57) (g' := (mkF m 505 #[vI x1, vI x2, vI x3, vR b1, vR b7, vR b18, vR b28, vI 0, vR b38, vI nn, vR b49, vR m0, vR tb_51, vI 1] [(.int 1)])) (fun t k => XS.iload X57.here hx rfl (hb hby at_503) rfl k) ?_
  refine own_by (T' := T57) (g' := (mkF m 508 #[vI x1, vI x2, vI x3, vR b1, vR b7, vR b18, vR b28, vI 0, vR b38, vI nn, vR b49, vR m0, vR tb_51, vI 1] [])) (fun t k => XS.ifNo X57.here hx rfl (hb hby at_505) rfl ((if0 _ _).trans (feq (by decide)).1) k) ?_
  refine own_by (T' := T57) (g' := (mkF m 510 #[vI x1, vI x2, vI x3, vR b1, vR b7, vR b18, vR b28, vI 0, vR b38, vI nn, vR b49, vR m0, vR tb_51, vI 1] [(.ref b49)])) (fun t k => XS.aload X57.here hx rfl (hb hby at_508) rfl rfl k) ?_
  refine own_by (T' := T57) (g' := (mkF m 512 #[vI x1, vI x2, vI x3, vR b1, vR b7, vR b18, vR b28, vI 0, vR b38, vI nn, vR b49, vR m0, vR tb_51, vI 1] [(.ref b7), (.ref b49)])) (fun t k => XS.aload X57.here hx rfl (hb hby at_510) rfl rfl k) ?_
  refine own_by (T' := T57) (g' := (mkF m 513 #[vI x1, vI x2, vI x3, vR b1, vR b7, vR b18, vR b28, vI 0, vR b38, vI nn, vR b49, vR m0, vR tb_51, vI 1] [(.int 0), (.ref b7), (.ref b49)])) (fun t k => XS.iconst X57.here hx rfl (hb hby at_512) k) ?_
  obtain ⟨_, _, ⟨T58, L58, k58, n58⟩, -, X58, ⟨Lc58, hQ58, l58, y58, z58⟩, st58⟩ := Jvm.LawKit.callS X57 hx (y := (⟨"com/example/emu/emu/TableFormFromPrefixPinLaw", "agree", "([I[II)Z"⟩ : MethodName)) hown (mvT hZ (hw _ (own_m 35 rfl))) (mvT hZ (hw _ (own_m 36 rfl))) (mvT hZ (hw _ (own_m 3 rfl))) (mvT hZ (hw _ (own_m 37 rfl))) (by decide) (backOf (W := 0) (rm8_0 l Z a0 hw [] b49 b7 nn k49 k7 (0 : Int32) t1 t2 t3 t4 (0 : Int32) t1 t2 t3 t4 T51.heap n0 Zle V_b49 V_b7 (fun _ => rfl)) hZ (hw _ (own_m 37 rfl)) (hw _ (own_m 3 rfl)) (by decide) (by decide)) (g := (mkF m 513 #[vI x1, vI x2, vI x3, vR b1, vR b7, vR b18, vR b28, vI 0, vR b38, vI nn, vR b49, vR m0, vR tb_51, vI 1] [(.int 0), (.ref b7), (.ref b49)])) rfl (by rw [hml]; rfl) (argsL := [(.ref b49), (.ref b7), (.int 0)]) (rest := []) (lenOf pd_7 rfl) rfl (own_le rfl) (hb hby at_513) (fun _ _ => ⟨rfl, e57, (by decide : 7 + 0 ≤ _), (by decide : 35 + 0 ≤ _)⟩)
  dsimp only [Pt.U, Pt.locs, Pt.cells, Pt.slots] at X58 l58 y58 z58 st58 hQ58
  subst l58 y58 z58
  obtain ⟨rfl, Nq58, e58⟩ := hQ58
  replace N_ := Fr.app N_ Nq58
  clear Nq58
  refine own_by (T' := T58) (g' := (mkF m 516 #[vI x1, vI x2, vI x3, vR b1, vR b7, vR b18, vR b28, vI 0, vR b38, vI nn, vR b49, vR m0, vR tb_51, vI 1] [(.int 1)])) (fun t k => st58 _ k) ?_
  clear st58 X57 e57
  refine own_by (T' := T58) (g' := (mkF m 519 #[vI x1, vI x2, vI x3, vR b1, vR b7, vR b18, vR b28, vI 0, vR b38, vI nn, vR b49, vR m0, vR tb_51, vI 1] [])) (fun t k => XS.ifNo X58.here hx rfl (hb hby at_516) rfl ((if0 _ _).trans (feq (by decide)).1) k) ?_
  refine own_by (T' := T58) (g' := (mkF m 521 #[vI x1, vI x2, vI x3, vR b1, vR b7, vR b18, vR b28, vI 0, vR b38, vI nn, vR b49, vR m0, vR tb_51, vI 1] [(.ref b49)])) (fun t k => XS.aload X58.here hx rfl (hb hby at_519) rfl rfl k) ?_
  refine own_by (T' := T58) (g' := (mkF m 523 #[vI x1, vI x2, vI x3, vR b1, vR b7, vR b18, vR b28, vI 0, vR b38, vI nn, vR b49, vR m0, vR tb_51, vI 1] [(.ref b7), (.ref b49)])) (fun t k => XS.aload X58.here hx rfl (hb hby at_521) rfl rfl k) ?_
  refine own_by (T' := T58) (g' := (mkF m 524 #[vI x1, vI x2, vI x3, vR b1, vR b7, vR b18, vR b28, vI 0, vR b38, vI nn, vR b49, vR m0, vR tb_51, vI 1] [(.int 1), (.ref b7), (.ref b49)])) (fun t k => XS.iconst X58.here hx rfl (hb hby at_523) k) ?_
  obtain ⟨_, _, ⟨T59, L59, k59, n59⟩, -, X59, ⟨Lc59, hQ59, l59, y59, z59⟩, st59⟩ := Jvm.LawKit.callS X58 hx (y := (⟨"com/example/emu/emu/TableFormFromPrefixPinLaw", "agree", "([I[II)Z"⟩ : MethodName)) hown (mvT hZ (hw _ (own_m 35 rfl))) (mvT hZ (hw _ (own_m 36 rfl))) (mvT hZ (hw _ (own_m 3 rfl))) (mvT hZ (hw _ (own_m 37 rfl))) (by decide) (backOf (W := 0) (rm8_1 l Z a0 hw [] b49 b7 nn k49 k7 (0 : Int32) t1 t2 t3 t4 (0 : Int32) t1 t2 t3 t4 T51.heap n0 Zle V_b49 V_b7 (fun _ => rfl)) hZ (hw _ (own_m 37 rfl)) (hw _ (own_m 3 rfl)) (by decide) (by decide)) (g := (mkF m 524 #[vI x1, vI x2, vI x3, vR b1, vR b7, vR b18, vR b28, vI 0, vR b38, vI nn, vR b49, vR m0, vR tb_51, vI 1] [(.int 1), (.ref b7), (.ref b49)])) rfl (by rw [hml]; rfl) (argsL := [(.ref b49), (.ref b7), (.int 1)]) (rest := []) (lenOf pd_7 rfl) rfl (own_le rfl) (hb hby at_524) (fun _ _ => ⟨rfl, e58, (by decide : 7 + 0 ≤ _), (by decide : 35 + 0 ≤ _)⟩)
  dsimp only [Pt.U, Pt.locs, Pt.cells, Pt.slots] at X59 l59 y59 z59 st59 hQ59
  subst l59 y59 z59
  obtain ⟨rfl, Nq59, e59⟩ := hQ59
  replace N_ := Fr.app N_ Nq59
  clear Nq59
  refine own_by (T' := T59) (g' := (mkF m 527 #[vI x1, vI x2, vI x3, vR b1, vR b7, vR b18, vR b28, vI 0, vR b38, vI nn, vR b49, vR m0, vR tb_51, vI 1] [(.int 1)])) (fun t k => st59 _ k) ?_
  clear st59 X58 e58
  refine own_by (T' := T59) (g' := (mkF m 530 #[vI x1, vI x2, vI x3, vR b1, vR b7, vR b18, vR b28, vI 0, vR b38, vI nn, vR b49, vR m0, vR tb_51, vI 1] [])) (fun t k => XS.ifNo X59.here hx rfl (hb hby at_527) rfl ((if0 _ _).trans (feq (by decide)).1) k) ?_
  refine own_by (T' := T59) (g' := (mkF m 532 #[vI x1, vI x2, vI x3, vR b1, vR b7, vR b18, vR b28, vI 0, vR b38, vI nn, vR b49, vR m0, vR tb_51, vI 1] [(.ref b49)])) (fun t k => XS.aload X59.here hx rfl (hb hby at_530) rfl rfl k) ?_
  refine own_by (T' := T59) (g' := (mkF m 534 #[vI x1, vI x2, vI x3, vR b1, vR b7, vR b18, vR b28, vI 0, vR b38, vI nn, vR b49, vR m0, vR tb_51, vI 1] [(.ref b7), (.ref b49)])) (fun t k => XS.aload X59.here hx rfl (hb hby at_532) rfl rfl k) ?_
  refine own_by (T' := T59) (g' := (mkF m 535 #[vI x1, vI x2, vI x3, vR b1, vR b7, vR b18, vR b28, vI 0, vR b38, vI nn, vR b49, vR m0, vR tb_51, vI 1] [(.int 2), (.ref b7), (.ref b49)])) (fun t k => XS.iconst X59.here hx rfl (hb hby at_534) k) ?_
  obtain ⟨_, _, ⟨T60, L60, k60, n60⟩, -, X60, ⟨Lc60, hQ60, l60, y60, z60⟩, st60⟩ := Jvm.LawKit.callS X59 hx (y := (⟨"com/example/emu/emu/TableFormFromPrefixPinLaw", "agree", "([I[II)Z"⟩ : MethodName)) hown (mvT hZ (hw _ (own_m 35 rfl))) (mvT hZ (hw _ (own_m 36 rfl))) (mvT hZ (hw _ (own_m 3 rfl))) (mvT hZ (hw _ (own_m 37 rfl))) (by decide) (backOf (W := 0) (rm8_2 l Z a0 hw [] b49 b7 nn k49 k7 (0 : Int32) t1 t2 t3 t4 (0 : Int32) t1 t2 t3 t4 T51.heap n0 Zle V_b49 V_b7 (fun _ => rfl)) hZ (hw _ (own_m 37 rfl)) (hw _ (own_m 3 rfl)) (by decide) (by decide)) (g := (mkF m 535 #[vI x1, vI x2, vI x3, vR b1, vR b7, vR b18, vR b28, vI 0, vR b38, vI nn, vR b49, vR m0, vR tb_51, vI 1] [(.int 2), (.ref b7), (.ref b49)])) rfl (by rw [hml]; rfl) (argsL := [(.ref b49), (.ref b7), (.int 2)]) (rest := []) (lenOf pd_7 rfl) rfl (own_le rfl) (hb hby at_535) (fun _ _ => ⟨rfl, e59, (by decide : 7 + 0 ≤ _), (by decide : 35 + 0 ≤ _)⟩)
  dsimp only [Pt.U, Pt.locs, Pt.cells, Pt.slots] at X60 l60 y60 z60 st60 hQ60
  subst l60 y60 z60
  obtain ⟨rfl, Nq60, e60⟩ := hQ60
  replace N_ := Fr.app N_ Nq60
  clear Nq60
  refine own_by (T' := T60) (g' := (mkF m 538 #[vI x1, vI x2, vI x3, vR b1, vR b7, vR b18, vR b28, vI 0, vR b38, vI nn, vR b49, vR m0, vR tb_51, vI 1] [(.int 1)])) (fun t k => st60 _ k) ?_
  clear st60 X59 e59
  refine own_by (T' := T60) (g' := (mkF m 541 #[vI x1, vI x2, vI x3, vR b1, vR b7, vR b18, vR b28, vI 0, vR b38, vI nn, vR b49, vR m0, vR tb_51, vI 1] [])) (fun t k => XS.ifNo X60.here hx rfl (hb hby at_538) rfl ((if0 _ _).trans (feq (by decide)).1) k) ?_
  refine own_by (T' := T60) (g' := (mkF m 543 #[vI x1, vI x2, vI x3, vR b1, vR b7, vR b18, vR b28, vI 0, vR b38, vI nn, vR b49, vR m0, vR tb_51, vI 1] [(.ref b49)])) (fun t k => XS.aload X60.here hx rfl (hb hby at_541) rfl rfl k) ?_
  refine own_by (T' := T60) (g' := (mkF m 545 #[vI x1, vI x2, vI x3, vR b1, vR b7, vR b18, vR b28, vI 0, vR b38, vI nn, vR b49, vR m0, vR tb_51, vI 1] [(.ref b7), (.ref b49)])) (fun t k => XS.aload X60.here hx rfl (hb hby at_543) rfl rfl k) ?_
  refine own_by (T' := T60) (g' := (mkF m 546 #[vI x1, vI x2, vI x3, vR b1, vR b7, vR b18, vR b28, vI 0, vR b38, vI nn, vR b49, vR m0, vR tb_51, vI 1] [(.int 3), (.ref b7), (.ref b49)])) (fun t k => XS.iconst X60.here hx rfl (hb hby at_545) k) ?_
  obtain ⟨_, _, ⟨T61, L61, k61, n61⟩, -, X61, ⟨Lc61, hQ61, l61, y61, z61⟩, st61⟩ := Jvm.LawKit.callS X60 hx (y := (⟨"com/example/emu/emu/TableFormFromPrefixPinLaw", "agree", "([I[II)Z"⟩ : MethodName)) hown (mvT hZ (hw _ (own_m 35 rfl))) (mvT hZ (hw _ (own_m 36 rfl))) (mvT hZ (hw _ (own_m 3 rfl))) (mvT hZ (hw _ (own_m 37 rfl))) (by decide) (backOf (W := 0) (rm8_3 l Z a0 hw [] b49 b7 nn k49 k7 (0 : Int32) t1 t2 t3 t4 (0 : Int32) t1 t2 t3 t4 T51.heap n0 Zle V_b49 V_b7 (fun _ => rfl)) hZ (hw _ (own_m 37 rfl)) (hw _ (own_m 3 rfl)) (by decide) (by decide)) (g := (mkF m 546 #[vI x1, vI x2, vI x3, vR b1, vR b7, vR b18, vR b28, vI 0, vR b38, vI nn, vR b49, vR m0, vR tb_51, vI 1] [(.int 3), (.ref b7), (.ref b49)])) rfl (by rw [hml]; rfl) (argsL := [(.ref b49), (.ref b7), (.int 3)]) (rest := []) (lenOf pd_7 rfl) rfl (own_le rfl) (hb hby at_546) (fun _ _ => ⟨rfl, e60, (by decide : 7 + 0 ≤ _), (by decide : 35 + 0 ≤ _)⟩)
  dsimp only [Pt.U, Pt.locs, Pt.cells, Pt.slots] at X61 l61 y61 z61 st61 hQ61
  subst l61 y61 z61
  obtain ⟨rfl, Nq61, e61⟩ := hQ61
  replace N_ := Fr.app N_ Nq61
  clear Nq61
  refine own_by (T' := T61) (g' := (mkF m 549 #[vI x1, vI x2, vI x3, vR b1, vR b7, vR b18, vR b28, vI 0, vR b38, vI nn, vR b49, vR m0, vR tb_51, vI 1] [(.int 1)])) (fun t k => st61 _ k) ?_
  clear st61 X60 e60
  refine own_by (T' := T61) (g' := (mkF m 552 #[vI x1, vI x2, vI x3, vR b1, vR b7, vR b18, vR b28, vI 0, vR b38, vI nn, vR b49, vR m0, vR tb_51, vI 1] [])) (fun t k => XS.ifNo X61.here hx rfl (hb hby at_549) rfl ((if0 _ _).trans (feq (by decide)).1) k) ?_
  refine own_by (T' := T61) (g' := (mkF m 554 #[vI x1, vI x2, vI x3, vR b1, vR b7, vR b18, vR b28, vI 0, vR b38, vI nn, vR b49, vR m0, vR tb_51, vI 1] [(.ref b49)])) (fun t k => XS.aload X61.here hx rfl (hb hby at_552) rfl rfl k) ?_
  refine own_by (T' := T61) (g' := (mkF m 556 #[vI x1, vI x2, vI x3, vR b1, vR b7, vR b18, vR b28, vI 0, vR b38, vI nn, vR b49, vR m0, vR tb_51, vI 1] [(.ref b7), (.ref b49)])) (fun t k => XS.aload X61.here hx rfl (hb hby at_554) rfl rfl k) ?_
  refine own_by (T' := T61) (g' := (mkF m 557 #[vI x1, vI x2, vI x3, vR b1, vR b7, vR b18, vR b28, vI 0, vR b38, vI nn, vR b49, vR m0, vR tb_51, vI 1] [(.int 4), (.ref b7), (.ref b49)])) (fun t k => XS.iconst X61.here hx rfl (hb hby at_556) k) ?_
  obtain ⟨_, _, ⟨T62, L62, k62, n62⟩, -, X62, ⟨Lc62, hQ62, l62, y62, z62⟩, st62⟩ := Jvm.LawKit.callS X61 hx (y := (⟨"com/example/emu/emu/TableFormFromPrefixPinLaw", "agree", "([I[II)Z"⟩ : MethodName)) hown (mvT hZ (hw _ (own_m 35 rfl))) (mvT hZ (hw _ (own_m 36 rfl))) (mvT hZ (hw _ (own_m 3 rfl))) (mvT hZ (hw _ (own_m 37 rfl))) (by decide) (backOf (W := 0) (rm8_4 l Z a0 hw [] b49 b7 nn k49 k7 (0 : Int32) t1 t2 t3 t4 (0 : Int32) t1 t2 t3 t4 T51.heap n0 Zle V_b49 V_b7 (fun _ => rfl)) hZ (hw _ (own_m 37 rfl)) (hw _ (own_m 3 rfl)) (by decide) (by decide)) (g := (mkF m 557 #[vI x1, vI x2, vI x3, vR b1, vR b7, vR b18, vR b28, vI 0, vR b38, vI nn, vR b49, vR m0, vR tb_51, vI 1] [(.int 4), (.ref b7), (.ref b49)])) rfl (by rw [hml]; rfl) (argsL := [(.ref b49), (.ref b7), (.int 4)]) (rest := []) (lenOf pd_7 rfl) rfl (own_le rfl) (hb hby at_557) (fun _ _ => ⟨rfl, e61, (by decide : 7 + 0 ≤ _), (by decide : 35 + 0 ≤ _)⟩)
  dsimp only [Pt.U, Pt.locs, Pt.cells, Pt.slots] at X62 l62 y62 z62 st62 hQ62
  subst l62 y62 z62
  obtain ⟨rfl, Nq62, e62⟩ := hQ62
  replace N_ := Fr.app N_ Nq62
  clear Nq62
  refine own_by (T' := T62) (g' := (mkF m 560 #[vI x1, vI x2, vI x3, vR b1, vR b7, vR b18, vR b28, vI 0, vR b38, vI nn, vR b49, vR m0, vR tb_51, vI 1] [(.int 1)])) (fun t k => st62 _ k) ?_
  clear st62 X61 e61
  refine own_by (T' := T62) (g' := (mkF m 563 #[vI x1, vI x2, vI x3, vR b1, vR b7, vR b18, vR b28, vI 0, vR b38, vI nn, vR b49, vR m0, vR tb_51, vI 1] [])) (fun t k => XS.ifNo X62.here hx rfl (hb hby at_560) rfl ((if0 _ _).trans (feq (by decide)).1) k) ?_
  refine own_by (T' := T62) (g' := (mkF m 564 #[vI x1, vI x2, vI x3, vR b1, vR b7, vR b18, vR b28, vI 0, vR b38, vI nn, vR b49, vR m0, vR tb_51, vI 1] [(.int 1)])) (fun t k => XS.iconst X62.here hx rfl (hb hby at_563) k) ?_
  refine own_by (T' := T62) (g' := (mkF m 568 #[vI x1, vI x2, vI x3, vR b1, vR b7, vR b18, vR b28, vI 0, vR b38, vI nn, vR b49, vR m0, vR tb_51, vI 1] [(.int 1)])) (fun t k => XS.goto X62.here hx rfl (pc0 := 564) (pc' := 568) rfl (hb hby at_564) (by decide) (by decide) k) ?_
  refine own_by (T' := T62) (g' := (mkF m 570 #[vI x1, vI x2, vI x3, vR b1, vR b7, vR b18, vR b28, vI 0, vR b38, vI nn, vR b49, vR m0, vR tb_51, vI 1] [])) (fun t k => XS.istore X62.here hx rfl (hb hby at_568) rfl (l' := #[vI x1, vI x2, vI x3, vR b1, vR b7, vR b18, vR b28, vI 0, vR b38, vI nn, vR b49, vR m0, vR tb_51, vI 1]) rfl k) ?_
  refine own_by (T' := T62) (g' := (mkF m 572 #[vI x1, vI x2, vI x3, vR b1, vR b7, vR b18, vR b28, vI 0, vR b38, vI nn, vR b49, vR m0, vR tb_51, vI 1] [(.int 1)])) (fun t k => XS.iload X62.here hx rfl (hb hby at_570) rfl k) ?_
  exact own_retN X62 hx (t := .boolean) hlk hret (by simp) (hb hby at_572) (by decide) (by decide) (by rw [e62]; exact ⟨rfl, N_⟩)
set_option maxRecDepth 65536 in
set_option maxHeartbeats 40000000 in
theorem own_c372_1 (l : Launch) (Z : State) (a0 : Array Value) (hw : ∀ d ∈ tables_1, d.before a0 Z = true) {p : Program} {e : Env} {s : State} {m : MethodId} {below : List Frame} {meth : Method} {c : Code} (hx : p.tables.exec = Jvm.exec) (hby : c.code = code) (hml : c.maxLocals = 14) (hlk : meth.locks = false) (hret : meth.sig.returnType = ret) (x1 : Int32) (x2 : Int32) (x3 : Int32) (m0 : Addr) (m1 : Addr) (m2 : Addr) (m3 : Addr) (h0 : Heap) (n0 : Nat) (b1 : Addr) (k1 : ClassId) (c0 : Int32) (c1 : Int32) (c2 : Int32) (c3 : Int32) (c4 : Int32) (b7 : Addr) (k7 : ClassId) (t1 : Int32) (t2 : Int32) (t3 : Int32) (t4 : Int32) (b18 : Addr) (k18 : ClassId) (b28 : Addr) (k28 : ClassId) (u1 : Int32) (u2 : Int32) (u3 : Int32) (u4 : Int32) (b38 : Addr) (k38 : ClassId) (w0 : Int32) (w1 : Int32) (w2 : Int32) (w3 : Int32) (w4 : Int32) (nn : Int32) (b49 : Addr) (k49 : ClassId) {Tj : State} {hj : Heap} {locsj : List Loc}
    (hZ : Z.Warmed39 s.vm) (hown : s.vm.findClass "com/example/emu/emu/TableFormFromPrefixPinLaw" = some m.cls) (Xj : Stand p l e room_1 s m #[(.int x1), (.int x2), (.int x3)] below meth c Tj locsj 6 30) (ej : Tj.heap = hj)
    (E_m2 : Exa Z hj m2 "com/example/emu/emu/TableForm") (S_NEXT_ONE_BASED : Sta Z hj "com/example/emu/emu/TableForm" "NEXT_ONE_BASED" "Lcom/example/emu/emu/TableForm;" (.ref m2)) (E_m3 : Exa Z hj m3 "com/example/emu/emu/TableForm") (S_NEXTVAL : Sta Z hj "com/example/emu/emu/TableForm" "NEXTVAL" "Lcom/example/emu/emu/TableForm;" (.ref m3)) (E_m1 : Exa Z hj m1 "com/example/emu/emu/TableForm") (S_NEXT : Sta Z hj "com/example/emu/emu/TableForm" "NEXT" "Lcom/example/emu/emu/TableForm;" (.ref m1)) (E_m0 : Exa Z hj m0 "com/example/emu/emu/TableForm") (S_PREFIX : Sta Z hj "com/example/emu/emu/TableForm" "PREFIX" "Lcom/example/emu/emu/TableForm;" (.ref m0)) (F_ordinal_m2 : Fld Z hj m2 "java/lang/Enum" "ordinal" "I" (.int 2)) (F_ordinal_m3 : Fld Z hj m3 "java/lang/Enum" "ordinal" "I" (.int 3)) (F_ordinal_m1 : Fld Z hj m1 "java/lang/Enum" "ordinal" "I" (.int 1)) (F_ordinal_m0 : Fld Z hj m0 "java/lang/Enum" "ordinal" "I" (.int 0)) (Zle : n0 ≤ hj.size) (N_ : Fr n0 locsj) (ne_m2_b1 : m2 ≠ b1) (ne_m3_b1 : m3 ≠ b1) (ne_m1_b1 : m1 ≠ b1) (ne_m0_b1 : m0 ≠ b1) (g_b1 : n0 ≤ b1) (ne_m2_b7 : m2 ≠ b7) (ne_m3_b7 : m3 ≠ b7) (ne_m1_b7 : m1 ≠ b7) (ne_m0_b7 : m0 ≠ b7) (ne_b1_b7 : b1 ≠ b7) (g_b7 : n0 ≤ b7) (ne_m2_b18 : m2 ≠ b18) (ne_m3_b18 : m3 ≠ b18) (ne_m1_b18 : m1 ≠ b18) (ne_m0_b18 : m0 ≠ b18) (ne_b1_b18 : b1 ≠ b18) (ne_b7_b18 : b7 ≠ b18) (g_b18 : n0 ≤ b18) (ne_m2_b28 : m2 ≠ b28) (ne_m3_b28 : m3 ≠ b28) (ne_m1_b28 : m1 ≠ b28) (ne_m0_b28 : m0 ≠ b28) (ne_b1_b28 : b1 ≠ b28) (ne_b7_b28 : b7 ≠ b28) (ne_b18_b28 : b18 ≠ b28) (g_b28 : n0 ≤ b28) (ne_m2_b38 : m2 ≠ b38) (ne_m3_b38 : m3 ≠ b38) (ne_m1_b38 : m1 ≠ b38) (ne_m0_b38 : m0 ≠ b38) (ne_b1_b38 : b1 ≠ b38) (ne_b7_b38 : b7 ≠ b38) (ne_b18_b38 : b18 ≠ b38) (ne_b28_b38 : b28 ≠ b38) (g_b38 : n0 ≤ b38) (ne_m2_b49 : m2 ≠ b49) (ne_m3_b49 : m3 ≠ b49) (ne_m1_b49 : m1 ≠ b49) (ne_m0_b49 : m0 ≠ b49) (ne_b1_b49 : b1 ≠ b49) (ne_b7_b49 : b7 ≠ b49) (ne_b18_b49 : b18 ≠ b49) (ne_b28_b49 : b28 ≠ b49) (ne_b38_b49 : b38 ≠ b49) (g_b49 : n0 ≤ b49) (V_b49 : Arv Z hj b49 k49 .int nn [(.int 0), (.int t1), (.int t2), (.int t3), (.int t4)] (.int 0)) (V_b7 : Arv Z hj b7 k7 .int (5 : Int32) [(.int 0), (.int t1), (.int t2), (.int t3), (.int t4)] (.int 0)) (V_b38 : Arv Z hj b38 k38 .int (5 : Int32) [(.int w0), (.int w1), (.int w2), (.int w3), (.int w4)] (.int 0)) (e_c0 : c0 = (x1 &&& (3 : Int32))) (e_c1 : c1 = (((x1.toUInt32 >>> ((2 : Int32) &&& 31).toUInt32).toInt32) &&& (3 : Int32))) (e_c2 : c2 = (((x1.toUInt32 >>> ((4 : Int32) &&& 31).toUInt32).toInt32) &&& (3 : Int32))) (e_c3 : c3 = (((x1.toUInt32 >>> ((6 : Int32) &&& 31).toUInt32).toInt32) &&& (3 : Int32))) (e_c4 : c4 = (((x1.toUInt32 >>> ((8 : Int32) &&& 31).toUInt32).toInt32) &&& (3 : Int32))) (e_t1 : t1 = (own_bd1 c0 c1 c2 c3 c4)) (HB1 : own_B1 c0 c1 t1) (hr1 : t1 = 0 ∨ t1 = 1) (e_t2 : t2 = (own_bd2 c0 c1 c2 c3 c4)) (HB2 : own_B2 c0 c1 c2 t2) (hr2 : t2 = 0 ∨ t2 = 1 ∨ t2 = 2) (e_t3 : t3 = (own_bd3 c0 c1 c2 c3 c4)) (HB3 : own_B3 c0 c1 c2 c3 t3) (hr3 : t3 = 0 ∨ t3 = 1 ∨ t3 = 2 ∨ t3 = 3) (e_t4 : t4 = (own_bd4 c0 c1 c2 c3 c4)) (HB4 : own_B4 c0 c1 c2 c3 c4 t4) (hr4 : t4 = 0 ∨ t4 = 1 ∨ t4 = 2 ∨ t4 = 3 ∨ t4 = 4) (e_u1 : u1 = (own_nvs c1 (0 : Int32) c0 c1 c2 c3 c4 (-1 : Int32) (0 : Int32) (0 : Int32) (0 : Int32) (0 : Int32))) (e_u2 : u2 = (own_nvs c2 t1 c0 c1 c2 c3 c4 (-1 : Int32) u1 (0 : Int32) (0 : Int32) (0 : Int32))) (e_u3 : u3 = (own_nvs c3 t2 c0 c1 c2 c3 c4 (-1 : Int32) u1 u2 (0 : Int32) (0 : Int32))) (e_u4 : u4 = (own_nvs c4 t3 c0 c1 c2 c3 c4 (-1 : Int32) u1 u2 u3 (0 : Int32))) (e_w0 : w0 = (own_pick (1 : Int32) (0 : Int32) (-1 : Int32) (-1 : Int32))) (e_w1 : w1 = (own_pick (1 : Int32) t1 (0 : Int32) u1)) (e_w2 : w2 = (own_pick (1 : Int32) t2 t1 u2)) (e_w3 : w3 = (own_pick (1 : Int32) t3 t2 u3)) (e_w4 : w4 = (own_pick (1 : Int32) t4 t3 u4)) (e_nn : nn = ((x2 &&& (7 : Int32)) % (6 : Int32))) (hn0 : ¬ nn < 0) (hn5 : nn.toNatClampNeg ≤ 5) (hn6 : nn < 6) : own_Goes p.tables e below s (Q0 Z x1 x2 x3 m0 m1 m2 m3 h0 n0) room_1.cells room_1.slots Tj (mkF m 372 #[vI x1, vI x2, vI x3, vR b1, vR b7, vR b18, vR b28, vI 1, vR b38, vI nn, vR b49, .unset, .unset, .unset] []) := by
  refine own_by (T' := Tj) (g' := (mkF m 374 #[vI x1, vI x2, vI x3, vR b1, vR b7, vR b18, vR b28, vI 1, vR b38, vI nn, vR b49, .unset, .unset, .unset] [(.int 1)])) (fun t k => XS.iload Xj.here hx rfl (hb hby at_372) rfl k) ?_
  refine own_by (T' := Tj) (g' := (mkF m 383 #[vI x1, vI x2, vI x3, vR b1, vR b7, vR b18, vR b28, vI 1, vR b38, vI nn, vR b49, .unset, .unset, .unset] [])) (fun t k => XS.ifYes Xj.here hx rfl (pc0 := 374) (pc' := 383) rfl (hb hby at_374) rfl ((if0 _ _).trans (feq (by decide)).2) (by decide) (by decide) k) ?_
  refine own_by (T' := Tj) (g' := (mkF m 385 #[vI x1, vI x2, vI x3, vR b1, vR b7, vR b18, vR b28, vI 1, vR b38, vI nn, vR b49, .unset, .unset, .unset] [(.int 1)])) (fun t k => XS.iload Xj.here hx rfl (hb hby at_383) rfl k) ?_
  refine own_by (T' := Tj) (g' := (mkF m 386 #[vI x1, vI x2, vI x3, vR b1, vR b7, vR b18, vR b28, vI 1, vR b38, vI nn, vR b49, .unset, .unset, .unset] [(.int 1), (.int 1)])) (fun t k => XS.iconst Xj.here hx rfl (hb hby at_385) k) ?_
  refine own_by (T' := Tj) (g' := (mkF m 389 #[vI x1, vI x2, vI x3, vR b1, vR b7, vR b18, vR b28, vI 1, vR b38, vI nn, vR b49, .unset, .unset, .unset] [])) (fun t k => XS.icmpNo Xj.here hx rfl (hb hby at_386) rfl (teq (by decide)).2 k) ?_
  obtain ⟨T63, X63, e63, st63⟩ := getS2 Xj hx hZ hown (host := "") (Or.inl (hw _ (own_m 40 rfl))) Via.refl ej S_NEXT (g := (mkF m 389 #[vI x1, vI x2, vI x3, vR b1, vR b7, vR b18, vR b28, vI 1, vR b38, vI nn, vR b49, .unset, .unset, .unset] [])) rfl (hb hby at_389)
  refine own_by (T' := T63) (g' := (mkF m 392 #[vI x1, vI x2, vI x3, vR b1, vR b7, vR b18, vR b28, vI 1, vR b38, vI nn, vR b49, .unset, .unset, .unset] [(.ref m1)])) (fun t k => st63 t k) ?_
  clear st63
  refine own_by (T' := T63) (g' := (mkF m 410 #[vI x1, vI x2, vI x3, vR b1, vR b7, vR b18, vR b28, vI 1, vR b38, vI nn, vR b49, .unset, .unset, .unset] [(.ref m1)])) (fun t k => XS.goto X63.here hx rfl (pc0 := 392) (pc' := 410) rfl (hb hby at_392) (by decide) (by decide) k) ?_
  refine own_by (T' := T63) (g' := (mkF m 412 #[vI x1, vI x2, vI x3, vR b1, vR b7, vR b18, vR b28, vI 1, vR b38, vI nn, vR b49, vR m1, .unset, .unset] [])) (fun t k => XS.astore X63.here hx rfl (hb hby at_410) rfl rfl (l' := #[vI x1, vI x2, vI x3, vR b1, vR b7, vR b18, vR b28, vI 1, vR b38, vI nn, vR b49, vR m1, .unset, .unset]) rfl k) ?_
  refine own_by (T' := T63) (g' := (mkF m 414 #[vI x1, vI x2, vI x3, vR b1, vR b7, vR b18, vR b28, vI 1, vR b38, vI nn, vR b49, vR m1, .unset, .unset] [(.ref m1)])) (fun t k => XS.aload X63.here hx rfl (hb hby at_412) rfl rfl k) ?_
  refine own_by (T' := T63) (g' := (mkF m 416 #[vI x1, vI x2, vI x3, vR b1, vR b7, vR b18, vR b28, vI 1, vR b38, vI nn, vR b49, vR m1, .unset, .unset] [(.ref b49), (.ref m1)])) (fun t k => XS.aload X63.here hx rfl (hb hby at_414) rfl rfl k) ?_
  have lt_m2_64 := E_m2.lt
  have lt_m3_64 := E_m3.lt
  have lt_m1_64 := E_m1.lt
  have lt_m0_64 := E_m0.lt
  have lt_b49_64 := V_b49.lt
  have lt_b7_64 := V_b7.lt
  have lt_b38_64 := V_b38.lt
  have Zpre64 := Zle
  obtain ⟨cq64, kq64, q64a, q64b, q64c⟩ := isOf hZ e63 E_m1
  obtain ⟨_, _, ⟨T64, L64, k64, n64⟩, -, X64, ⟨Lc64, hQ64, l64, y64, z64⟩, st64⟩ := X63.virtualBack hx (y := (⟨"com/example/emu/emu/TableForm", "fromPrefix", "([I)[I"⟩ : MethodName)) (z := (⟨"com/example/emu/emu/TableForm", "fromPrefix", "([I)[I"⟩ : MethodName)) hown (mvT hZ (hw _ (own_m 17 rfl))) (mvT hZ (hw _ (own_m 18 rfl))) (notFace_of_selects (args := #[]) (mvT hZ (hw _ (own_m 20 rfl)))) (mvT hZ (hw _ (own_m 20 rfl))) (mvT hZ (hw _ (own_m 19 rfl))) (by decide) (backOf (W := 0) (rm5 l Z a0 hw [] m1 b49 nn (1 : Int32) k49 (0 : Int32) t1 t2 t3 t4 hj n0 Zle E_m1 F_ordinal_m1 V_b49 (hn0) (hn5) (hn6) (by decide) (rfl) (hr1) (hr2) (hr3)) hZ (hw _ (own_m 21 rfl)) (hw _ (own_m 15 rfl)) (by decide) (by decide)) q64a q64c (g := (mkF m 416 #[vI x1, vI x2, vI x3, vR b1, vR b7, vR b18, vR b28, vI 1, vR b38, vI nn, vR b49, vR m1, .unset, .unset] [(.ref b49), (.ref m1)])) rfl (by rw [hml]; rfl) (Steps.refl _) (argsL := [(.ref b49)]) (rest := []) (lenOf pd_4 rfl) rfl (own_le rfl) (hb hby at_416) (fun _ _ => ⟨rfl, e63, (by decide : 6 + 1 ≤ _), (by decide : 30 + 5 ≤ _)⟩)
  dsimp only [Pt.U, Pt.locs, Pt.cells, Pt.slots] at X64 l64 y64 z64 st64 hQ64
  subst l64 y64 z64
  obtain ⟨tb_64, g0_64, g1_64, g2_64, g3_64, g4_64, kb_64, rfl, Nq64, c64_0, c64_1, c64_2, c64_3, c64_4, c64_5, c64_6, c64_7⟩ := hQ64
  replace N_ := Fr.app N_ Nq64
  clear Nq64
  replace S_NEXT_ONE_BASED := own_staKeep S_NEXT_ONE_BASED c64_0 all0
  replace S_NEXTVAL := own_staKeep S_NEXTVAL c64_0 all0
  replace S_NEXT := own_staKeep S_NEXT c64_0 all0
  replace S_PREFIX := own_staKeep S_PREFIX c64_0 all0
  replace E_m2 := E_m2.keep c64_0
  replace E_m3 := E_m3.keep c64_0
  replace E_m1 := E_m1.keep c64_0
  replace E_m0 := E_m0.keep c64_0
  replace F_ordinal_m2 := F_ordinal_m2.keep c64_0 nin0
  replace F_ordinal_m3 := F_ordinal_m3.keep c64_0 nin0
  replace F_ordinal_m1 := F_ordinal_m1.keep c64_0 nin0
  replace F_ordinal_m0 := F_ordinal_m0.keep c64_0 nin0
  replace Zle := Nat.le_trans Zle c64_0.1
  replace V_b49 := V_b49.keep c64_0 nin0
  replace V_b7 := V_b7.keep c64_0 nin0
  replace V_b38 := V_b38.keep c64_0 nin0
  have ne_m2_tb_64 : m2 ≠ tb_64 := Nat.ne_of_lt (Nat.lt_of_lt_of_le lt_m2_64 c64_1)
  have ne_m3_tb_64 : m3 ≠ tb_64 := Nat.ne_of_lt (Nat.lt_of_lt_of_le lt_m3_64 c64_1)
  have ne_m1_tb_64 : m1 ≠ tb_64 := Nat.ne_of_lt (Nat.lt_of_lt_of_le lt_m1_64 c64_1)
  have ne_m0_tb_64 : m0 ≠ tb_64 := Nat.ne_of_lt (Nat.lt_of_lt_of_le lt_m0_64 c64_1)
  have ne_b49_tb_64 : b49 ≠ tb_64 := Nat.ne_of_lt (Nat.lt_of_lt_of_le lt_b49_64 c64_1)
  have ne_b7_tb_64 : b7 ≠ tb_64 := Nat.ne_of_lt (Nat.lt_of_lt_of_le lt_b7_64 c64_1)
  have ne_b38_tb_64 : b38 ≠ tb_64 := Nat.ne_of_lt (Nat.lt_of_lt_of_le lt_b38_64 c64_1)
  have g_tb_64 : n0 ≤ tb_64 := Nat.le_trans Zpre64 c64_1
  have HG0 := c64_3
  have HG1 := c64_4
  have HG2 := c64_5
  have HG3 := c64_6
  have HG4 := c64_7
  clear lt_m2_64 lt_m3_64 lt_m1_64 lt_m0_64 lt_b49_64 lt_b7_64 lt_b38_64
  refine own_by (T' := T64) (g' := (mkF m 419 #[vI x1, vI x2, vI x3, vR b1, vR b7, vR b18, vR b28, vI 1, vR b38, vI nn, vR b49, vR m1, .unset, .unset] [(.ref tb_64)])) (fun t k => st64.trans k) ?_
  clear st64 X63 e63
  refine own_by (T' := T64) (g' := (mkF m 421 #[vI x1, vI x2, vI x3, vR b1, vR b7, vR b18, vR b28, vI 1, vR b38, vI nn, vR b49, vR m1, vR tb_64, .unset] [])) (fun t k => XS.astore X64.here hx rfl (hb hby at_419) rfl rfl (l' := #[vI x1, vI x2, vI x3, vR b1, vR b7, vR b18, vR b28, vI 1, vR b38, vI nn, vR b49, vR m1, vR tb_64, .unset]) rfl k) ?_
  refine own_by (T' := T64) (g' := (mkF m 423 #[vI x1, vI x2, vI x3, vR b1, vR b7, vR b18, vR b28, vI 1, vR b38, vI nn, vR b49, vR m1, vR tb_64, .unset] [(.ref tb_64)])) (fun t k => XS.aload X64.here hx rfl (hb hby at_421) rfl rfl k) ?_
  obtain ⟨cl65, Ar65, -, S65, N65, -, -⟩ := id c64_2
  have st65 : ∀ t, Steps p.tables e below (T64.setTop (mkF m 424 #[vI x1, vI x2, vI x3, vR b1, vR b7, vR b18, vR b28, vI 1, vR b38, vI nn, vR b49, vR m1, vR tb_64, .unset] [(.int nn)])) t → Steps p.tables e below (T64.setTop (mkF m 423 #[vI x1, vI x2, vI x3, vR b1, vR b7, vR b18, vR b28, vI 1, vR b38, vI nn, vR b49, vR m1, vR tb_64, .unset] [(.ref tb_64)])) t := fun t k => X64.arraylength hx (by exact Ar65.1) (State.isArrayOf_alike hZ.alike Ar65.2.1) (g := (mkF m 423 #[vI x1, vI x2, vI x3, vR b1, vR b7, vR b18, vR b28, vI 1, vR b38, vI nn, vR b49, vR m1, vR tb_64, .unset] [(.ref tb_64)])) rfl rfl (hb hby at_423) _ (by rw [len_of S65 N65]; exact k)
  refine own_by (T' := T64) (g' := (mkF m 424 #[vI x1, vI x2, vI x3, vR b1, vR b7, vR b18, vR b28, vI 1, vR b38, vI nn, vR b49, vR m1, vR tb_64, .unset] [(.int nn)])) (fun t k => st65 t k) ?_
  clear st65
  refine own_by (T' := T64) (g' := (mkF m 426 #[vI x1, vI x2, vI x3, vR b1, vR b7, vR b18, vR b28, vI 1, vR b38, vI nn, vR b49, vR m1, vR tb_64, .unset] [(.int nn), (.int nn)])) (fun t k => XS.iload X64.here hx rfl (hb hby at_424) rfl k) ?_
  refine own_by (T' := T64) (g' := (mkF m 429 #[vI x1, vI x2, vI x3, vR b1, vR b7, vR b18, vR b28, vI 1, vR b38, vI nn, vR b49, vR m1, vR tb_64, .unset] [])) (fun t k => XS.icmpNo X64.here hx rfl (hb hby at_426) rfl (teq (rfl : nn = nn)).2 k) ?_
  refine own_by (T' := T64) (g' := (mkF m 430 #[vI x1, vI x2, vI x3, vR b1, vR b7, vR b18, vR b28, vI 1, vR b38, vI nn, vR b49, vR m1, vR tb_64, .unset] [(.int 1)])) (fun t k => XS.iconst X64.here hx rfl (hb hby at_429) k) ?_
  refine own_by (T' := T64) (g' := (mkF m 434 #[vI x1, vI x2, vI x3, vR b1, vR b7, vR b18, vR b28, vI 1, vR b38, vI nn, vR b49, vR m1, vR tb_64, .unset] [(.int 1)])) (fun t k => XS.goto X64.here hx rfl (pc0 := 430) (pc' := 434) rfl (hb hby at_430) (by decide) (by decide) k) ?_
  refine own_by (T' := T64) (g' := (mkF m 436 #[vI x1, vI x2, vI x3, vR b1, vR b7, vR b18, vR b28, vI 1, vR b38, vI nn, vR b49, vR m1, vR tb_64, vI 1] [])) (fun t k => XS.istore X64.here hx rfl (hb hby at_434) rfl (l' := #[vI x1, vI x2, vI x3, vR b1, vR b7, vR b18, vR b28, vI 1, vR b38, vI nn, vR b49, vR m1, vR tb_64, vI 1]) rfl k) ?_
  have GU0 : (0 : Int32) < nn → g0_64 = w0 := fun q => by rw [HG0 q, e_w0]; rfl
  have GU1 : (1 : Int32) < nn → g1_64 = w1 := fun q => by rw [HG1 q, e_w1]; rfl
  have GU2 : (2 : Int32) < nn → g2_64 = w2 := fun q => by rw [HG2 q, e_w2]; rfl
  have GU3 : (3 : Int32) < nn → g3_64 = w3 := fun q => by rw [HG3 q, e_w3]; rfl
  have GU4 : (4 : Int32) < nn → g4_64 = w4 := fun q => by rw [HG4 q, e_w4]; rfl
  refine own_by (T' := T64) (g' := (mkF m 438 #[vI x1, vI x2, vI x3, vR b1, vR b7, vR b18, vR b28, vI 1, vR b38, vI nn, vR b49, vR m1, vR tb_64, vI 1] [(.int 1)])) (fun t k => XS.iload X64.here hx rfl (hb hby at_436) rfl k) ?_
  refine own_by (T' := T64) (g' := (mkF m 441 #[vI x1, vI x2, vI x3, vR b1, vR b7, vR b18, vR b28, vI 1, vR b38, vI nn, vR b49, vR m1, vR tb_64, vI 1] [])) (fun t k => XS.ifNo X64.here hx rfl (hb hby at_438) rfl ((if0 _ _).trans (feq (by decide)).1) k) ?_
  refine own_by (T' := T64) (g' := (mkF m 443 #[vI x1, vI x2, vI x3, vR b1, vR b7, vR b18, vR b28, vI 1, vR b38, vI nn, vR b49, vR m1, vR tb_64, vI 1] [(.ref tb_64)])) (fun t k => XS.aload X64.here hx rfl (hb hby at_441) rfl rfl k) ?_
  refine own_by (T' := T64) (g' := (mkF m 445 #[vI x1, vI x2, vI x3, vR b1, vR b7, vR b18, vR b28, vI 1, vR b38, vI nn, vR b49, vR m1, vR tb_64, vI 1] [(.ref b38), (.ref tb_64)])) (fun t k => XS.aload X64.here hx rfl (hb hby at_443) rfl rfl k) ?_
  refine own_by (T' := T64) (g' := (mkF m 446 #[vI x1, vI x2, vI x3, vR b1, vR b7, vR b18, vR b28, vI 1, vR b38, vI nn, vR b49, vR m1, vR tb_64, vI 1] [(.int 0), (.ref b38), (.ref tb_64)])) (fun t k => XS.iconst X64.here hx rfl (hb hby at_445) k) ?_
  obtain ⟨_, _, ⟨T66, L66, k66, n66⟩, -, X66, ⟨Lc66, hQ66, l66, y66, z66⟩, st66⟩ := Jvm.LawKit.callS X64 hx (y := (⟨"com/example/emu/emu/TableFormFromPrefixPinLaw", "agree", "([I[II)Z"⟩ : MethodName)) hown (mvT hZ (hw _ (own_m 35 rfl))) (mvT hZ (hw _ (own_m 36 rfl))) (mvT hZ (hw _ (own_m 3 rfl))) (mvT hZ (hw _ (own_m 37 rfl))) (by decide) (backOf (W := 0) (rm8_0 l Z a0 hw [] tb_64 b38 nn kb_64 k38 g0_64 g1_64 g2_64 g3_64 g4_64 w0 w1 w2 w3 w4 T64.heap n0 Zle c64_2 V_b38 (GU0)) hZ (hw _ (own_m 37 rfl)) (hw _ (own_m 3 rfl)) (by decide) (by decide)) (g := (mkF m 446 #[vI x1, vI x2, vI x3, vR b1, vR b7, vR b18, vR b28, vI 1, vR b38, vI nn, vR b49, vR m1, vR tb_64, vI 1] [(.int 0), (.ref b38), (.ref tb_64)])) rfl (by rw [hml]; rfl) (argsL := [(.ref tb_64), (.ref b38), (.int 0)]) (rest := []) (lenOf pd_7 rfl) rfl (own_le rfl) (hb hby at_446) (fun _ _ => ⟨rfl, rfl, (by decide : 7 + 0 ≤ _), (by decide : 35 + 0 ≤ _)⟩)
  dsimp only [Pt.U, Pt.locs, Pt.cells, Pt.slots] at X66 l66 y66 z66 st66 hQ66
  subst l66 y66 z66
  obtain ⟨rfl, Nq66, e66⟩ := hQ66
  replace N_ := Fr.app N_ Nq66
  clear Nq66
  refine own_by (T' := T66) (g' := (mkF m 449 #[vI x1, vI x2, vI x3, vR b1, vR b7, vR b18, vR b28, vI 1, vR b38, vI nn, vR b49, vR m1, vR tb_64, vI 1] [(.int 1)])) (fun t k => st66 _ k) ?_
  clear st66 X64
  refine own_by (T' := T66) (g' := (mkF m 452 #[vI x1, vI x2, vI x3, vR b1, vR b7, vR b18, vR b28, vI 1, vR b38, vI nn, vR b49, vR m1, vR tb_64, vI 1] [])) (fun t k => XS.ifNo X66.here hx rfl (hb hby at_449) rfl ((if0 _ _).trans (feq (by decide)).1) k) ?_
  refine own_by (T' := T66) (g' := (mkF m 454 #[vI x1, vI x2, vI x3, vR b1, vR b7, vR b18, vR b28, vI 1, vR b38, vI nn, vR b49, vR m1, vR tb_64, vI 1] [(.ref tb_64)])) (fun t k => XS.aload X66.here hx rfl (hb hby at_452) rfl rfl k) ?_
  refine own_by (T' := T66) (g' := (mkF m 456 #[vI x1, vI x2, vI x3, vR b1, vR b7, vR b18, vR b28, vI 1, vR b38, vI nn, vR b49, vR m1, vR tb_64, vI 1] [(.ref b38), (.ref tb_64)])) (fun t k => XS.aload X66.here hx rfl (hb hby at_454) rfl rfl k) ?_
  refine own_by (T' := T66) (g' := (mkF m 457 #[vI x1, vI x2, vI x3, vR b1, vR b7, vR b18, vR b28, vI 1, vR b38, vI nn, vR b49, vR m1, vR tb_64, vI 1] [(.int 1), (.ref b38), (.ref tb_64)])) (fun t k => XS.iconst X66.here hx rfl (hb hby at_456) k) ?_
  obtain ⟨_, _, ⟨T67, L67, k67, n67⟩, -, X67, ⟨Lc67, hQ67, l67, y67, z67⟩, st67⟩ := Jvm.LawKit.callS X66 hx (y := (⟨"com/example/emu/emu/TableFormFromPrefixPinLaw", "agree", "([I[II)Z"⟩ : MethodName)) hown (mvT hZ (hw _ (own_m 35 rfl))) (mvT hZ (hw _ (own_m 36 rfl))) (mvT hZ (hw _ (own_m 3 rfl))) (mvT hZ (hw _ (own_m 37 rfl))) (by decide) (backOf (W := 0) (rm8_1 l Z a0 hw [] tb_64 b38 nn kb_64 k38 g0_64 g1_64 g2_64 g3_64 g4_64 w0 w1 w2 w3 w4 T64.heap n0 Zle c64_2 V_b38 (GU1)) hZ (hw _ (own_m 37 rfl)) (hw _ (own_m 3 rfl)) (by decide) (by decide)) (g := (mkF m 457 #[vI x1, vI x2, vI x3, vR b1, vR b7, vR b18, vR b28, vI 1, vR b38, vI nn, vR b49, vR m1, vR tb_64, vI 1] [(.int 1), (.ref b38), (.ref tb_64)])) rfl (by rw [hml]; rfl) (argsL := [(.ref tb_64), (.ref b38), (.int 1)]) (rest := []) (lenOf pd_7 rfl) rfl (own_le rfl) (hb hby at_457) (fun _ _ => ⟨rfl, e66, (by decide : 7 + 0 ≤ _), (by decide : 35 + 0 ≤ _)⟩)
  dsimp only [Pt.U, Pt.locs, Pt.cells, Pt.slots] at X67 l67 y67 z67 st67 hQ67
  subst l67 y67 z67
  obtain ⟨rfl, Nq67, e67⟩ := hQ67
  replace N_ := Fr.app N_ Nq67
  clear Nq67
  refine own_by (T' := T67) (g' := (mkF m 460 #[vI x1, vI x2, vI x3, vR b1, vR b7, vR b18, vR b28, vI 1, vR b38, vI nn, vR b49, vR m1, vR tb_64, vI 1] [(.int 1)])) (fun t k => st67 _ k) ?_
  clear st67 X66 e66
  refine own_by (T' := T67) (g' := (mkF m 463 #[vI x1, vI x2, vI x3, vR b1, vR b7, vR b18, vR b28, vI 1, vR b38, vI nn, vR b49, vR m1, vR tb_64, vI 1] [])) (fun t k => XS.ifNo X67.here hx rfl (hb hby at_460) rfl ((if0 _ _).trans (feq (by decide)).1) k) ?_
  refine own_by (T' := T67) (g' := (mkF m 465 #[vI x1, vI x2, vI x3, vR b1, vR b7, vR b18, vR b28, vI 1, vR b38, vI nn, vR b49, vR m1, vR tb_64, vI 1] [(.ref tb_64)])) (fun t k => XS.aload X67.here hx rfl (hb hby at_463) rfl rfl k) ?_
  refine own_by (T' := T67) (g' := (mkF m 467 #[vI x1, vI x2, vI x3, vR b1, vR b7, vR b18, vR b28, vI 1, vR b38, vI nn, vR b49, vR m1, vR tb_64, vI 1] [(.ref b38), (.ref tb_64)])) (fun t k => XS.aload X67.here hx rfl (hb hby at_465) rfl rfl k) ?_
  refine own_by (T' := T67) (g' := (mkF m 468 #[vI x1, vI x2, vI x3, vR b1, vR b7, vR b18, vR b28, vI 1, vR b38, vI nn, vR b49, vR m1, vR tb_64, vI 1] [(.int 2), (.ref b38), (.ref tb_64)])) (fun t k => XS.iconst X67.here hx rfl (hb hby at_467) k) ?_
  obtain ⟨_, _, ⟨T68, L68, k68, n68⟩, -, X68, ⟨Lc68, hQ68, l68, y68, z68⟩, st68⟩ := Jvm.LawKit.callS X67 hx (y := (⟨"com/example/emu/emu/TableFormFromPrefixPinLaw", "agree", "([I[II)Z"⟩ : MethodName)) hown (mvT hZ (hw _ (own_m 35 rfl))) (mvT hZ (hw _ (own_m 36 rfl))) (mvT hZ (hw _ (own_m 3 rfl))) (mvT hZ (hw _ (own_m 37 rfl))) (by decide) (backOf (W := 0) (rm8_2 l Z a0 hw [] tb_64 b38 nn kb_64 k38 g0_64 g1_64 g2_64 g3_64 g4_64 w0 w1 w2 w3 w4 T64.heap n0 Zle c64_2 V_b38 (GU2)) hZ (hw _ (own_m 37 rfl)) (hw _ (own_m 3 rfl)) (by decide) (by decide)) (g := (mkF m 468 #[vI x1, vI x2, vI x3, vR b1, vR b7, vR b18, vR b28, vI 1, vR b38, vI nn, vR b49, vR m1, vR tb_64, vI 1] [(.int 2), (.ref b38), (.ref tb_64)])) rfl (by rw [hml]; rfl) (argsL := [(.ref tb_64), (.ref b38), (.int 2)]) (rest := []) (lenOf pd_7 rfl) rfl (own_le rfl) (hb hby at_468) (fun _ _ => ⟨rfl, e67, (by decide : 7 + 0 ≤ _), (by decide : 35 + 0 ≤ _)⟩)
  dsimp only [Pt.U, Pt.locs, Pt.cells, Pt.slots] at X68 l68 y68 z68 st68 hQ68
  subst l68 y68 z68
  obtain ⟨rfl, Nq68, e68⟩ := hQ68
  replace N_ := Fr.app N_ Nq68
  clear Nq68
  refine own_by (T' := T68) (g' := (mkF m 471 #[vI x1, vI x2, vI x3, vR b1, vR b7, vR b18, vR b28, vI 1, vR b38, vI nn, vR b49, vR m1, vR tb_64, vI 1] [(.int 1)])) (fun t k => st68 _ k) ?_
  clear st68 X67 e67
  refine own_by (T' := T68) (g' := (mkF m 474 #[vI x1, vI x2, vI x3, vR b1, vR b7, vR b18, vR b28, vI 1, vR b38, vI nn, vR b49, vR m1, vR tb_64, vI 1] [])) (fun t k => XS.ifNo X68.here hx rfl (hb hby at_471) rfl ((if0 _ _).trans (feq (by decide)).1) k) ?_
  refine own_by (T' := T68) (g' := (mkF m 476 #[vI x1, vI x2, vI x3, vR b1, vR b7, vR b18, vR b28, vI 1, vR b38, vI nn, vR b49, vR m1, vR tb_64, vI 1] [(.ref tb_64)])) (fun t k => XS.aload X68.here hx rfl (hb hby at_474) rfl rfl k) ?_
  refine own_by (T' := T68) (g' := (mkF m 478 #[vI x1, vI x2, vI x3, vR b1, vR b7, vR b18, vR b28, vI 1, vR b38, vI nn, vR b49, vR m1, vR tb_64, vI 1] [(.ref b38), (.ref tb_64)])) (fun t k => XS.aload X68.here hx rfl (hb hby at_476) rfl rfl k) ?_
  refine own_by (T' := T68) (g' := (mkF m 479 #[vI x1, vI x2, vI x3, vR b1, vR b7, vR b18, vR b28, vI 1, vR b38, vI nn, vR b49, vR m1, vR tb_64, vI 1] [(.int 3), (.ref b38), (.ref tb_64)])) (fun t k => XS.iconst X68.here hx rfl (hb hby at_478) k) ?_
  obtain ⟨_, _, ⟨T69, L69, k69, n69⟩, -, X69, ⟨Lc69, hQ69, l69, y69, z69⟩, st69⟩ := Jvm.LawKit.callS X68 hx (y := (⟨"com/example/emu/emu/TableFormFromPrefixPinLaw", "agree", "([I[II)Z"⟩ : MethodName)) hown (mvT hZ (hw _ (own_m 35 rfl))) (mvT hZ (hw _ (own_m 36 rfl))) (mvT hZ (hw _ (own_m 3 rfl))) (mvT hZ (hw _ (own_m 37 rfl))) (by decide) (backOf (W := 0) (rm8_3 l Z a0 hw [] tb_64 b38 nn kb_64 k38 g0_64 g1_64 g2_64 g3_64 g4_64 w0 w1 w2 w3 w4 T64.heap n0 Zle c64_2 V_b38 (GU3)) hZ (hw _ (own_m 37 rfl)) (hw _ (own_m 3 rfl)) (by decide) (by decide)) (g := (mkF m 479 #[vI x1, vI x2, vI x3, vR b1, vR b7, vR b18, vR b28, vI 1, vR b38, vI nn, vR b49, vR m1, vR tb_64, vI 1] [(.int 3), (.ref b38), (.ref tb_64)])) rfl (by rw [hml]; rfl) (argsL := [(.ref tb_64), (.ref b38), (.int 3)]) (rest := []) (lenOf pd_7 rfl) rfl (own_le rfl) (hb hby at_479) (fun _ _ => ⟨rfl, e68, (by decide : 7 + 0 ≤ _), (by decide : 35 + 0 ≤ _)⟩)
  dsimp only [Pt.U, Pt.locs, Pt.cells, Pt.slots] at X69 l69 y69 z69 st69 hQ69
  subst l69 y69 z69
  obtain ⟨rfl, Nq69, e69⟩ := hQ69
  replace N_ := Fr.app N_ Nq69
  clear Nq69
  refine own_by (T' := T69) (g' := (mkF m 482 #[vI x1, vI x2, vI x3, vR b1, vR b7, vR b18, vR b28, vI 1, vR b38, vI nn, vR b49, vR m1, vR tb_64, vI 1] [(.int 1)])) (fun t k => st69 _ k) ?_
  clear st69 X68 e68
  refine own_by (T' := T69) (g' := (mkF m 485 #[vI x1, vI x2, vI x3, vR b1, vR b7, vR b18, vR b28, vI 1, vR b38, vI nn, vR b49, vR m1, vR tb_64, vI 1] [])) (fun t k => XS.ifNo X69.here hx rfl (hb hby at_482) rfl ((if0 _ _).trans (feq (by decide)).1) k) ?_
  refine own_by (T' := T69) (g' := (mkF m 487 #[vI x1, vI x2, vI x3, vR b1, vR b7, vR b18, vR b28, vI 1, vR b38, vI nn, vR b49, vR m1, vR tb_64, vI 1] [(.ref tb_64)])) (fun t k => XS.aload X69.here hx rfl (hb hby at_485) rfl rfl k) ?_
  refine own_by (T' := T69) (g' := (mkF m 489 #[vI x1, vI x2, vI x3, vR b1, vR b7, vR b18, vR b28, vI 1, vR b38, vI nn, vR b49, vR m1, vR tb_64, vI 1] [(.ref b38), (.ref tb_64)])) (fun t k => XS.aload X69.here hx rfl (hb hby at_487) rfl rfl k) ?_
  refine own_by (T' := T69) (g' := (mkF m 490 #[vI x1, vI x2, vI x3, vR b1, vR b7, vR b18, vR b28, vI 1, vR b38, vI nn, vR b49, vR m1, vR tb_64, vI 1] [(.int 4), (.ref b38), (.ref tb_64)])) (fun t k => XS.iconst X69.here hx rfl (hb hby at_489) k) ?_
  obtain ⟨_, _, ⟨T70, L70, k70, n70⟩, -, X70, ⟨Lc70, hQ70, l70, y70, z70⟩, st70⟩ := Jvm.LawKit.callS X69 hx (y := (⟨"com/example/emu/emu/TableFormFromPrefixPinLaw", "agree", "([I[II)Z"⟩ : MethodName)) hown (mvT hZ (hw _ (own_m 35 rfl))) (mvT hZ (hw _ (own_m 36 rfl))) (mvT hZ (hw _ (own_m 3 rfl))) (mvT hZ (hw _ (own_m 37 rfl))) (by decide) (backOf (W := 0) (rm8_4 l Z a0 hw [] tb_64 b38 nn kb_64 k38 g0_64 g1_64 g2_64 g3_64 g4_64 w0 w1 w2 w3 w4 T64.heap n0 Zle c64_2 V_b38 (GU4)) hZ (hw _ (own_m 37 rfl)) (hw _ (own_m 3 rfl)) (by decide) (by decide)) (g := (mkF m 490 #[vI x1, vI x2, vI x3, vR b1, vR b7, vR b18, vR b28, vI 1, vR b38, vI nn, vR b49, vR m1, vR tb_64, vI 1] [(.int 4), (.ref b38), (.ref tb_64)])) rfl (by rw [hml]; rfl) (argsL := [(.ref tb_64), (.ref b38), (.int 4)]) (rest := []) (lenOf pd_7 rfl) rfl (own_le rfl) (hb hby at_490) (fun _ _ => ⟨rfl, e69, (by decide : 7 + 0 ≤ _), (by decide : 35 + 0 ≤ _)⟩)
  dsimp only [Pt.U, Pt.locs, Pt.cells, Pt.slots] at X70 l70 y70 z70 st70 hQ70
  subst l70 y70 z70
  obtain ⟨rfl, Nq70, e70⟩ := hQ70
  replace N_ := Fr.app N_ Nq70
  clear Nq70
  refine own_by (T' := T70) (g' := (mkF m 493 #[vI x1, vI x2, vI x3, vR b1, vR b7, vR b18, vR b28, vI 1, vR b38, vI nn, vR b49, vR m1, vR tb_64, vI 1] [(.int 1)])) (fun t k => st70 _ k) ?_
  clear st70 X69 e69
  refine own_by (T' := T70) (g' := (mkF m 496 #[vI x1, vI x2, vI x3, vR b1, vR b7, vR b18, vR b28, vI 1, vR b38, vI nn, vR b49, vR m1, vR tb_64, vI 1] [])) (fun t k => XS.ifNo X70.here hx rfl (hb hby at_493) rfl ((if0 _ _).trans (feq (by decide)).1) k) ?_
  refine own_by (T' := T70) (g' := (mkF m 497 #[vI x1, vI x2, vI x3, vR b1, vR b7, vR b18, vR b28, vI 1, vR b38, vI nn, vR b49, vR m1, vR tb_64, vI 1] [(.int 1)])) (fun t k => XS.iconst X70.here hx rfl (hb hby at_496) k) ?_
  refine own_by (T' := T70) (g' := (mkF m 501 #[vI x1, vI x2, vI x3, vR b1, vR b7, vR b18, vR b28, vI 1, vR b38, vI nn, vR b49, vR m1, vR tb_64, vI 1] [(.int 1)])) (fun t k => XS.goto X70.here hx rfl (pc0 := 497) (pc' := 501) rfl (hb hby at_497) (by decide) (by decide) k) ?_
  refine own_by (T' := T70) (g' := (mkF m 503 #[vI x1, vI x2, vI x3, vR b1, vR b7, vR b18, vR b28, vI 1, vR b38, vI nn, vR b49, vR m1, vR tb_64, vI 1] [])) (fun t k => XS.istore X70.here hx rfl (hb hby at_501) rfl (l' := #[vI x1, vI x2, vI x3, vR b1, vR b7, vR b18, vR b28, vI 1, vR b38, vI nn, vR b49, vR m1, vR tb_64, vI 1]) rfl k) ?_
  refine own_by (T' := T70) (g' := (mkF m 505 #[vI x1, vI x2, vI x3, vR b1, vR b7, vR b18, vR b28, vI 1, vR b38, vI nn, vR b49, vR m1, vR tb_64, vI 1] [(.int 1)])) (fun t k => XS.iload X70.here hx rfl (hb hby at_503) rfl k) ?_
  refine own_by (T' := T70) (g' := (mkF m 508 #[vI x1, vI x2, vI x3, vR b1, vR b7, vR b18, vR b28, vI 1, vR b38, vI nn, vR b49, vR m1, vR tb_64, vI 1] [])) (fun t k => XS.ifNo X70.here hx rfl (hb hby at_505) rfl ((if0 _ _).trans (feq (by decide)).1) k) ?_
  refine own_by (T' := T70) (g' := (mkF m 510 #[vI x1, vI x2, vI x3, vR b1, vR b7, vR b18, vR b28, vI 1, vR b38, vI nn, vR b49, vR m1, vR tb_64, vI 1] [(.ref b49)])) (fun t k => XS.aload X70.here hx rfl (hb hby at_508) rfl rfl k) ?_
  refine own_by (T' := T70) (g' := (mkF m 512 #[vI x1, vI x2, vI x3, vR b1, vR b7, vR b18, vR b28, vI 1, vR b38, vI nn, vR b49, vR m1, vR tb_64, vI 1] [(.ref b7), (.ref b49)])) (fun t k => XS.aload X70.here hx rfl (hb hby at_510) rfl rfl k) ?_
  refine own_by (T' := T70) (g' := (mkF m 513 #[vI x1, vI x2, vI x3, vR b1, vR b7, vR b18, vR b28, vI 1, vR b38, vI nn, vR b49, vR m1, vR tb_64, vI 1] [(.int 0), (.ref b7), (.ref b49)])) (fun t k => XS.iconst X70.here hx rfl (hb hby at_512) k) ?_
  obtain ⟨_, _, ⟨T71, L71, k71, n71⟩, -, X71, ⟨Lc71, hQ71, l71, y71, z71⟩, st71⟩ := Jvm.LawKit.callS X70 hx (y := (⟨"com/example/emu/emu/TableFormFromPrefixPinLaw", "agree", "([I[II)Z"⟩ : MethodName)) hown (mvT hZ (hw _ (own_m 35 rfl))) (mvT hZ (hw _ (own_m 36 rfl))) (mvT hZ (hw _ (own_m 3 rfl))) (mvT hZ (hw _ (own_m 37 rfl))) (by decide) (backOf (W := 0) (rm8_0 l Z a0 hw [] b49 b7 nn k49 k7 (0 : Int32) t1 t2 t3 t4 (0 : Int32) t1 t2 t3 t4 T64.heap n0 Zle V_b49 V_b7 (fun _ => rfl)) hZ (hw _ (own_m 37 rfl)) (hw _ (own_m 3 rfl)) (by decide) (by decide)) (g := (mkF m 513 #[vI x1, vI x2, vI x3, vR b1, vR b7, vR b18, vR b28, vI 1, vR b38, vI nn, vR b49, vR m1, vR tb_64, vI 1] [(.int 0), (.ref b7), (.ref b49)])) rfl (by rw [hml]; rfl) (argsL := [(.ref b49), (.ref b7), (.int 0)]) (rest := []) (lenOf pd_7 rfl) rfl (own_le rfl) (hb hby at_513) (fun _ _ => ⟨rfl, e70, (by decide : 7 + 0 ≤ _), (by decide : 35 + 0 ≤ _)⟩)
  dsimp only [Pt.U, Pt.locs, Pt.cells, Pt.slots] at X71 l71 y71 z71 st71 hQ71
  subst l71 y71 z71
  obtain ⟨rfl, Nq71, e71⟩ := hQ71
  replace N_ := Fr.app N_ Nq71
  clear Nq71
  refine own_by (T' := T71) (g' := (mkF m 516 #[vI x1, vI x2, vI x3, vR b1, vR b7, vR b18, vR b28, vI 1, vR b38, vI nn, vR b49, vR m1, vR tb_64, vI 1] [(.int 1)])) (fun t k => st71 _ k) ?_
  clear st71 X70 e70
  refine own_by (T' := T71) (g' := (mkF m 519 #[vI x1, vI x2, vI x3, vR b1, vR b7, vR b18, vR b28, vI 1, vR b38, vI nn, vR b49, vR m1, vR tb_64, vI 1] [])) (fun t k => XS.ifNo X71.here hx rfl (hb hby at_516) rfl ((if0 _ _).trans (feq (by decide)).1) k) ?_
  refine own_by (T' := T71) (g' := (mkF m 521 #[vI x1, vI x2, vI x3, vR b1, vR b7, vR b18, vR b28, vI 1, vR b38, vI nn, vR b49, vR m1, vR tb_64, vI 1] [(.ref b49)])) (fun t k => XS.aload X71.here hx rfl (hb hby at_519) rfl rfl k) ?_
  refine own_by (T' := T71) (g' := (mkF m 523 #[vI x1, vI x2, vI x3, vR b1, vR b7, vR b18, vR b28, vI 1, vR b38, vI nn, vR b49, vR m1, vR tb_64, vI 1] [(.ref b7), (.ref b49)])) (fun t k => XS.aload X71.here hx rfl (hb hby at_521) rfl rfl k) ?_
  refine own_by (T' := T71) (g' := (mkF m 524 #[vI x1, vI x2, vI x3, vR b1, vR b7, vR b18, vR b28, vI 1, vR b38, vI nn, vR b49, vR m1, vR tb_64, vI 1] [(.int 1), (.ref b7), (.ref b49)])) (fun t k => XS.iconst X71.here hx rfl (hb hby at_523) k) ?_
  obtain ⟨_, _, ⟨T72, L72, k72, n72⟩, -, X72, ⟨Lc72, hQ72, l72, y72, z72⟩, st72⟩ := Jvm.LawKit.callS X71 hx (y := (⟨"com/example/emu/emu/TableFormFromPrefixPinLaw", "agree", "([I[II)Z"⟩ : MethodName)) hown (mvT hZ (hw _ (own_m 35 rfl))) (mvT hZ (hw _ (own_m 36 rfl))) (mvT hZ (hw _ (own_m 3 rfl))) (mvT hZ (hw _ (own_m 37 rfl))) (by decide) (backOf (W := 0) (rm8_1 l Z a0 hw [] b49 b7 nn k49 k7 (0 : Int32) t1 t2 t3 t4 (0 : Int32) t1 t2 t3 t4 T64.heap n0 Zle V_b49 V_b7 (fun _ => rfl)) hZ (hw _ (own_m 37 rfl)) (hw _ (own_m 3 rfl)) (by decide) (by decide)) (g := (mkF m 524 #[vI x1, vI x2, vI x3, vR b1, vR b7, vR b18, vR b28, vI 1, vR b38, vI nn, vR b49, vR m1, vR tb_64, vI 1] [(.int 1), (.ref b7), (.ref b49)])) rfl (by rw [hml]; rfl) (argsL := [(.ref b49), (.ref b7), (.int 1)]) (rest := []) (lenOf pd_7 rfl) rfl (own_le rfl) (hb hby at_524) (fun _ _ => ⟨rfl, e71, (by decide : 7 + 0 ≤ _), (by decide : 35 + 0 ≤ _)⟩)
  dsimp only [Pt.U, Pt.locs, Pt.cells, Pt.slots] at X72 l72 y72 z72 st72 hQ72
  subst l72 y72 z72
  obtain ⟨rfl, Nq72, e72⟩ := hQ72
  replace N_ := Fr.app N_ Nq72
  clear Nq72
  refine own_by (T' := T72) (g' := (mkF m 527 #[vI x1, vI x2, vI x3, vR b1, vR b7, vR b18, vR b28, vI 1, vR b38, vI nn, vR b49, vR m1, vR tb_64, vI 1] [(.int 1)])) (fun t k => st72 _ k) ?_
  clear st72 X71 e71
  refine own_by (T' := T72) (g' := (mkF m 530 #[vI x1, vI x2, vI x3, vR b1, vR b7, vR b18, vR b28, vI 1, vR b38, vI nn, vR b49, vR m1, vR tb_64, vI 1] [])) (fun t k => XS.ifNo X72.here hx rfl (hb hby at_527) rfl ((if0 _ _).trans (feq (by decide)).1) k) ?_
  refine own_by (T' := T72) (g' := (mkF m 532 #[vI x1, vI x2, vI x3, vR b1, vR b7, vR b18, vR b28, vI 1, vR b38, vI nn, vR b49, vR m1, vR tb_64, vI 1] [(.ref b49)])) (fun t k => XS.aload X72.here hx rfl (hb hby at_530) rfl rfl k) ?_
  refine own_by (T' := T72) (g' := (mkF m 534 #[vI x1, vI x2, vI x3, vR b1, vR b7, vR b18, vR b28, vI 1, vR b38, vI nn, vR b49, vR m1, vR tb_64, vI 1] [(.ref b7), (.ref b49)])) (fun t k => XS.aload X72.here hx rfl (hb hby at_532) rfl rfl k) ?_
  refine own_by (T' := T72) (g' := (mkF m 535 #[vI x1, vI x2, vI x3, vR b1, vR b7, vR b18, vR b28, vI 1, vR b38, vI nn, vR b49, vR m1, vR tb_64, vI 1] [(.int 2), (.ref b7), (.ref b49)])) (fun t k => XS.iconst X72.here hx rfl (hb hby at_534) k) ?_
  obtain ⟨_, _, ⟨T73, L73, k73, n73⟩, -, X73, ⟨Lc73, hQ73, l73, y73, z73⟩, st73⟩ := Jvm.LawKit.callS X72 hx (y := (⟨"com/example/emu/emu/TableFormFromPrefixPinLaw", "agree", "([I[II)Z"⟩ : MethodName)) hown (mvT hZ (hw _ (own_m 35 rfl))) (mvT hZ (hw _ (own_m 36 rfl))) (mvT hZ (hw _ (own_m 3 rfl))) (mvT hZ (hw _ (own_m 37 rfl))) (by decide) (backOf (W := 0) (rm8_2 l Z a0 hw [] b49 b7 nn k49 k7 (0 : Int32) t1 t2 t3 t4 (0 : Int32) t1 t2 t3 t4 T64.heap n0 Zle V_b49 V_b7 (fun _ => rfl)) hZ (hw _ (own_m 37 rfl)) (hw _ (own_m 3 rfl)) (by decide) (by decide)) (g := (mkF m 535 #[vI x1, vI x2, vI x3, vR b1, vR b7, vR b18, vR b28, vI 1, vR b38, vI nn, vR b49, vR m1, vR tb_64, vI 1] [(.int 2), (.ref b7), (.ref b49)])) rfl (by rw [hml]; rfl) (argsL := [(.ref b49), (.ref b7), (.int 2)]) (rest := []) (lenOf pd_7 rfl) rfl (own_le rfl) (hb hby at_535) (fun _ _ => ⟨rfl, e72, (by decide : 7 + 0 ≤ _), (by decide : 35 + 0 ≤ _)⟩)
  dsimp only [Pt.U, Pt.locs, Pt.cells, Pt.slots] at X73 l73 y73 z73 st73 hQ73
  subst l73 y73 z73
  obtain ⟨rfl, Nq73, e73⟩ := hQ73
  replace N_ := Fr.app N_ Nq73
  clear Nq73
  refine own_by (T' := T73) (g' := (mkF m 538 #[vI x1, vI x2, vI x3, vR b1, vR b7, vR b18, vR b28, vI 1, vR b38, vI nn, vR b49, vR m1, vR tb_64, vI 1] [(.int 1)])) (fun t k => st73 _ k) ?_
  clear st73 X72 e72
  refine own_by (T' := T73) (g' := (mkF m 541 #[vI x1, vI x2, vI x3, vR b1, vR b7, vR b18, vR b28, vI 1, vR b38, vI nn, vR b49, vR m1, vR tb_64, vI 1] [])) (fun t k => XS.ifNo X73.here hx rfl (hb hby at_538) rfl ((if0 _ _).trans (feq (by decide)).1) k) ?_
  refine own_by (T' := T73) (g' := (mkF m 543 #[vI x1, vI x2, vI x3, vR b1, vR b7, vR b18, vR b28, vI 1, vR b38, vI nn, vR b49, vR m1, vR tb_64, vI 1] [(.ref b49)])) (fun t k => XS.aload X73.here hx rfl (hb hby at_541) rfl rfl k) ?_
  refine own_by (T' := T73) (g' := (mkF m 545 #[vI x1, vI x2, vI x3, vR b1, vR b7, vR b18, vR b28, vI 1, vR b38, vI nn, vR b49, vR m1, vR tb_64, vI 1] [(.ref b7), (.ref b49)])) (fun t k => XS.aload X73.here hx rfl (hb hby at_543) rfl rfl k) ?_
  refine own_by (T' := T73) (g' := (mkF m 546 #[vI x1, vI x2, vI x3, vR b1, vR b7, vR b18, vR b28, vI 1, vR b38, vI nn, vR b49, vR m1, vR tb_64, vI 1] [(.int 3), (.ref b7), (.ref b49)])) (fun t k => XS.iconst X73.here hx rfl (hb hby at_545) k) ?_
  obtain ⟨_, _, ⟨T74, L74, k74, n74⟩, -, X74, ⟨Lc74, hQ74, l74, y74, z74⟩, st74⟩ := Jvm.LawKit.callS X73 hx (y := (⟨"com/example/emu/emu/TableFormFromPrefixPinLaw", "agree", "([I[II)Z"⟩ : MethodName)) hown (mvT hZ (hw _ (own_m 35 rfl))) (mvT hZ (hw _ (own_m 36 rfl))) (mvT hZ (hw _ (own_m 3 rfl))) (mvT hZ (hw _ (own_m 37 rfl))) (by decide) (backOf (W := 0) (rm8_3 l Z a0 hw [] b49 b7 nn k49 k7 (0 : Int32) t1 t2 t3 t4 (0 : Int32) t1 t2 t3 t4 T64.heap n0 Zle V_b49 V_b7 (fun _ => rfl)) hZ (hw _ (own_m 37 rfl)) (hw _ (own_m 3 rfl)) (by decide) (by decide)) (g := (mkF m 546 #[vI x1, vI x2, vI x3, vR b1, vR b7, vR b18, vR b28, vI 1, vR b38, vI nn, vR b49, vR m1, vR tb_64, vI 1] [(.int 3), (.ref b7), (.ref b49)])) rfl (by rw [hml]; rfl) (argsL := [(.ref b49), (.ref b7), (.int 3)]) (rest := []) (lenOf pd_7 rfl) rfl (own_le rfl) (hb hby at_546) (fun _ _ => ⟨rfl, e73, (by decide : 7 + 0 ≤ _), (by decide : 35 + 0 ≤ _)⟩)
  dsimp only [Pt.U, Pt.locs, Pt.cells, Pt.slots] at X74 l74 y74 z74 st74 hQ74
  subst l74 y74 z74
  obtain ⟨rfl, Nq74, e74⟩ := hQ74
  replace N_ := Fr.app N_ Nq74
  clear Nq74
  refine own_by (T' := T74) (g' := (mkF m 549 #[vI x1, vI x2, vI x3, vR b1, vR b7, vR b18, vR b28, vI 1, vR b38, vI nn, vR b49, vR m1, vR tb_64, vI 1] [(.int 1)])) (fun t k => st74 _ k) ?_
  clear st74 X73 e73
  refine own_by (T' := T74) (g' := (mkF m 552 #[vI x1, vI x2, vI x3, vR b1, vR b7, vR b18, vR b28, vI 1, vR b38, vI nn, vR b49, vR m1, vR tb_64, vI 1] [])) (fun t k => XS.ifNo X74.here hx rfl (hb hby at_549) rfl ((if0 _ _).trans (feq (by decide)).1) k) ?_
  refine own_by (T' := T74) (g' := (mkF m 554 #[vI x1, vI x2, vI x3, vR b1, vR b7, vR b18, vR b28, vI 1, vR b38, vI nn, vR b49, vR m1, vR tb_64, vI 1] [(.ref b49)])) (fun t k => XS.aload X74.here hx rfl (hb hby at_552) rfl rfl k) ?_
  refine own_by (T' := T74) (g' := (mkF m 556 #[vI x1, vI x2, vI x3, vR b1, vR b7, vR b18, vR b28, vI 1, vR b38, vI nn, vR b49, vR m1, vR tb_64, vI 1] [(.ref b7), (.ref b49)])) (fun t k => XS.aload X74.here hx rfl (hb hby at_554) rfl rfl k) ?_
  refine own_by (T' := T74) (g' := (mkF m 557 #[vI x1, vI x2, vI x3, vR b1, vR b7, vR b18, vR b28, vI 1, vR b38, vI nn, vR b49, vR m1, vR tb_64, vI 1] [(.int 4), (.ref b7), (.ref b49)])) (fun t k => XS.iconst X74.here hx rfl (hb hby at_556) k) ?_
  obtain ⟨_, _, ⟨T75, L75, k75, n75⟩, -, X75, ⟨Lc75, hQ75, l75, y75, z75⟩, st75⟩ := Jvm.LawKit.callS X74 hx (y := (⟨"com/example/emu/emu/TableFormFromPrefixPinLaw", "agree", "([I[II)Z"⟩ : MethodName)) hown (mvT hZ (hw _ (own_m 35 rfl))) (mvT hZ (hw _ (own_m 36 rfl))) (mvT hZ (hw _ (own_m 3 rfl))) (mvT hZ (hw _ (own_m 37 rfl))) (by decide) (backOf (W := 0) (rm8_4 l Z a0 hw [] b49 b7 nn k49 k7 (0 : Int32) t1 t2 t3 t4 (0 : Int32) t1 t2 t3 t4 T64.heap n0 Zle V_b49 V_b7 (fun _ => rfl)) hZ (hw _ (own_m 37 rfl)) (hw _ (own_m 3 rfl)) (by decide) (by decide)) (g := (mkF m 557 #[vI x1, vI x2, vI x3, vR b1, vR b7, vR b18, vR b28, vI 1, vR b38, vI nn, vR b49, vR m1, vR tb_64, vI 1] [(.int 4), (.ref b7), (.ref b49)])) rfl (by rw [hml]; rfl) (argsL := [(.ref b49), (.ref b7), (.int 4)]) (rest := []) (lenOf pd_7 rfl) rfl (own_le rfl) (hb hby at_557) (fun _ _ => ⟨rfl, e74, (by decide : 7 + 0 ≤ _), (by decide : 35 + 0 ≤ _)⟩)
  dsimp only [Pt.U, Pt.locs, Pt.cells, Pt.slots] at X75 l75 y75 z75 st75 hQ75
  subst l75 y75 z75
  obtain ⟨rfl, Nq75, e75⟩ := hQ75
  replace N_ := Fr.app N_ Nq75
  clear Nq75
  refine own_by (T' := T75) (g' := (mkF m 560 #[vI x1, vI x2, vI x3, vR b1, vR b7, vR b18, vR b28, vI 1, vR b38, vI nn, vR b49, vR m1, vR tb_64, vI 1] [(.int 1)])) (fun t k => st75 _ k) ?_
  clear st75 X74 e74
  refine own_by (T' := T75) (g' := (mkF m 563 #[vI x1, vI x2, vI x3, vR b1, vR b7, vR b18, vR b28, vI 1, vR b38, vI nn, vR b49, vR m1, vR tb_64, vI 1] [])) (fun t k => XS.ifNo X75.here hx rfl (hb hby at_560) rfl ((if0 _ _).trans (feq (by decide)).1) k) ?_
  refine own_by (T' := T75) (g' := (mkF m 564 #[vI x1, vI x2, vI x3, vR b1, vR b7, vR b18, vR b28, vI 1, vR b38, vI nn, vR b49, vR m1, vR tb_64, vI 1] [(.int 1)])) (fun t k => XS.iconst X75.here hx rfl (hb hby at_563) k) ?_
  refine own_by (T' := T75) (g' := (mkF m 568 #[vI x1, vI x2, vI x3, vR b1, vR b7, vR b18, vR b28, vI 1, vR b38, vI nn, vR b49, vR m1, vR tb_64, vI 1] [(.int 1)])) (fun t k => XS.goto X75.here hx rfl (pc0 := 564) (pc' := 568) rfl (hb hby at_564) (by decide) (by decide) k) ?_
  refine own_by (T' := T75) (g' := (mkF m 570 #[vI x1, vI x2, vI x3, vR b1, vR b7, vR b18, vR b28, vI 1, vR b38, vI nn, vR b49, vR m1, vR tb_64, vI 1] [])) (fun t k => XS.istore X75.here hx rfl (hb hby at_568) rfl (l' := #[vI x1, vI x2, vI x3, vR b1, vR b7, vR b18, vR b28, vI 1, vR b38, vI nn, vR b49, vR m1, vR tb_64, vI 1]) rfl k) ?_
  refine own_by (T' := T75) (g' := (mkF m 572 #[vI x1, vI x2, vI x3, vR b1, vR b7, vR b18, vR b28, vI 1, vR b38, vI nn, vR b49, vR m1, vR tb_64, vI 1] [(.int 1)])) (fun t k => XS.iload X75.here hx rfl (hb hby at_570) rfl k) ?_
  exact own_retN X75 hx (t := .boolean) hlk hret (by simp) (hb hby at_572) (by decide) (by decide) (by rw [e75]; exact ⟨rfl, N_⟩)
set_option maxRecDepth 65536 in
set_option maxHeartbeats 40000000 in
theorem own_c372_2 (l : Launch) (Z : State) (a0 : Array Value) (hw : ∀ d ∈ tables_1, d.before a0 Z = true) {p : Program} {e : Env} {s : State} {m : MethodId} {below : List Frame} {meth : Method} {c : Code} (hx : p.tables.exec = Jvm.exec) (hby : c.code = code) (hml : c.maxLocals = 14) (hlk : meth.locks = false) (hret : meth.sig.returnType = ret) (x1 : Int32) (x2 : Int32) (x3 : Int32) (m0 : Addr) (m1 : Addr) (m2 : Addr) (m3 : Addr) (h0 : Heap) (n0 : Nat) (b1 : Addr) (k1 : ClassId) (c0 : Int32) (c1 : Int32) (c2 : Int32) (c3 : Int32) (c4 : Int32) (b7 : Addr) (k7 : ClassId) (t1 : Int32) (t2 : Int32) (t3 : Int32) (t4 : Int32) (b18 : Addr) (k18 : ClassId) (b28 : Addr) (k28 : ClassId) (u1 : Int32) (u2 : Int32) (u3 : Int32) (u4 : Int32) (b38 : Addr) (k38 : ClassId) (w0 : Int32) (w1 : Int32) (w2 : Int32) (w3 : Int32) (w4 : Int32) (nn : Int32) (b49 : Addr) (k49 : ClassId) {Tj : State} {hj : Heap} {locsj : List Loc}
    (hZ : Z.Warmed39 s.vm) (hown : s.vm.findClass "com/example/emu/emu/TableFormFromPrefixPinLaw" = some m.cls) (Xj : Stand p l e room_1 s m #[(.int x1), (.int x2), (.int x3)] below meth c Tj locsj 6 30) (ej : Tj.heap = hj)
    (E_m2 : Exa Z hj m2 "com/example/emu/emu/TableForm") (S_NEXT_ONE_BASED : Sta Z hj "com/example/emu/emu/TableForm" "NEXT_ONE_BASED" "Lcom/example/emu/emu/TableForm;" (.ref m2)) (E_m3 : Exa Z hj m3 "com/example/emu/emu/TableForm") (S_NEXTVAL : Sta Z hj "com/example/emu/emu/TableForm" "NEXTVAL" "Lcom/example/emu/emu/TableForm;" (.ref m3)) (E_m1 : Exa Z hj m1 "com/example/emu/emu/TableForm") (S_NEXT : Sta Z hj "com/example/emu/emu/TableForm" "NEXT" "Lcom/example/emu/emu/TableForm;" (.ref m1)) (E_m0 : Exa Z hj m0 "com/example/emu/emu/TableForm") (S_PREFIX : Sta Z hj "com/example/emu/emu/TableForm" "PREFIX" "Lcom/example/emu/emu/TableForm;" (.ref m0)) (F_ordinal_m2 : Fld Z hj m2 "java/lang/Enum" "ordinal" "I" (.int 2)) (F_ordinal_m3 : Fld Z hj m3 "java/lang/Enum" "ordinal" "I" (.int 3)) (F_ordinal_m1 : Fld Z hj m1 "java/lang/Enum" "ordinal" "I" (.int 1)) (F_ordinal_m0 : Fld Z hj m0 "java/lang/Enum" "ordinal" "I" (.int 0)) (Zle : n0 ≤ hj.size) (N_ : Fr n0 locsj) (ne_m2_b1 : m2 ≠ b1) (ne_m3_b1 : m3 ≠ b1) (ne_m1_b1 : m1 ≠ b1) (ne_m0_b1 : m0 ≠ b1) (g_b1 : n0 ≤ b1) (ne_m2_b7 : m2 ≠ b7) (ne_m3_b7 : m3 ≠ b7) (ne_m1_b7 : m1 ≠ b7) (ne_m0_b7 : m0 ≠ b7) (ne_b1_b7 : b1 ≠ b7) (g_b7 : n0 ≤ b7) (ne_m2_b18 : m2 ≠ b18) (ne_m3_b18 : m3 ≠ b18) (ne_m1_b18 : m1 ≠ b18) (ne_m0_b18 : m0 ≠ b18) (ne_b1_b18 : b1 ≠ b18) (ne_b7_b18 : b7 ≠ b18) (g_b18 : n0 ≤ b18) (ne_m2_b28 : m2 ≠ b28) (ne_m3_b28 : m3 ≠ b28) (ne_m1_b28 : m1 ≠ b28) (ne_m0_b28 : m0 ≠ b28) (ne_b1_b28 : b1 ≠ b28) (ne_b7_b28 : b7 ≠ b28) (ne_b18_b28 : b18 ≠ b28) (g_b28 : n0 ≤ b28) (ne_m2_b38 : m2 ≠ b38) (ne_m3_b38 : m3 ≠ b38) (ne_m1_b38 : m1 ≠ b38) (ne_m0_b38 : m0 ≠ b38) (ne_b1_b38 : b1 ≠ b38) (ne_b7_b38 : b7 ≠ b38) (ne_b18_b38 : b18 ≠ b38) (ne_b28_b38 : b28 ≠ b38) (g_b38 : n0 ≤ b38) (ne_m2_b49 : m2 ≠ b49) (ne_m3_b49 : m3 ≠ b49) (ne_m1_b49 : m1 ≠ b49) (ne_m0_b49 : m0 ≠ b49) (ne_b1_b49 : b1 ≠ b49) (ne_b7_b49 : b7 ≠ b49) (ne_b18_b49 : b18 ≠ b49) (ne_b28_b49 : b28 ≠ b49) (ne_b38_b49 : b38 ≠ b49) (g_b49 : n0 ≤ b49) (V_b49 : Arv Z hj b49 k49 .int nn [(.int 0), (.int t1), (.int t2), (.int t3), (.int t4)] (.int 0)) (V_b7 : Arv Z hj b7 k7 .int (5 : Int32) [(.int 0), (.int t1), (.int t2), (.int t3), (.int t4)] (.int 0)) (V_b38 : Arv Z hj b38 k38 .int (5 : Int32) [(.int w0), (.int w1), (.int w2), (.int w3), (.int w4)] (.int 0)) (e_c0 : c0 = (x1 &&& (3 : Int32))) (e_c1 : c1 = (((x1.toUInt32 >>> ((2 : Int32) &&& 31).toUInt32).toInt32) &&& (3 : Int32))) (e_c2 : c2 = (((x1.toUInt32 >>> ((4 : Int32) &&& 31).toUInt32).toInt32) &&& (3 : Int32))) (e_c3 : c3 = (((x1.toUInt32 >>> ((6 : Int32) &&& 31).toUInt32).toInt32) &&& (3 : Int32))) (e_c4 : c4 = (((x1.toUInt32 >>> ((8 : Int32) &&& 31).toUInt32).toInt32) &&& (3 : Int32))) (e_t1 : t1 = (own_bd1 c0 c1 c2 c3 c4)) (HB1 : own_B1 c0 c1 t1) (hr1 : t1 = 0 ∨ t1 = 1) (e_t2 : t2 = (own_bd2 c0 c1 c2 c3 c4)) (HB2 : own_B2 c0 c1 c2 t2) (hr2 : t2 = 0 ∨ t2 = 1 ∨ t2 = 2) (e_t3 : t3 = (own_bd3 c0 c1 c2 c3 c4)) (HB3 : own_B3 c0 c1 c2 c3 t3) (hr3 : t3 = 0 ∨ t3 = 1 ∨ t3 = 2 ∨ t3 = 3) (e_t4 : t4 = (own_bd4 c0 c1 c2 c3 c4)) (HB4 : own_B4 c0 c1 c2 c3 c4 t4) (hr4 : t4 = 0 ∨ t4 = 1 ∨ t4 = 2 ∨ t4 = 3 ∨ t4 = 4) (e_u1 : u1 = (own_nvs c1 (0 : Int32) c0 c1 c2 c3 c4 (-1 : Int32) (0 : Int32) (0 : Int32) (0 : Int32) (0 : Int32))) (e_u2 : u2 = (own_nvs c2 t1 c0 c1 c2 c3 c4 (-1 : Int32) u1 (0 : Int32) (0 : Int32) (0 : Int32))) (e_u3 : u3 = (own_nvs c3 t2 c0 c1 c2 c3 c4 (-1 : Int32) u1 u2 (0 : Int32) (0 : Int32))) (e_u4 : u4 = (own_nvs c4 t3 c0 c1 c2 c3 c4 (-1 : Int32) u1 u2 u3 (0 : Int32))) (e_w0 : w0 = (own_pick (2 : Int32) (0 : Int32) (-1 : Int32) (-1 : Int32))) (e_w1 : w1 = (own_pick (2 : Int32) t1 (0 : Int32) u1)) (e_w2 : w2 = (own_pick (2 : Int32) t2 t1 u2)) (e_w3 : w3 = (own_pick (2 : Int32) t3 t2 u3)) (e_w4 : w4 = (own_pick (2 : Int32) t4 t3 u4)) (e_nn : nn = ((x2 &&& (7 : Int32)) % (6 : Int32))) (hn0 : ¬ nn < 0) (hn5 : nn.toNatClampNeg ≤ 5) (hn6 : nn < 6) : own_Goes p.tables e below s (Q0 Z x1 x2 x3 m0 m1 m2 m3 h0 n0) room_1.cells room_1.slots Tj (mkF m 372 #[vI x1, vI x2, vI x3, vR b1, vR b7, vR b18, vR b28, vI 2, vR b38, vI nn, vR b49, .unset, .unset, .unset] []) := by
  refine own_by (T' := Tj) (g' := (mkF m 374 #[vI x1, vI x2, vI x3, vR b1, vR b7, vR b18, vR b28, vI 2, vR b38, vI nn, vR b49, .unset, .unset, .unset] [(.int 2)])) (fun t k => XS.iload Xj.here hx rfl (hb hby at_372) rfl k) ?_
  refine own_by (T' := Tj) (g' := (mkF m 383 #[vI x1, vI x2, vI x3, vR b1, vR b7, vR b18, vR b28, vI 2, vR b38, vI nn, vR b49, .unset, .unset, .unset] [])) (fun t k => XS.ifYes Xj.here hx rfl (pc0 := 374) (pc' := 383) rfl (hb hby at_374) rfl ((if0 _ _).trans (feq (by decide)).2) (by decide) (by decide) k) ?_
  refine own_by (T' := Tj) (g' := (mkF m 385 #[vI x1, vI x2, vI x3, vR b1, vR b7, vR b18, vR b28, vI 2, vR b38, vI nn, vR b49, .unset, .unset, .unset] [(.int 2)])) (fun t k => XS.iload Xj.here hx rfl (hb hby at_383) rfl k) ?_
  refine own_by (T' := Tj) (g' := (mkF m 386 #[vI x1, vI x2, vI x3, vR b1, vR b7, vR b18, vR b28, vI 2, vR b38, vI nn, vR b49, .unset, .unset, .unset] [(.int 1), (.int 2)])) (fun t k => XS.iconst Xj.here hx rfl (hb hby at_385) k) ?_
  refine own_by (T' := Tj) (g' := (mkF m 395 #[vI x1, vI x2, vI x3, vR b1, vR b7, vR b18, vR b28, vI 2, vR b38, vI nn, vR b49, .unset, .unset, .unset] [])) (fun t k => XS.icmpYes Xj.here hx rfl (pc0 := 386) (pc' := 395) rfl (hb hby at_386) rfl (feq (by decide)).2 (by decide) (by decide) k) ?_
  refine own_by (T' := Tj) (g' := (mkF m 397 #[vI x1, vI x2, vI x3, vR b1, vR b7, vR b18, vR b28, vI 2, vR b38, vI nn, vR b49, .unset, .unset, .unset] [(.int 2)])) (fun t k => XS.iload Xj.here hx rfl (hb hby at_395) rfl k) ?_
  refine own_by (T' := Tj) (g' := (mkF m 398 #[vI x1, vI x2, vI x3, vR b1, vR b7, vR b18, vR b28, vI 2, vR b38, vI nn, vR b49, .unset, .unset, .unset] [(.int 2), (.int 2)])) (fun t k => XS.iconst Xj.here hx rfl (hb hby at_397) k) ?_
  refine own_by (T' := Tj) (g' := (mkF m 401 #[vI x1, vI x2, vI x3, vR b1, vR b7, vR b18, vR b28, vI 2, vR b38, vI nn, vR b49, .unset, .unset, .unset] [])) (fun t k => XS.icmpNo Xj.here hx rfl (hb hby at_398) rfl (teq (by decide)).2 k) ?_
  obtain ⟨T76, X76, e76, st76⟩ := getS2 Xj hx hZ hown (host := "") (Or.inl (hw _ (own_m 14 rfl))) Via.refl ej S_NEXT_ONE_BASED (g := (mkF m 401 #[vI x1, vI x2, vI x3, vR b1, vR b7, vR b18, vR b28, vI 2, vR b38, vI nn, vR b49, .unset, .unset, .unset] [])) rfl (hb hby at_401)
  refine own_by (T' := T76) (g' := (mkF m 404 #[vI x1, vI x2, vI x3, vR b1, vR b7, vR b18, vR b28, vI 2, vR b38, vI nn, vR b49, .unset, .unset, .unset] [(.ref m2)])) (fun t k => st76 t k) ?_
  clear st76
  refine own_by (T' := T76) (g' := (mkF m 410 #[vI x1, vI x2, vI x3, vR b1, vR b7, vR b18, vR b28, vI 2, vR b38, vI nn, vR b49, .unset, .unset, .unset] [(.ref m2)])) (fun t k => XS.goto X76.here hx rfl (pc0 := 404) (pc' := 410) rfl (hb hby at_404) (by decide) (by decide) k) ?_
  refine own_by (T' := T76) (g' := (mkF m 412 #[vI x1, vI x2, vI x3, vR b1, vR b7, vR b18, vR b28, vI 2, vR b38, vI nn, vR b49, vR m2, .unset, .unset] [])) (fun t k => XS.astore X76.here hx rfl (hb hby at_410) rfl rfl (l' := #[vI x1, vI x2, vI x3, vR b1, vR b7, vR b18, vR b28, vI 2, vR b38, vI nn, vR b49, vR m2, .unset, .unset]) rfl k) ?_
  refine own_by (T' := T76) (g' := (mkF m 414 #[vI x1, vI x2, vI x3, vR b1, vR b7, vR b18, vR b28, vI 2, vR b38, vI nn, vR b49, vR m2, .unset, .unset] [(.ref m2)])) (fun t k => XS.aload X76.here hx rfl (hb hby at_412) rfl rfl k) ?_
  refine own_by (T' := T76) (g' := (mkF m 416 #[vI x1, vI x2, vI x3, vR b1, vR b7, vR b18, vR b28, vI 2, vR b38, vI nn, vR b49, vR m2, .unset, .unset] [(.ref b49), (.ref m2)])) (fun t k => XS.aload X76.here hx rfl (hb hby at_414) rfl rfl k) ?_
  have lt_m2_77 := E_m2.lt
  have lt_m3_77 := E_m3.lt
  have lt_m1_77 := E_m1.lt
  have lt_m0_77 := E_m0.lt
  have lt_b49_77 := V_b49.lt
  have lt_b7_77 := V_b7.lt
  have lt_b38_77 := V_b38.lt
  have Zpre77 := Zle
  obtain ⟨cq77, kq77, q77a, q77b, q77c⟩ := isOf hZ e76 E_m2
  obtain ⟨_, _, ⟨T77, L77, k77, n77⟩, -, X77, ⟨Lc77, hQ77, l77, y77, z77⟩, st77⟩ := X76.virtualBack hx (y := (⟨"com/example/emu/emu/TableForm", "fromPrefix", "([I)[I"⟩ : MethodName)) (z := (⟨"com/example/emu/emu/TableForm", "fromPrefix", "([I)[I"⟩ : MethodName)) hown (mvT hZ (hw _ (own_m 17 rfl))) (mvT hZ (hw _ (own_m 18 rfl))) (notFace_of_selects (args := #[]) (mvT hZ (hw _ (own_m 20 rfl)))) (mvT hZ (hw _ (own_m 20 rfl))) (mvT hZ (hw _ (own_m 19 rfl))) (by decide) (backOf (W := 0) (rm5 l Z a0 hw [] m2 b49 nn (2 : Int32) k49 (0 : Int32) t1 t2 t3 t4 hj n0 Zle E_m2 F_ordinal_m2 V_b49 (hn0) (hn5) (hn6) (by decide) (rfl) (hr1) (hr2) (hr3)) hZ (hw _ (own_m 21 rfl)) (hw _ (own_m 15 rfl)) (by decide) (by decide)) q77a q77c (g := (mkF m 416 #[vI x1, vI x2, vI x3, vR b1, vR b7, vR b18, vR b28, vI 2, vR b38, vI nn, vR b49, vR m2, .unset, .unset] [(.ref b49), (.ref m2)])) rfl (by rw [hml]; rfl) (Steps.refl _) (argsL := [(.ref b49)]) (rest := []) (lenOf pd_4 rfl) rfl (own_le rfl) (hb hby at_416) (fun _ _ => ⟨rfl, e76, (by decide : 6 + 1 ≤ _), (by decide : 30 + 5 ≤ _)⟩)
  dsimp only [Pt.U, Pt.locs, Pt.cells, Pt.slots] at X77 l77 y77 z77 st77 hQ77
  subst l77 y77 z77
  obtain ⟨tb_77, g0_77, g1_77, g2_77, g3_77, g4_77, kb_77, rfl, Nq77, c77_0, c77_1, c77_2, c77_3, c77_4, c77_5, c77_6, c77_7⟩ := hQ77
  replace N_ := Fr.app N_ Nq77
  clear Nq77
  replace S_NEXT_ONE_BASED := own_staKeep S_NEXT_ONE_BASED c77_0 all0
  replace S_NEXTVAL := own_staKeep S_NEXTVAL c77_0 all0
  replace S_NEXT := own_staKeep S_NEXT c77_0 all0
  replace S_PREFIX := own_staKeep S_PREFIX c77_0 all0
  replace E_m2 := E_m2.keep c77_0
  replace E_m3 := E_m3.keep c77_0
  replace E_m1 := E_m1.keep c77_0
  replace E_m0 := E_m0.keep c77_0
  replace F_ordinal_m2 := F_ordinal_m2.keep c77_0 nin0
  replace F_ordinal_m3 := F_ordinal_m3.keep c77_0 nin0
  replace F_ordinal_m1 := F_ordinal_m1.keep c77_0 nin0
  replace F_ordinal_m0 := F_ordinal_m0.keep c77_0 nin0
  replace Zle := Nat.le_trans Zle c77_0.1
  replace V_b49 := V_b49.keep c77_0 nin0
  replace V_b7 := V_b7.keep c77_0 nin0
  replace V_b38 := V_b38.keep c77_0 nin0
  have ne_m2_tb_77 : m2 ≠ tb_77 := Nat.ne_of_lt (Nat.lt_of_lt_of_le lt_m2_77 c77_1)
  have ne_m3_tb_77 : m3 ≠ tb_77 := Nat.ne_of_lt (Nat.lt_of_lt_of_le lt_m3_77 c77_1)
  have ne_m1_tb_77 : m1 ≠ tb_77 := Nat.ne_of_lt (Nat.lt_of_lt_of_le lt_m1_77 c77_1)
  have ne_m0_tb_77 : m0 ≠ tb_77 := Nat.ne_of_lt (Nat.lt_of_lt_of_le lt_m0_77 c77_1)
  have ne_b49_tb_77 : b49 ≠ tb_77 := Nat.ne_of_lt (Nat.lt_of_lt_of_le lt_b49_77 c77_1)
  have ne_b7_tb_77 : b7 ≠ tb_77 := Nat.ne_of_lt (Nat.lt_of_lt_of_le lt_b7_77 c77_1)
  have ne_b38_tb_77 : b38 ≠ tb_77 := Nat.ne_of_lt (Nat.lt_of_lt_of_le lt_b38_77 c77_1)
  have g_tb_77 : n0 ≤ tb_77 := Nat.le_trans Zpre77 c77_1
  have HG0 := c77_3
  have HG1 := c77_4
  have HG2 := c77_5
  have HG3 := c77_6
  have HG4 := c77_7
  clear lt_m2_77 lt_m3_77 lt_m1_77 lt_m0_77 lt_b49_77 lt_b7_77 lt_b38_77
  refine own_by (T' := T77) (g' := (mkF m 419 #[vI x1, vI x2, vI x3, vR b1, vR b7, vR b18, vR b28, vI 2, vR b38, vI nn, vR b49, vR m2, .unset, .unset] [(.ref tb_77)])) (fun t k => st77.trans k) ?_
  clear st77 X76 e76
  refine own_by (T' := T77) (g' := (mkF m 421 #[vI x1, vI x2, vI x3, vR b1, vR b7, vR b18, vR b28, vI 2, vR b38, vI nn, vR b49, vR m2, vR tb_77, .unset] [])) (fun t k => XS.astore X77.here hx rfl (hb hby at_419) rfl rfl (l' := #[vI x1, vI x2, vI x3, vR b1, vR b7, vR b18, vR b28, vI 2, vR b38, vI nn, vR b49, vR m2, vR tb_77, .unset]) rfl k) ?_
  refine own_by (T' := T77) (g' := (mkF m 423 #[vI x1, vI x2, vI x3, vR b1, vR b7, vR b18, vR b28, vI 2, vR b38, vI nn, vR b49, vR m2, vR tb_77, .unset] [(.ref tb_77)])) (fun t k => XS.aload X77.here hx rfl (hb hby at_421) rfl rfl k) ?_
  obtain ⟨cl78, Ar78, -, S78, N78, -, -⟩ := id c77_2
  have st78 : ∀ t, Steps p.tables e below (T77.setTop (mkF m 424 #[vI x1, vI x2, vI x3, vR b1, vR b7, vR b18, vR b28, vI 2, vR b38, vI nn, vR b49, vR m2, vR tb_77, .unset] [(.int nn)])) t → Steps p.tables e below (T77.setTop (mkF m 423 #[vI x1, vI x2, vI x3, vR b1, vR b7, vR b18, vR b28, vI 2, vR b38, vI nn, vR b49, vR m2, vR tb_77, .unset] [(.ref tb_77)])) t := fun t k => X77.arraylength hx (by exact Ar78.1) (State.isArrayOf_alike hZ.alike Ar78.2.1) (g := (mkF m 423 #[vI x1, vI x2, vI x3, vR b1, vR b7, vR b18, vR b28, vI 2, vR b38, vI nn, vR b49, vR m2, vR tb_77, .unset] [(.ref tb_77)])) rfl rfl (hb hby at_423) _ (by rw [len_of S78 N78]; exact k)
  refine own_by (T' := T77) (g' := (mkF m 424 #[vI x1, vI x2, vI x3, vR b1, vR b7, vR b18, vR b28, vI 2, vR b38, vI nn, vR b49, vR m2, vR tb_77, .unset] [(.int nn)])) (fun t k => st78 t k) ?_
  clear st78
  refine own_by (T' := T77) (g' := (mkF m 426 #[vI x1, vI x2, vI x3, vR b1, vR b7, vR b18, vR b28, vI 2, vR b38, vI nn, vR b49, vR m2, vR tb_77, .unset] [(.int nn), (.int nn)])) (fun t k => XS.iload X77.here hx rfl (hb hby at_424) rfl k) ?_
  refine own_by (T' := T77) (g' := (mkF m 429 #[vI x1, vI x2, vI x3, vR b1, vR b7, vR b18, vR b28, vI 2, vR b38, vI nn, vR b49, vR m2, vR tb_77, .unset] [])) (fun t k => XS.icmpNo X77.here hx rfl (hb hby at_426) rfl (teq (rfl : nn = nn)).2 k) ?_
  refine own_by (T' := T77) (g' := (mkF m 430 #[vI x1, vI x2, vI x3, vR b1, vR b7, vR b18, vR b28, vI 2, vR b38, vI nn, vR b49, vR m2, vR tb_77, .unset] [(.int 1)])) (fun t k => XS.iconst X77.here hx rfl (hb hby at_429) k) ?_
  refine own_by (T' := T77) (g' := (mkF m 434 #[vI x1, vI x2, vI x3, vR b1, vR b7, vR b18, vR b28, vI 2, vR b38, vI nn, vR b49, vR m2, vR tb_77, .unset] [(.int 1)])) (fun t k => XS.goto X77.here hx rfl (pc0 := 430) (pc' := 434) rfl (hb hby at_430) (by decide) (by decide) k) ?_
  refine own_by (T' := T77) (g' := (mkF m 436 #[vI x1, vI x2, vI x3, vR b1, vR b7, vR b18, vR b28, vI 2, vR b38, vI nn, vR b49, vR m2, vR tb_77, vI 1] [])) (fun t k => XS.istore X77.here hx rfl (hb hby at_434) rfl (l' := #[vI x1, vI x2, vI x3, vR b1, vR b7, vR b18, vR b28, vI 2, vR b38, vI nn, vR b49, vR m2, vR tb_77, vI 1]) rfl k) ?_
  have GU0 : (0 : Int32) < nn → g0_77 = w0 := fun q => by rw [HG0 q, e_w0]; rfl
  have GU1 : (1 : Int32) < nn → g1_77 = w1 := fun q => by rw [HG1 q, e_w1]; rfl
  have GU2 : (2 : Int32) < nn → g2_77 = w2 := fun q => by rw [HG2 q, e_w2]; rfl
  have GU3 : (3 : Int32) < nn → g3_77 = w3 := fun q => by rw [HG3 q, e_w3]; rfl
  have GU4 : (4 : Int32) < nn → g4_77 = w4 := fun q => by rw [HG4 q, e_w4]; rfl
  refine own_by (T' := T77) (g' := (mkF m 438 #[vI x1, vI x2, vI x3, vR b1, vR b7, vR b18, vR b28, vI 2, vR b38, vI nn, vR b49, vR m2, vR tb_77, vI 1] [(.int 1)])) (fun t k => XS.iload X77.here hx rfl (hb hby at_436) rfl k) ?_
  refine own_by (T' := T77) (g' := (mkF m 441 #[vI x1, vI x2, vI x3, vR b1, vR b7, vR b18, vR b28, vI 2, vR b38, vI nn, vR b49, vR m2, vR tb_77, vI 1] [])) (fun t k => XS.ifNo X77.here hx rfl (hb hby at_438) rfl ((if0 _ _).trans (feq (by decide)).1) k) ?_
  refine own_by (T' := T77) (g' := (mkF m 443 #[vI x1, vI x2, vI x3, vR b1, vR b7, vR b18, vR b28, vI 2, vR b38, vI nn, vR b49, vR m2, vR tb_77, vI 1] [(.ref tb_77)])) (fun t k => XS.aload X77.here hx rfl (hb hby at_441) rfl rfl k) ?_
  refine own_by (T' := T77) (g' := (mkF m 445 #[vI x1, vI x2, vI x3, vR b1, vR b7, vR b18, vR b28, vI 2, vR b38, vI nn, vR b49, vR m2, vR tb_77, vI 1] [(.ref b38), (.ref tb_77)])) (fun t k => XS.aload X77.here hx rfl (hb hby at_443) rfl rfl k) ?_
  refine own_by (T' := T77) (g' := (mkF m 446 #[vI x1, vI x2, vI x3, vR b1, vR b7, vR b18, vR b28, vI 2, vR b38, vI nn, vR b49, vR m2, vR tb_77, vI 1] [(.int 0), (.ref b38), (.ref tb_77)])) (fun t k => XS.iconst X77.here hx rfl (hb hby at_445) k) ?_
  obtain ⟨_, _, ⟨T79, L79, k79, n79⟩, -, X79, ⟨Lc79, hQ79, l79, y79, z79⟩, st79⟩ := Jvm.LawKit.callS X77 hx (y := (⟨"com/example/emu/emu/TableFormFromPrefixPinLaw", "agree", "([I[II)Z"⟩ : MethodName)) hown (mvT hZ (hw _ (own_m 35 rfl))) (mvT hZ (hw _ (own_m 36 rfl))) (mvT hZ (hw _ (own_m 3 rfl))) (mvT hZ (hw _ (own_m 37 rfl))) (by decide) (backOf (W := 0) (rm8_0 l Z a0 hw [] tb_77 b38 nn kb_77 k38 g0_77 g1_77 g2_77 g3_77 g4_77 w0 w1 w2 w3 w4 T77.heap n0 Zle c77_2 V_b38 (GU0)) hZ (hw _ (own_m 37 rfl)) (hw _ (own_m 3 rfl)) (by decide) (by decide)) (g := (mkF m 446 #[vI x1, vI x2, vI x3, vR b1, vR b7, vR b18, vR b28, vI 2, vR b38, vI nn, vR b49, vR m2, vR tb_77, vI 1] [(.int 0), (.ref b38), (.ref tb_77)])) rfl (by rw [hml]; rfl) (argsL := [(.ref tb_77), (.ref b38), (.int 0)]) (rest := []) (lenOf pd_7 rfl) rfl (own_le rfl) (hb hby at_446) (fun _ _ => ⟨rfl, rfl, (by decide : 7 + 0 ≤ _), (by decide : 35 + 0 ≤ _)⟩)
  dsimp only [Pt.U, Pt.locs, Pt.cells, Pt.slots] at X79 l79 y79 z79 st79 hQ79
  subst l79 y79 z79
  obtain ⟨rfl, Nq79, e79⟩ := hQ79
  replace N_ := Fr.app N_ Nq79
  clear Nq79
  refine own_by (T' := T79) (g' := (mkF m 449 #[vI x1, vI x2, vI x3, vR b1, vR b7, vR b18, vR b28, vI 2, vR b38, vI nn, vR b49, vR m2, vR tb_77, vI 1] [(.int 1)])) (fun t k => st79 _ k) ?_
  clear st79 X77
  refine own_by (T' := T79) (g' := (mkF m 452 #[vI x1, vI x2, vI x3, vR b1, vR b7, vR b18, vR b28, vI 2, vR b38, vI nn, vR b49, vR m2, vR tb_77, vI 1] [])) (fun t k => XS.ifNo X79.here hx rfl (hb hby at_449) rfl ((if0 _ _).trans (feq (by decide)).1) k) ?_
  refine own_by (T' := T79) (g' := (mkF m 454 #[vI x1, vI x2, vI x3, vR b1, vR b7, vR b18, vR b28, vI 2, vR b38, vI nn, vR b49, vR m2, vR tb_77, vI 1] [(.ref tb_77)])) (fun t k => XS.aload X79.here hx rfl (hb hby at_452) rfl rfl k) ?_
  refine own_by (T' := T79) (g' := (mkF m 456 #[vI x1, vI x2, vI x3, vR b1, vR b7, vR b18, vR b28, vI 2, vR b38, vI nn, vR b49, vR m2, vR tb_77, vI 1] [(.ref b38), (.ref tb_77)])) (fun t k => XS.aload X79.here hx rfl (hb hby at_454) rfl rfl k) ?_
  refine own_by (T' := T79) (g' := (mkF m 457 #[vI x1, vI x2, vI x3, vR b1, vR b7, vR b18, vR b28, vI 2, vR b38, vI nn, vR b49, vR m2, vR tb_77, vI 1] [(.int 1), (.ref b38), (.ref tb_77)])) (fun t k => XS.iconst X79.here hx rfl (hb hby at_456) k) ?_
  obtain ⟨_, _, ⟨T80, L80, k80, n80⟩, -, X80, ⟨Lc80, hQ80, l80, y80, z80⟩, st80⟩ := Jvm.LawKit.callS X79 hx (y := (⟨"com/example/emu/emu/TableFormFromPrefixPinLaw", "agree", "([I[II)Z"⟩ : MethodName)) hown (mvT hZ (hw _ (own_m 35 rfl))) (mvT hZ (hw _ (own_m 36 rfl))) (mvT hZ (hw _ (own_m 3 rfl))) (mvT hZ (hw _ (own_m 37 rfl))) (by decide) (backOf (W := 0) (rm8_1 l Z a0 hw [] tb_77 b38 nn kb_77 k38 g0_77 g1_77 g2_77 g3_77 g4_77 w0 w1 w2 w3 w4 T77.heap n0 Zle c77_2 V_b38 (GU1)) hZ (hw _ (own_m 37 rfl)) (hw _ (own_m 3 rfl)) (by decide) (by decide)) (g := (mkF m 457 #[vI x1, vI x2, vI x3, vR b1, vR b7, vR b18, vR b28, vI 2, vR b38, vI nn, vR b49, vR m2, vR tb_77, vI 1] [(.int 1), (.ref b38), (.ref tb_77)])) rfl (by rw [hml]; rfl) (argsL := [(.ref tb_77), (.ref b38), (.int 1)]) (rest := []) (lenOf pd_7 rfl) rfl (own_le rfl) (hb hby at_457) (fun _ _ => ⟨rfl, e79, (by decide : 7 + 0 ≤ _), (by decide : 35 + 0 ≤ _)⟩)
  dsimp only [Pt.U, Pt.locs, Pt.cells, Pt.slots] at X80 l80 y80 z80 st80 hQ80
  subst l80 y80 z80
  obtain ⟨rfl, Nq80, e80⟩ := hQ80
  replace N_ := Fr.app N_ Nq80
  clear Nq80
  refine own_by (T' := T80) (g' := (mkF m 460 #[vI x1, vI x2, vI x3, vR b1, vR b7, vR b18, vR b28, vI 2, vR b38, vI nn, vR b49, vR m2, vR tb_77, vI 1] [(.int 1)])) (fun t k => st80 _ k) ?_
  clear st80 X79 e79
  refine own_by (T' := T80) (g' := (mkF m 463 #[vI x1, vI x2, vI x3, vR b1, vR b7, vR b18, vR b28, vI 2, vR b38, vI nn, vR b49, vR m2, vR tb_77, vI 1] [])) (fun t k => XS.ifNo X80.here hx rfl (hb hby at_460) rfl ((if0 _ _).trans (feq (by decide)).1) k) ?_
  refine own_by (T' := T80) (g' := (mkF m 465 #[vI x1, vI x2, vI x3, vR b1, vR b7, vR b18, vR b28, vI 2, vR b38, vI nn, vR b49, vR m2, vR tb_77, vI 1] [(.ref tb_77)])) (fun t k => XS.aload X80.here hx rfl (hb hby at_463) rfl rfl k) ?_
  refine own_by (T' := T80) (g' := (mkF m 467 #[vI x1, vI x2, vI x3, vR b1, vR b7, vR b18, vR b28, vI 2, vR b38, vI nn, vR b49, vR m2, vR tb_77, vI 1] [(.ref b38), (.ref tb_77)])) (fun t k => XS.aload X80.here hx rfl (hb hby at_465) rfl rfl k) ?_
  refine own_by (T' := T80) (g' := (mkF m 468 #[vI x1, vI x2, vI x3, vR b1, vR b7, vR b18, vR b28, vI 2, vR b38, vI nn, vR b49, vR m2, vR tb_77, vI 1] [(.int 2), (.ref b38), (.ref tb_77)])) (fun t k => XS.iconst X80.here hx rfl (hb hby at_467) k) ?_
  obtain ⟨_, _, ⟨T81, L81, k81, n81⟩, -, X81, ⟨Lc81, hQ81, l81, y81, z81⟩, st81⟩ := Jvm.LawKit.callS X80 hx (y := (⟨"com/example/emu/emu/TableFormFromPrefixPinLaw", "agree", "([I[II)Z"⟩ : MethodName)) hown (mvT hZ (hw _ (own_m 35 rfl))) (mvT hZ (hw _ (own_m 36 rfl))) (mvT hZ (hw _ (own_m 3 rfl))) (mvT hZ (hw _ (own_m 37 rfl))) (by decide) (backOf (W := 0) (rm8_2 l Z a0 hw [] tb_77 b38 nn kb_77 k38 g0_77 g1_77 g2_77 g3_77 g4_77 w0 w1 w2 w3 w4 T77.heap n0 Zle c77_2 V_b38 (GU2)) hZ (hw _ (own_m 37 rfl)) (hw _ (own_m 3 rfl)) (by decide) (by decide)) (g := (mkF m 468 #[vI x1, vI x2, vI x3, vR b1, vR b7, vR b18, vR b28, vI 2, vR b38, vI nn, vR b49, vR m2, vR tb_77, vI 1] [(.int 2), (.ref b38), (.ref tb_77)])) rfl (by rw [hml]; rfl) (argsL := [(.ref tb_77), (.ref b38), (.int 2)]) (rest := []) (lenOf pd_7 rfl) rfl (own_le rfl) (hb hby at_468) (fun _ _ => ⟨rfl, e80, (by decide : 7 + 0 ≤ _), (by decide : 35 + 0 ≤ _)⟩)
  dsimp only [Pt.U, Pt.locs, Pt.cells, Pt.slots] at X81 l81 y81 z81 st81 hQ81
  subst l81 y81 z81
  obtain ⟨rfl, Nq81, e81⟩ := hQ81
  replace N_ := Fr.app N_ Nq81
  clear Nq81
  refine own_by (T' := T81) (g' := (mkF m 471 #[vI x1, vI x2, vI x3, vR b1, vR b7, vR b18, vR b28, vI 2, vR b38, vI nn, vR b49, vR m2, vR tb_77, vI 1] [(.int 1)])) (fun t k => st81 _ k) ?_
  clear st81 X80 e80
  refine own_by (T' := T81) (g' := (mkF m 474 #[vI x1, vI x2, vI x3, vR b1, vR b7, vR b18, vR b28, vI 2, vR b38, vI nn, vR b49, vR m2, vR tb_77, vI 1] [])) (fun t k => XS.ifNo X81.here hx rfl (hb hby at_471) rfl ((if0 _ _).trans (feq (by decide)).1) k) ?_
  refine own_by (T' := T81) (g' := (mkF m 476 #[vI x1, vI x2, vI x3, vR b1, vR b7, vR b18, vR b28, vI 2, vR b38, vI nn, vR b49, vR m2, vR tb_77, vI 1] [(.ref tb_77)])) (fun t k => XS.aload X81.here hx rfl (hb hby at_474) rfl rfl k) ?_
  refine own_by (T' := T81) (g' := (mkF m 478 #[vI x1, vI x2, vI x3, vR b1, vR b7, vR b18, vR b28, vI 2, vR b38, vI nn, vR b49, vR m2, vR tb_77, vI 1] [(.ref b38), (.ref tb_77)])) (fun t k => XS.aload X81.here hx rfl (hb hby at_476) rfl rfl k) ?_
  refine own_by (T' := T81) (g' := (mkF m 479 #[vI x1, vI x2, vI x3, vR b1, vR b7, vR b18, vR b28, vI 2, vR b38, vI nn, vR b49, vR m2, vR tb_77, vI 1] [(.int 3), (.ref b38), (.ref tb_77)])) (fun t k => XS.iconst X81.here hx rfl (hb hby at_478) k) ?_
  obtain ⟨_, _, ⟨T82, L82, k82, n82⟩, -, X82, ⟨Lc82, hQ82, l82, y82, z82⟩, st82⟩ := Jvm.LawKit.callS X81 hx (y := (⟨"com/example/emu/emu/TableFormFromPrefixPinLaw", "agree", "([I[II)Z"⟩ : MethodName)) hown (mvT hZ (hw _ (own_m 35 rfl))) (mvT hZ (hw _ (own_m 36 rfl))) (mvT hZ (hw _ (own_m 3 rfl))) (mvT hZ (hw _ (own_m 37 rfl))) (by decide) (backOf (W := 0) (rm8_3 l Z a0 hw [] tb_77 b38 nn kb_77 k38 g0_77 g1_77 g2_77 g3_77 g4_77 w0 w1 w2 w3 w4 T77.heap n0 Zle c77_2 V_b38 (GU3)) hZ (hw _ (own_m 37 rfl)) (hw _ (own_m 3 rfl)) (by decide) (by decide)) (g := (mkF m 479 #[vI x1, vI x2, vI x3, vR b1, vR b7, vR b18, vR b28, vI 2, vR b38, vI nn, vR b49, vR m2, vR tb_77, vI 1] [(.int 3), (.ref b38), (.ref tb_77)])) rfl (by rw [hml]; rfl) (argsL := [(.ref tb_77), (.ref b38), (.int 3)]) (rest := []) (lenOf pd_7 rfl) rfl (own_le rfl) (hb hby at_479) (fun _ _ => ⟨rfl, e81, (by decide : 7 + 0 ≤ _), (by decide : 35 + 0 ≤ _)⟩)
  dsimp only [Pt.U, Pt.locs, Pt.cells, Pt.slots] at X82 l82 y82 z82 st82 hQ82
  subst l82 y82 z82
  obtain ⟨rfl, Nq82, e82⟩ := hQ82
  replace N_ := Fr.app N_ Nq82
  clear Nq82
  refine own_by (T' := T82) (g' := (mkF m 482 #[vI x1, vI x2, vI x3, vR b1, vR b7, vR b18, vR b28, vI 2, vR b38, vI nn, vR b49, vR m2, vR tb_77, vI 1] [(.int 1)])) (fun t k => st82 _ k) ?_
  clear st82 X81 e81
  refine own_by (T' := T82) (g' := (mkF m 485 #[vI x1, vI x2, vI x3, vR b1, vR b7, vR b18, vR b28, vI 2, vR b38, vI nn, vR b49, vR m2, vR tb_77, vI 1] [])) (fun t k => XS.ifNo X82.here hx rfl (hb hby at_482) rfl ((if0 _ _).trans (feq (by decide)).1) k) ?_
  refine own_by (T' := T82) (g' := (mkF m 487 #[vI x1, vI x2, vI x3, vR b1, vR b7, vR b18, vR b28, vI 2, vR b38, vI nn, vR b49, vR m2, vR tb_77, vI 1] [(.ref tb_77)])) (fun t k => XS.aload X82.here hx rfl (hb hby at_485) rfl rfl k) ?_
  refine own_by (T' := T82) (g' := (mkF m 489 #[vI x1, vI x2, vI x3, vR b1, vR b7, vR b18, vR b28, vI 2, vR b38, vI nn, vR b49, vR m2, vR tb_77, vI 1] [(.ref b38), (.ref tb_77)])) (fun t k => XS.aload X82.here hx rfl (hb hby at_487) rfl rfl k) ?_
  refine own_by (T' := T82) (g' := (mkF m 490 #[vI x1, vI x2, vI x3, vR b1, vR b7, vR b18, vR b28, vI 2, vR b38, vI nn, vR b49, vR m2, vR tb_77, vI 1] [(.int 4), (.ref b38), (.ref tb_77)])) (fun t k => XS.iconst X82.here hx rfl (hb hby at_489) k) ?_
  obtain ⟨_, _, ⟨T83, L83, k83, n83⟩, -, X83, ⟨Lc83, hQ83, l83, y83, z83⟩, st83⟩ := Jvm.LawKit.callS X82 hx (y := (⟨"com/example/emu/emu/TableFormFromPrefixPinLaw", "agree", "([I[II)Z"⟩ : MethodName)) hown (mvT hZ (hw _ (own_m 35 rfl))) (mvT hZ (hw _ (own_m 36 rfl))) (mvT hZ (hw _ (own_m 3 rfl))) (mvT hZ (hw _ (own_m 37 rfl))) (by decide) (backOf (W := 0) (rm8_4 l Z a0 hw [] tb_77 b38 nn kb_77 k38 g0_77 g1_77 g2_77 g3_77 g4_77 w0 w1 w2 w3 w4 T77.heap n0 Zle c77_2 V_b38 (GU4)) hZ (hw _ (own_m 37 rfl)) (hw _ (own_m 3 rfl)) (by decide) (by decide)) (g := (mkF m 490 #[vI x1, vI x2, vI x3, vR b1, vR b7, vR b18, vR b28, vI 2, vR b38, vI nn, vR b49, vR m2, vR tb_77, vI 1] [(.int 4), (.ref b38), (.ref tb_77)])) rfl (by rw [hml]; rfl) (argsL := [(.ref tb_77), (.ref b38), (.int 4)]) (rest := []) (lenOf pd_7 rfl) rfl (own_le rfl) (hb hby at_490) (fun _ _ => ⟨rfl, e82, (by decide : 7 + 0 ≤ _), (by decide : 35 + 0 ≤ _)⟩)
  dsimp only [Pt.U, Pt.locs, Pt.cells, Pt.slots] at X83 l83 y83 z83 st83 hQ83
  subst l83 y83 z83
  obtain ⟨rfl, Nq83, e83⟩ := hQ83
  replace N_ := Fr.app N_ Nq83
  clear Nq83
  refine own_by (T' := T83) (g' := (mkF m 493 #[vI x1, vI x2, vI x3, vR b1, vR b7, vR b18, vR b28, vI 2, vR b38, vI nn, vR b49, vR m2, vR tb_77, vI 1] [(.int 1)])) (fun t k => st83 _ k) ?_
  clear st83 X82 e82
  refine own_by (T' := T83) (g' := (mkF m 496 #[vI x1, vI x2, vI x3, vR b1, vR b7, vR b18, vR b28, vI 2, vR b38, vI nn, vR b49, vR m2, vR tb_77, vI 1] [])) (fun t k => XS.ifNo X83.here hx rfl (hb hby at_493) rfl ((if0 _ _).trans (feq (by decide)).1) k) ?_
  refine own_by (T' := T83) (g' := (mkF m 497 #[vI x1, vI x2, vI x3, vR b1, vR b7, vR b18, vR b28, vI 2, vR b38, vI nn, vR b49, vR m2, vR tb_77, vI 1] [(.int 1)])) (fun t k => XS.iconst X83.here hx rfl (hb hby at_496) k) ?_
  refine own_by (T' := T83) (g' := (mkF m 501 #[vI x1, vI x2, vI x3, vR b1, vR b7, vR b18, vR b28, vI 2, vR b38, vI nn, vR b49, vR m2, vR tb_77, vI 1] [(.int 1)])) (fun t k => XS.goto X83.here hx rfl (pc0 := 497) (pc' := 501) rfl (hb hby at_497) (by decide) (by decide) k) ?_
  refine own_by (T' := T83) (g' := (mkF m 503 #[vI x1, vI x2, vI x3, vR b1, vR b7, vR b18, vR b28, vI 2, vR b38, vI nn, vR b49, vR m2, vR tb_77, vI 1] [])) (fun t k => XS.istore X83.here hx rfl (hb hby at_501) rfl (l' := #[vI x1, vI x2, vI x3, vR b1, vR b7, vR b18, vR b28, vI 2, vR b38, vI nn, vR b49, vR m2, vR tb_77, vI 1]) rfl k) ?_
  refine own_by (T' := T83) (g' := (mkF m 505 #[vI x1, vI x2, vI x3, vR b1, vR b7, vR b18, vR b28, vI 2, vR b38, vI nn, vR b49, vR m2, vR tb_77, vI 1] [(.int 1)])) (fun t k => XS.iload X83.here hx rfl (hb hby at_503) rfl k) ?_
  refine own_by (T' := T83) (g' := (mkF m 508 #[vI x1, vI x2, vI x3, vR b1, vR b7, vR b18, vR b28, vI 2, vR b38, vI nn, vR b49, vR m2, vR tb_77, vI 1] [])) (fun t k => XS.ifNo X83.here hx rfl (hb hby at_505) rfl ((if0 _ _).trans (feq (by decide)).1) k) ?_
  refine own_by (T' := T83) (g' := (mkF m 510 #[vI x1, vI x2, vI x3, vR b1, vR b7, vR b18, vR b28, vI 2, vR b38, vI nn, vR b49, vR m2, vR tb_77, vI 1] [(.ref b49)])) (fun t k => XS.aload X83.here hx rfl (hb hby at_508) rfl rfl k) ?_
  refine own_by (T' := T83) (g' := (mkF m 512 #[vI x1, vI x2, vI x3, vR b1, vR b7, vR b18, vR b28, vI 2, vR b38, vI nn, vR b49, vR m2, vR tb_77, vI 1] [(.ref b7), (.ref b49)])) (fun t k => XS.aload X83.here hx rfl (hb hby at_510) rfl rfl k) ?_
  refine own_by (T' := T83) (g' := (mkF m 513 #[vI x1, vI x2, vI x3, vR b1, vR b7, vR b18, vR b28, vI 2, vR b38, vI nn, vR b49, vR m2, vR tb_77, vI 1] [(.int 0), (.ref b7), (.ref b49)])) (fun t k => XS.iconst X83.here hx rfl (hb hby at_512) k) ?_
  obtain ⟨_, _, ⟨T84, L84, k84, n84⟩, -, X84, ⟨Lc84, hQ84, l84, y84, z84⟩, st84⟩ := Jvm.LawKit.callS X83 hx (y := (⟨"com/example/emu/emu/TableFormFromPrefixPinLaw", "agree", "([I[II)Z"⟩ : MethodName)) hown (mvT hZ (hw _ (own_m 35 rfl))) (mvT hZ (hw _ (own_m 36 rfl))) (mvT hZ (hw _ (own_m 3 rfl))) (mvT hZ (hw _ (own_m 37 rfl))) (by decide) (backOf (W := 0) (rm8_0 l Z a0 hw [] b49 b7 nn k49 k7 (0 : Int32) t1 t2 t3 t4 (0 : Int32) t1 t2 t3 t4 T77.heap n0 Zle V_b49 V_b7 (fun _ => rfl)) hZ (hw _ (own_m 37 rfl)) (hw _ (own_m 3 rfl)) (by decide) (by decide)) (g := (mkF m 513 #[vI x1, vI x2, vI x3, vR b1, vR b7, vR b18, vR b28, vI 2, vR b38, vI nn, vR b49, vR m2, vR tb_77, vI 1] [(.int 0), (.ref b7), (.ref b49)])) rfl (by rw [hml]; rfl) (argsL := [(.ref b49), (.ref b7), (.int 0)]) (rest := []) (lenOf pd_7 rfl) rfl (own_le rfl) (hb hby at_513) (fun _ _ => ⟨rfl, e83, (by decide : 7 + 0 ≤ _), (by decide : 35 + 0 ≤ _)⟩)
  dsimp only [Pt.U, Pt.locs, Pt.cells, Pt.slots] at X84 l84 y84 z84 st84 hQ84
  subst l84 y84 z84
  obtain ⟨rfl, Nq84, e84⟩ := hQ84
  replace N_ := Fr.app N_ Nq84
  clear Nq84
  refine own_by (T' := T84) (g' := (mkF m 516 #[vI x1, vI x2, vI x3, vR b1, vR b7, vR b18, vR b28, vI 2, vR b38, vI nn, vR b49, vR m2, vR tb_77, vI 1] [(.int 1)])) (fun t k => st84 _ k) ?_
  clear st84 X83 e83
  refine own_by (T' := T84) (g' := (mkF m 519 #[vI x1, vI x2, vI x3, vR b1, vR b7, vR b18, vR b28, vI 2, vR b38, vI nn, vR b49, vR m2, vR tb_77, vI 1] [])) (fun t k => XS.ifNo X84.here hx rfl (hb hby at_516) rfl ((if0 _ _).trans (feq (by decide)).1) k) ?_
  refine own_by (T' := T84) (g' := (mkF m 521 #[vI x1, vI x2, vI x3, vR b1, vR b7, vR b18, vR b28, vI 2, vR b38, vI nn, vR b49, vR m2, vR tb_77, vI 1] [(.ref b49)])) (fun t k => XS.aload X84.here hx rfl (hb hby at_519) rfl rfl k) ?_
  refine own_by (T' := T84) (g' := (mkF m 523 #[vI x1, vI x2, vI x3, vR b1, vR b7, vR b18, vR b28, vI 2, vR b38, vI nn, vR b49, vR m2, vR tb_77, vI 1] [(.ref b7), (.ref b49)])) (fun t k => XS.aload X84.here hx rfl (hb hby at_521) rfl rfl k) ?_
  refine own_by (T' := T84) (g' := (mkF m 524 #[vI x1, vI x2, vI x3, vR b1, vR b7, vR b18, vR b28, vI 2, vR b38, vI nn, vR b49, vR m2, vR tb_77, vI 1] [(.int 1), (.ref b7), (.ref b49)])) (fun t k => XS.iconst X84.here hx rfl (hb hby at_523) k) ?_
  obtain ⟨_, _, ⟨T85, L85, k85, n85⟩, -, X85, ⟨Lc85, hQ85, l85, y85, z85⟩, st85⟩ := Jvm.LawKit.callS X84 hx (y := (⟨"com/example/emu/emu/TableFormFromPrefixPinLaw", "agree", "([I[II)Z"⟩ : MethodName)) hown (mvT hZ (hw _ (own_m 35 rfl))) (mvT hZ (hw _ (own_m 36 rfl))) (mvT hZ (hw _ (own_m 3 rfl))) (mvT hZ (hw _ (own_m 37 rfl))) (by decide) (backOf (W := 0) (rm8_1 l Z a0 hw [] b49 b7 nn k49 k7 (0 : Int32) t1 t2 t3 t4 (0 : Int32) t1 t2 t3 t4 T77.heap n0 Zle V_b49 V_b7 (fun _ => rfl)) hZ (hw _ (own_m 37 rfl)) (hw _ (own_m 3 rfl)) (by decide) (by decide)) (g := (mkF m 524 #[vI x1, vI x2, vI x3, vR b1, vR b7, vR b18, vR b28, vI 2, vR b38, vI nn, vR b49, vR m2, vR tb_77, vI 1] [(.int 1), (.ref b7), (.ref b49)])) rfl (by rw [hml]; rfl) (argsL := [(.ref b49), (.ref b7), (.int 1)]) (rest := []) (lenOf pd_7 rfl) rfl (own_le rfl) (hb hby at_524) (fun _ _ => ⟨rfl, e84, (by decide : 7 + 0 ≤ _), (by decide : 35 + 0 ≤ _)⟩)
  dsimp only [Pt.U, Pt.locs, Pt.cells, Pt.slots] at X85 l85 y85 z85 st85 hQ85
  subst l85 y85 z85
  obtain ⟨rfl, Nq85, e85⟩ := hQ85
  replace N_ := Fr.app N_ Nq85
  clear Nq85
  refine own_by (T' := T85) (g' := (mkF m 527 #[vI x1, vI x2, vI x3, vR b1, vR b7, vR b18, vR b28, vI 2, vR b38, vI nn, vR b49, vR m2, vR tb_77, vI 1] [(.int 1)])) (fun t k => st85 _ k) ?_
  clear st85 X84 e84
  refine own_by (T' := T85) (g' := (mkF m 530 #[vI x1, vI x2, vI x3, vR b1, vR b7, vR b18, vR b28, vI 2, vR b38, vI nn, vR b49, vR m2, vR tb_77, vI 1] [])) (fun t k => XS.ifNo X85.here hx rfl (hb hby at_527) rfl ((if0 _ _).trans (feq (by decide)).1) k) ?_
  refine own_by (T' := T85) (g' := (mkF m 532 #[vI x1, vI x2, vI x3, vR b1, vR b7, vR b18, vR b28, vI 2, vR b38, vI nn, vR b49, vR m2, vR tb_77, vI 1] [(.ref b49)])) (fun t k => XS.aload X85.here hx rfl (hb hby at_530) rfl rfl k) ?_
  refine own_by (T' := T85) (g' := (mkF m 534 #[vI x1, vI x2, vI x3, vR b1, vR b7, vR b18, vR b28, vI 2, vR b38, vI nn, vR b49, vR m2, vR tb_77, vI 1] [(.ref b7), (.ref b49)])) (fun t k => XS.aload X85.here hx rfl (hb hby at_532) rfl rfl k) ?_
  refine own_by (T' := T85) (g' := (mkF m 535 #[vI x1, vI x2, vI x3, vR b1, vR b7, vR b18, vR b28, vI 2, vR b38, vI nn, vR b49, vR m2, vR tb_77, vI 1] [(.int 2), (.ref b7), (.ref b49)])) (fun t k => XS.iconst X85.here hx rfl (hb hby at_534) k) ?_
  obtain ⟨_, _, ⟨T86, L86, k86, n86⟩, -, X86, ⟨Lc86, hQ86, l86, y86, z86⟩, st86⟩ := Jvm.LawKit.callS X85 hx (y := (⟨"com/example/emu/emu/TableFormFromPrefixPinLaw", "agree", "([I[II)Z"⟩ : MethodName)) hown (mvT hZ (hw _ (own_m 35 rfl))) (mvT hZ (hw _ (own_m 36 rfl))) (mvT hZ (hw _ (own_m 3 rfl))) (mvT hZ (hw _ (own_m 37 rfl))) (by decide) (backOf (W := 0) (rm8_2 l Z a0 hw [] b49 b7 nn k49 k7 (0 : Int32) t1 t2 t3 t4 (0 : Int32) t1 t2 t3 t4 T77.heap n0 Zle V_b49 V_b7 (fun _ => rfl)) hZ (hw _ (own_m 37 rfl)) (hw _ (own_m 3 rfl)) (by decide) (by decide)) (g := (mkF m 535 #[vI x1, vI x2, vI x3, vR b1, vR b7, vR b18, vR b28, vI 2, vR b38, vI nn, vR b49, vR m2, vR tb_77, vI 1] [(.int 2), (.ref b7), (.ref b49)])) rfl (by rw [hml]; rfl) (argsL := [(.ref b49), (.ref b7), (.int 2)]) (rest := []) (lenOf pd_7 rfl) rfl (own_le rfl) (hb hby at_535) (fun _ _ => ⟨rfl, e85, (by decide : 7 + 0 ≤ _), (by decide : 35 + 0 ≤ _)⟩)
  dsimp only [Pt.U, Pt.locs, Pt.cells, Pt.slots] at X86 l86 y86 z86 st86 hQ86
  subst l86 y86 z86
  obtain ⟨rfl, Nq86, e86⟩ := hQ86
  replace N_ := Fr.app N_ Nq86
  clear Nq86
  refine own_by (T' := T86) (g' := (mkF m 538 #[vI x1, vI x2, vI x3, vR b1, vR b7, vR b18, vR b28, vI 2, vR b38, vI nn, vR b49, vR m2, vR tb_77, vI 1] [(.int 1)])) (fun t k => st86 _ k) ?_
  clear st86 X85 e85
  refine own_by (T' := T86) (g' := (mkF m 541 #[vI x1, vI x2, vI x3, vR b1, vR b7, vR b18, vR b28, vI 2, vR b38, vI nn, vR b49, vR m2, vR tb_77, vI 1] [])) (fun t k => XS.ifNo X86.here hx rfl (hb hby at_538) rfl ((if0 _ _).trans (feq (by decide)).1) k) ?_
  refine own_by (T' := T86) (g' := (mkF m 543 #[vI x1, vI x2, vI x3, vR b1, vR b7, vR b18, vR b28, vI 2, vR b38, vI nn, vR b49, vR m2, vR tb_77, vI 1] [(.ref b49)])) (fun t k => XS.aload X86.here hx rfl (hb hby at_541) rfl rfl k) ?_
  refine own_by (T' := T86) (g' := (mkF m 545 #[vI x1, vI x2, vI x3, vR b1, vR b7, vR b18, vR b28, vI 2, vR b38, vI nn, vR b49, vR m2, vR tb_77, vI 1] [(.ref b7), (.ref b49)])) (fun t k => XS.aload X86.here hx rfl (hb hby at_543) rfl rfl k) ?_
  refine own_by (T' := T86) (g' := (mkF m 546 #[vI x1, vI x2, vI x3, vR b1, vR b7, vR b18, vR b28, vI 2, vR b38, vI nn, vR b49, vR m2, vR tb_77, vI 1] [(.int 3), (.ref b7), (.ref b49)])) (fun t k => XS.iconst X86.here hx rfl (hb hby at_545) k) ?_
  obtain ⟨_, _, ⟨T87, L87, k87, n87⟩, -, X87, ⟨Lc87, hQ87, l87, y87, z87⟩, st87⟩ := Jvm.LawKit.callS X86 hx (y := (⟨"com/example/emu/emu/TableFormFromPrefixPinLaw", "agree", "([I[II)Z"⟩ : MethodName)) hown (mvT hZ (hw _ (own_m 35 rfl))) (mvT hZ (hw _ (own_m 36 rfl))) (mvT hZ (hw _ (own_m 3 rfl))) (mvT hZ (hw _ (own_m 37 rfl))) (by decide) (backOf (W := 0) (rm8_3 l Z a0 hw [] b49 b7 nn k49 k7 (0 : Int32) t1 t2 t3 t4 (0 : Int32) t1 t2 t3 t4 T77.heap n0 Zle V_b49 V_b7 (fun _ => rfl)) hZ (hw _ (own_m 37 rfl)) (hw _ (own_m 3 rfl)) (by decide) (by decide)) (g := (mkF m 546 #[vI x1, vI x2, vI x3, vR b1, vR b7, vR b18, vR b28, vI 2, vR b38, vI nn, vR b49, vR m2, vR tb_77, vI 1] [(.int 3), (.ref b7), (.ref b49)])) rfl (by rw [hml]; rfl) (argsL := [(.ref b49), (.ref b7), (.int 3)]) (rest := []) (lenOf pd_7 rfl) rfl (own_le rfl) (hb hby at_546) (fun _ _ => ⟨rfl, e86, (by decide : 7 + 0 ≤ _), (by decide : 35 + 0 ≤ _)⟩)
  dsimp only [Pt.U, Pt.locs, Pt.cells, Pt.slots] at X87 l87 y87 z87 st87 hQ87
  subst l87 y87 z87
  obtain ⟨rfl, Nq87, e87⟩ := hQ87
  replace N_ := Fr.app N_ Nq87
  clear Nq87
  refine own_by (T' := T87) (g' := (mkF m 549 #[vI x1, vI x2, vI x3, vR b1, vR b7, vR b18, vR b28, vI 2, vR b38, vI nn, vR b49, vR m2, vR tb_77, vI 1] [(.int 1)])) (fun t k => st87 _ k) ?_
  clear st87 X86 e86
  refine own_by (T' := T87) (g' := (mkF m 552 #[vI x1, vI x2, vI x3, vR b1, vR b7, vR b18, vR b28, vI 2, vR b38, vI nn, vR b49, vR m2, vR tb_77, vI 1] [])) (fun t k => XS.ifNo X87.here hx rfl (hb hby at_549) rfl ((if0 _ _).trans (feq (by decide)).1) k) ?_
  refine own_by (T' := T87) (g' := (mkF m 554 #[vI x1, vI x2, vI x3, vR b1, vR b7, vR b18, vR b28, vI 2, vR b38, vI nn, vR b49, vR m2, vR tb_77, vI 1] [(.ref b49)])) (fun t k => XS.aload X87.here hx rfl (hb hby at_552) rfl rfl k) ?_
  refine own_by (T' := T87) (g' := (mkF m 556 #[vI x1, vI x2, vI x3, vR b1, vR b7, vR b18, vR b28, vI 2, vR b38, vI nn, vR b49, vR m2, vR tb_77, vI 1] [(.ref b7), (.ref b49)])) (fun t k => XS.aload X87.here hx rfl (hb hby at_554) rfl rfl k) ?_
  refine own_by (T' := T87) (g' := (mkF m 557 #[vI x1, vI x2, vI x3, vR b1, vR b7, vR b18, vR b28, vI 2, vR b38, vI nn, vR b49, vR m2, vR tb_77, vI 1] [(.int 4), (.ref b7), (.ref b49)])) (fun t k => XS.iconst X87.here hx rfl (hb hby at_556) k) ?_
  obtain ⟨_, _, ⟨T88, L88, k88, n88⟩, -, X88, ⟨Lc88, hQ88, l88, y88, z88⟩, st88⟩ := Jvm.LawKit.callS X87 hx (y := (⟨"com/example/emu/emu/TableFormFromPrefixPinLaw", "agree", "([I[II)Z"⟩ : MethodName)) hown (mvT hZ (hw _ (own_m 35 rfl))) (mvT hZ (hw _ (own_m 36 rfl))) (mvT hZ (hw _ (own_m 3 rfl))) (mvT hZ (hw _ (own_m 37 rfl))) (by decide) (backOf (W := 0) (rm8_4 l Z a0 hw [] b49 b7 nn k49 k7 (0 : Int32) t1 t2 t3 t4 (0 : Int32) t1 t2 t3 t4 T77.heap n0 Zle V_b49 V_b7 (fun _ => rfl)) hZ (hw _ (own_m 37 rfl)) (hw _ (own_m 3 rfl)) (by decide) (by decide)) (g := (mkF m 557 #[vI x1, vI x2, vI x3, vR b1, vR b7, vR b18, vR b28, vI 2, vR b38, vI nn, vR b49, vR m2, vR tb_77, vI 1] [(.int 4), (.ref b7), (.ref b49)])) rfl (by rw [hml]; rfl) (argsL := [(.ref b49), (.ref b7), (.int 4)]) (rest := []) (lenOf pd_7 rfl) rfl (own_le rfl) (hb hby at_557) (fun _ _ => ⟨rfl, e87, (by decide : 7 + 0 ≤ _), (by decide : 35 + 0 ≤ _)⟩)
  dsimp only [Pt.U, Pt.locs, Pt.cells, Pt.slots] at X88 l88 y88 z88 st88 hQ88
  subst l88 y88 z88
  obtain ⟨rfl, Nq88, e88⟩ := hQ88
  replace N_ := Fr.app N_ Nq88
  clear Nq88
  refine own_by (T' := T88) (g' := (mkF m 560 #[vI x1, vI x2, vI x3, vR b1, vR b7, vR b18, vR b28, vI 2, vR b38, vI nn, vR b49, vR m2, vR tb_77, vI 1] [(.int 1)])) (fun t k => st88 _ k) ?_
  clear st88 X87 e87
  refine own_by (T' := T88) (g' := (mkF m 563 #[vI x1, vI x2, vI x3, vR b1, vR b7, vR b18, vR b28, vI 2, vR b38, vI nn, vR b49, vR m2, vR tb_77, vI 1] [])) (fun t k => XS.ifNo X88.here hx rfl (hb hby at_560) rfl ((if0 _ _).trans (feq (by decide)).1) k) ?_
  refine own_by (T' := T88) (g' := (mkF m 564 #[vI x1, vI x2, vI x3, vR b1, vR b7, vR b18, vR b28, vI 2, vR b38, vI nn, vR b49, vR m2, vR tb_77, vI 1] [(.int 1)])) (fun t k => XS.iconst X88.here hx rfl (hb hby at_563) k) ?_
  refine own_by (T' := T88) (g' := (mkF m 568 #[vI x1, vI x2, vI x3, vR b1, vR b7, vR b18, vR b28, vI 2, vR b38, vI nn, vR b49, vR m2, vR tb_77, vI 1] [(.int 1)])) (fun t k => XS.goto X88.here hx rfl (pc0 := 564) (pc' := 568) rfl (hb hby at_564) (by decide) (by decide) k) ?_
  refine own_by (T' := T88) (g' := (mkF m 570 #[vI x1, vI x2, vI x3, vR b1, vR b7, vR b18, vR b28, vI 2, vR b38, vI nn, vR b49, vR m2, vR tb_77, vI 1] [])) (fun t k => XS.istore X88.here hx rfl (hb hby at_568) rfl (l' := #[vI x1, vI x2, vI x3, vR b1, vR b7, vR b18, vR b28, vI 2, vR b38, vI nn, vR b49, vR m2, vR tb_77, vI 1]) rfl k) ?_
  refine own_by (T' := T88) (g' := (mkF m 572 #[vI x1, vI x2, vI x3, vR b1, vR b7, vR b18, vR b28, vI 2, vR b38, vI nn, vR b49, vR m2, vR tb_77, vI 1] [(.int 1)])) (fun t k => XS.iload X88.here hx rfl (hb hby at_570) rfl k) ?_
  exact own_retN X88 hx (t := .boolean) hlk hret (by simp) (hb hby at_572) (by decide) (by decide) (by rw [e88]; exact ⟨rfl, N_⟩)
set_option maxRecDepth 65536 in
set_option maxHeartbeats 40000000 in
theorem own_c372_3 (l : Launch) (Z : State) (a0 : Array Value) (hw : ∀ d ∈ tables_1, d.before a0 Z = true) {p : Program} {e : Env} {s : State} {m : MethodId} {below : List Frame} {meth : Method} {c : Code} (hx : p.tables.exec = Jvm.exec) (hby : c.code = code) (hml : c.maxLocals = 14) (hlk : meth.locks = false) (hret : meth.sig.returnType = ret) (x1 : Int32) (x2 : Int32) (x3 : Int32) (m0 : Addr) (m1 : Addr) (m2 : Addr) (m3 : Addr) (h0 : Heap) (n0 : Nat) (b1 : Addr) (k1 : ClassId) (c0 : Int32) (c1 : Int32) (c2 : Int32) (c3 : Int32) (c4 : Int32) (b7 : Addr) (k7 : ClassId) (t1 : Int32) (t2 : Int32) (t3 : Int32) (t4 : Int32) (b18 : Addr) (k18 : ClassId) (b28 : Addr) (k28 : ClassId) (u1 : Int32) (u2 : Int32) (u3 : Int32) (u4 : Int32) (b38 : Addr) (k38 : ClassId) (w0 : Int32) (w1 : Int32) (w2 : Int32) (w3 : Int32) (w4 : Int32) (nn : Int32) (b49 : Addr) (k49 : ClassId) {Tj : State} {hj : Heap} {locsj : List Loc}
    (hZ : Z.Warmed39 s.vm) (hown : s.vm.findClass "com/example/emu/emu/TableFormFromPrefixPinLaw" = some m.cls) (Xj : Stand p l e room_1 s m #[(.int x1), (.int x2), (.int x3)] below meth c Tj locsj 6 30) (ej : Tj.heap = hj)
    (E_m2 : Exa Z hj m2 "com/example/emu/emu/TableForm") (S_NEXT_ONE_BASED : Sta Z hj "com/example/emu/emu/TableForm" "NEXT_ONE_BASED" "Lcom/example/emu/emu/TableForm;" (.ref m2)) (E_m3 : Exa Z hj m3 "com/example/emu/emu/TableForm") (S_NEXTVAL : Sta Z hj "com/example/emu/emu/TableForm" "NEXTVAL" "Lcom/example/emu/emu/TableForm;" (.ref m3)) (E_m1 : Exa Z hj m1 "com/example/emu/emu/TableForm") (S_NEXT : Sta Z hj "com/example/emu/emu/TableForm" "NEXT" "Lcom/example/emu/emu/TableForm;" (.ref m1)) (E_m0 : Exa Z hj m0 "com/example/emu/emu/TableForm") (S_PREFIX : Sta Z hj "com/example/emu/emu/TableForm" "PREFIX" "Lcom/example/emu/emu/TableForm;" (.ref m0)) (F_ordinal_m2 : Fld Z hj m2 "java/lang/Enum" "ordinal" "I" (.int 2)) (F_ordinal_m3 : Fld Z hj m3 "java/lang/Enum" "ordinal" "I" (.int 3)) (F_ordinal_m1 : Fld Z hj m1 "java/lang/Enum" "ordinal" "I" (.int 1)) (F_ordinal_m0 : Fld Z hj m0 "java/lang/Enum" "ordinal" "I" (.int 0)) (Zle : n0 ≤ hj.size) (N_ : Fr n0 locsj) (ne_m2_b1 : m2 ≠ b1) (ne_m3_b1 : m3 ≠ b1) (ne_m1_b1 : m1 ≠ b1) (ne_m0_b1 : m0 ≠ b1) (g_b1 : n0 ≤ b1) (ne_m2_b7 : m2 ≠ b7) (ne_m3_b7 : m3 ≠ b7) (ne_m1_b7 : m1 ≠ b7) (ne_m0_b7 : m0 ≠ b7) (ne_b1_b7 : b1 ≠ b7) (g_b7 : n0 ≤ b7) (ne_m2_b18 : m2 ≠ b18) (ne_m3_b18 : m3 ≠ b18) (ne_m1_b18 : m1 ≠ b18) (ne_m0_b18 : m0 ≠ b18) (ne_b1_b18 : b1 ≠ b18) (ne_b7_b18 : b7 ≠ b18) (g_b18 : n0 ≤ b18) (ne_m2_b28 : m2 ≠ b28) (ne_m3_b28 : m3 ≠ b28) (ne_m1_b28 : m1 ≠ b28) (ne_m0_b28 : m0 ≠ b28) (ne_b1_b28 : b1 ≠ b28) (ne_b7_b28 : b7 ≠ b28) (ne_b18_b28 : b18 ≠ b28) (g_b28 : n0 ≤ b28) (ne_m2_b38 : m2 ≠ b38) (ne_m3_b38 : m3 ≠ b38) (ne_m1_b38 : m1 ≠ b38) (ne_m0_b38 : m0 ≠ b38) (ne_b1_b38 : b1 ≠ b38) (ne_b7_b38 : b7 ≠ b38) (ne_b18_b38 : b18 ≠ b38) (ne_b28_b38 : b28 ≠ b38) (g_b38 : n0 ≤ b38) (ne_m2_b49 : m2 ≠ b49) (ne_m3_b49 : m3 ≠ b49) (ne_m1_b49 : m1 ≠ b49) (ne_m0_b49 : m0 ≠ b49) (ne_b1_b49 : b1 ≠ b49) (ne_b7_b49 : b7 ≠ b49) (ne_b18_b49 : b18 ≠ b49) (ne_b28_b49 : b28 ≠ b49) (ne_b38_b49 : b38 ≠ b49) (g_b49 : n0 ≤ b49) (V_b49 : Arv Z hj b49 k49 .int nn [(.int 0), (.int t1), (.int t2), (.int t3), (.int t4)] (.int 0)) (V_b7 : Arv Z hj b7 k7 .int (5 : Int32) [(.int 0), (.int t1), (.int t2), (.int t3), (.int t4)] (.int 0)) (V_b38 : Arv Z hj b38 k38 .int (5 : Int32) [(.int w0), (.int w1), (.int w2), (.int w3), (.int w4)] (.int 0)) (e_c0 : c0 = (x1 &&& (3 : Int32))) (e_c1 : c1 = (((x1.toUInt32 >>> ((2 : Int32) &&& 31).toUInt32).toInt32) &&& (3 : Int32))) (e_c2 : c2 = (((x1.toUInt32 >>> ((4 : Int32) &&& 31).toUInt32).toInt32) &&& (3 : Int32))) (e_c3 : c3 = (((x1.toUInt32 >>> ((6 : Int32) &&& 31).toUInt32).toInt32) &&& (3 : Int32))) (e_c4 : c4 = (((x1.toUInt32 >>> ((8 : Int32) &&& 31).toUInt32).toInt32) &&& (3 : Int32))) (e_t1 : t1 = (own_bd1 c0 c1 c2 c3 c4)) (HB1 : own_B1 c0 c1 t1) (hr1 : t1 = 0 ∨ t1 = 1) (e_t2 : t2 = (own_bd2 c0 c1 c2 c3 c4)) (HB2 : own_B2 c0 c1 c2 t2) (hr2 : t2 = 0 ∨ t2 = 1 ∨ t2 = 2) (e_t3 : t3 = (own_bd3 c0 c1 c2 c3 c4)) (HB3 : own_B3 c0 c1 c2 c3 t3) (hr3 : t3 = 0 ∨ t3 = 1 ∨ t3 = 2 ∨ t3 = 3) (e_t4 : t4 = (own_bd4 c0 c1 c2 c3 c4)) (HB4 : own_B4 c0 c1 c2 c3 c4 t4) (hr4 : t4 = 0 ∨ t4 = 1 ∨ t4 = 2 ∨ t4 = 3 ∨ t4 = 4) (e_u1 : u1 = (own_nvs c1 (0 : Int32) c0 c1 c2 c3 c4 (-1 : Int32) (0 : Int32) (0 : Int32) (0 : Int32) (0 : Int32))) (e_u2 : u2 = (own_nvs c2 t1 c0 c1 c2 c3 c4 (-1 : Int32) u1 (0 : Int32) (0 : Int32) (0 : Int32))) (e_u3 : u3 = (own_nvs c3 t2 c0 c1 c2 c3 c4 (-1 : Int32) u1 u2 (0 : Int32) (0 : Int32))) (e_u4 : u4 = (own_nvs c4 t3 c0 c1 c2 c3 c4 (-1 : Int32) u1 u2 u3 (0 : Int32))) (e_w0 : w0 = (own_pick (3 : Int32) (0 : Int32) (-1 : Int32) (-1 : Int32))) (e_w1 : w1 = (own_pick (3 : Int32) t1 (0 : Int32) u1)) (e_w2 : w2 = (own_pick (3 : Int32) t2 t1 u2)) (e_w3 : w3 = (own_pick (3 : Int32) t3 t2 u3)) (e_w4 : w4 = (own_pick (3 : Int32) t4 t3 u4)) (e_nn : nn = ((x2 &&& (7 : Int32)) % (6 : Int32))) (hn0 : ¬ nn < 0) (hn5 : nn.toNatClampNeg ≤ 5) (hn6 : nn < 6) : own_Goes p.tables e below s (Q0 Z x1 x2 x3 m0 m1 m2 m3 h0 n0) room_1.cells room_1.slots Tj (mkF m 372 #[vI x1, vI x2, vI x3, vR b1, vR b7, vR b18, vR b28, vI 3, vR b38, vI nn, vR b49, .unset, .unset, .unset] []) := by
  refine own_by (T' := Tj) (g' := (mkF m 374 #[vI x1, vI x2, vI x3, vR b1, vR b7, vR b18, vR b28, vI 3, vR b38, vI nn, vR b49, .unset, .unset, .unset] [(.int 3)])) (fun t k => XS.iload Xj.here hx rfl (hb hby at_372) rfl k) ?_
  refine own_by (T' := Tj) (g' := (mkF m 383 #[vI x1, vI x2, vI x3, vR b1, vR b7, vR b18, vR b28, vI 3, vR b38, vI nn, vR b49, .unset, .unset, .unset] [])) (fun t k => XS.ifYes Xj.here hx rfl (pc0 := 374) (pc' := 383) rfl (hb hby at_374) rfl ((if0 _ _).trans (feq (by decide)).2) (by decide) (by decide) k) ?_
  refine own_by (T' := Tj) (g' := (mkF m 385 #[vI x1, vI x2, vI x3, vR b1, vR b7, vR b18, vR b28, vI 3, vR b38, vI nn, vR b49, .unset, .unset, .unset] [(.int 3)])) (fun t k => XS.iload Xj.here hx rfl (hb hby at_383) rfl k) ?_
  refine own_by (T' := Tj) (g' := (mkF m 386 #[vI x1, vI x2, vI x3, vR b1, vR b7, vR b18, vR b28, vI 3, vR b38, vI nn, vR b49, .unset, .unset, .unset] [(.int 1), (.int 3)])) (fun t k => XS.iconst Xj.here hx rfl (hb hby at_385) k) ?_
  refine own_by (T' := Tj) (g' := (mkF m 395 #[vI x1, vI x2, vI x3, vR b1, vR b7, vR b18, vR b28, vI 3, vR b38, vI nn, vR b49, .unset, .unset, .unset] [])) (fun t k => XS.icmpYes Xj.here hx rfl (pc0 := 386) (pc' := 395) rfl (hb hby at_386) rfl (feq (by decide)).2 (by decide) (by decide) k) ?_
  refine own_by (T' := Tj) (g' := (mkF m 397 #[vI x1, vI x2, vI x3, vR b1, vR b7, vR b18, vR b28, vI 3, vR b38, vI nn, vR b49, .unset, .unset, .unset] [(.int 3)])) (fun t k => XS.iload Xj.here hx rfl (hb hby at_395) rfl k) ?_
  refine own_by (T' := Tj) (g' := (mkF m 398 #[vI x1, vI x2, vI x3, vR b1, vR b7, vR b18, vR b28, vI 3, vR b38, vI nn, vR b49, .unset, .unset, .unset] [(.int 2), (.int 3)])) (fun t k => XS.iconst Xj.here hx rfl (hb hby at_397) k) ?_
  refine own_by (T' := Tj) (g' := (mkF m 407 #[vI x1, vI x2, vI x3, vR b1, vR b7, vR b18, vR b28, vI 3, vR b38, vI nn, vR b49, .unset, .unset, .unset] [])) (fun t k => XS.icmpYes Xj.here hx rfl (pc0 := 398) (pc' := 407) rfl (hb hby at_398) rfl (feq (by decide)).2 (by decide) (by decide) k) ?_
  obtain ⟨T89, X89, e89, st89⟩ := getS2 Xj hx hZ hown (host := "") (Or.inl (hw _ (own_m 38 rfl))) Via.refl ej S_NEXTVAL (g := (mkF m 407 #[vI x1, vI x2, vI x3, vR b1, vR b7, vR b18, vR b28, vI 3, vR b38, vI nn, vR b49, .unset, .unset, .unset] [])) rfl (hb hby at_407)
  refine own_by (T' := T89) (g' := (mkF m 410 #[vI x1, vI x2, vI x3, vR b1, vR b7, vR b18, vR b28, vI 3, vR b38, vI nn, vR b49, .unset, .unset, .unset] [(.ref m3)])) (fun t k => st89 t k) ?_
  clear st89
  refine own_by (T' := T89) (g' := (mkF m 412 #[vI x1, vI x2, vI x3, vR b1, vR b7, vR b18, vR b28, vI 3, vR b38, vI nn, vR b49, vR m3, .unset, .unset] [])) (fun t k => XS.astore X89.here hx rfl (hb hby at_410) rfl rfl (l' := #[vI x1, vI x2, vI x3, vR b1, vR b7, vR b18, vR b28, vI 3, vR b38, vI nn, vR b49, vR m3, .unset, .unset]) rfl k) ?_
  refine own_by (T' := T89) (g' := (mkF m 414 #[vI x1, vI x2, vI x3, vR b1, vR b7, vR b18, vR b28, vI 3, vR b38, vI nn, vR b49, vR m3, .unset, .unset] [(.ref m3)])) (fun t k => XS.aload X89.here hx rfl (hb hby at_412) rfl rfl k) ?_
  refine own_by (T' := T89) (g' := (mkF m 416 #[vI x1, vI x2, vI x3, vR b1, vR b7, vR b18, vR b28, vI 3, vR b38, vI nn, vR b49, vR m3, .unset, .unset] [(.ref b49), (.ref m3)])) (fun t k => XS.aload X89.here hx rfl (hb hby at_414) rfl rfl k) ?_
  have lt_m2_90 := E_m2.lt
  have lt_m3_90 := E_m3.lt
  have lt_m1_90 := E_m1.lt
  have lt_m0_90 := E_m0.lt
  have lt_b49_90 := V_b49.lt
  have lt_b7_90 := V_b7.lt
  have lt_b38_90 := V_b38.lt
  have Zpre90 := Zle
  obtain ⟨cq90, kq90, q90a, q90b, q90c⟩ := isOf hZ e89 E_m3
  obtain ⟨_, _, ⟨T90, L90, k90, n90⟩, -, X90, ⟨Lc90, hQ90, l90, y90, z90⟩, st90⟩ := X89.virtualBack hx (y := (⟨"com/example/emu/emu/TableForm", "fromPrefix", "([I)[I"⟩ : MethodName)) (z := (⟨"com/example/emu/emu/TableForm", "fromPrefix", "([I)[I"⟩ : MethodName)) hown (mvT hZ (hw _ (own_m 17 rfl))) (mvT hZ (hw _ (own_m 18 rfl))) (notFace_of_selects (args := #[]) (mvT hZ (hw _ (own_m 20 rfl)))) (mvT hZ (hw _ (own_m 20 rfl))) (mvT hZ (hw _ (own_m 19 rfl))) (by decide) (backOf (W := 0) (rm5 l Z a0 hw [] m3 b49 nn (3 : Int32) k49 (0 : Int32) t1 t2 t3 t4 hj n0 Zle E_m3 F_ordinal_m3 V_b49 (hn0) (hn5) (hn6) (by decide) (rfl) (hr1) (hr2) (hr3)) hZ (hw _ (own_m 21 rfl)) (hw _ (own_m 15 rfl)) (by decide) (by decide)) q90a q90c (g := (mkF m 416 #[vI x1, vI x2, vI x3, vR b1, vR b7, vR b18, vR b28, vI 3, vR b38, vI nn, vR b49, vR m3, .unset, .unset] [(.ref b49), (.ref m3)])) rfl (by rw [hml]; rfl) (Steps.refl _) (argsL := [(.ref b49)]) (rest := []) (lenOf pd_4 rfl) rfl (own_le rfl) (hb hby at_416) (fun _ _ => ⟨rfl, e89, (by decide : 6 + 1 ≤ _), (by decide : 30 + 5 ≤ _)⟩)
  dsimp only [Pt.U, Pt.locs, Pt.cells, Pt.slots] at X90 l90 y90 z90 st90 hQ90
  subst l90 y90 z90
  obtain ⟨tb_90, g0_90, g1_90, g2_90, g3_90, g4_90, kb_90, rfl, Nq90, c90_0, c90_1, c90_2, c90_3, c90_4, c90_5, c90_6, c90_7⟩ := hQ90
  replace N_ := Fr.app N_ Nq90
  clear Nq90
  replace S_NEXT_ONE_BASED := own_staKeep S_NEXT_ONE_BASED c90_0 all0
  replace S_NEXTVAL := own_staKeep S_NEXTVAL c90_0 all0
  replace S_NEXT := own_staKeep S_NEXT c90_0 all0
  replace S_PREFIX := own_staKeep S_PREFIX c90_0 all0
  replace E_m2 := E_m2.keep c90_0
  replace E_m3 := E_m3.keep c90_0
  replace E_m1 := E_m1.keep c90_0
  replace E_m0 := E_m0.keep c90_0
  replace F_ordinal_m2 := F_ordinal_m2.keep c90_0 nin0
  replace F_ordinal_m3 := F_ordinal_m3.keep c90_0 nin0
  replace F_ordinal_m1 := F_ordinal_m1.keep c90_0 nin0
  replace F_ordinal_m0 := F_ordinal_m0.keep c90_0 nin0
  replace Zle := Nat.le_trans Zle c90_0.1
  replace V_b49 := V_b49.keep c90_0 nin0
  replace V_b7 := V_b7.keep c90_0 nin0
  replace V_b38 := V_b38.keep c90_0 nin0
  have ne_m2_tb_90 : m2 ≠ tb_90 := Nat.ne_of_lt (Nat.lt_of_lt_of_le lt_m2_90 c90_1)
  have ne_m3_tb_90 : m3 ≠ tb_90 := Nat.ne_of_lt (Nat.lt_of_lt_of_le lt_m3_90 c90_1)
  have ne_m1_tb_90 : m1 ≠ tb_90 := Nat.ne_of_lt (Nat.lt_of_lt_of_le lt_m1_90 c90_1)
  have ne_m0_tb_90 : m0 ≠ tb_90 := Nat.ne_of_lt (Nat.lt_of_lt_of_le lt_m0_90 c90_1)
  have ne_b49_tb_90 : b49 ≠ tb_90 := Nat.ne_of_lt (Nat.lt_of_lt_of_le lt_b49_90 c90_1)
  have ne_b7_tb_90 : b7 ≠ tb_90 := Nat.ne_of_lt (Nat.lt_of_lt_of_le lt_b7_90 c90_1)
  have ne_b38_tb_90 : b38 ≠ tb_90 := Nat.ne_of_lt (Nat.lt_of_lt_of_le lt_b38_90 c90_1)
  have g_tb_90 : n0 ≤ tb_90 := Nat.le_trans Zpre90 c90_1
  have HG0 := c90_3
  have HG1 := c90_4
  have HG2 := c90_5
  have HG3 := c90_6
  have HG4 := c90_7
  clear lt_m2_90 lt_m3_90 lt_m1_90 lt_m0_90 lt_b49_90 lt_b7_90 lt_b38_90
  refine own_by (T' := T90) (g' := (mkF m 419 #[vI x1, vI x2, vI x3, vR b1, vR b7, vR b18, vR b28, vI 3, vR b38, vI nn, vR b49, vR m3, .unset, .unset] [(.ref tb_90)])) (fun t k => st90.trans k) ?_
  clear st90 X89 e89
  refine own_by (T' := T90) (g' := (mkF m 421 #[vI x1, vI x2, vI x3, vR b1, vR b7, vR b18, vR b28, vI 3, vR b38, vI nn, vR b49, vR m3, vR tb_90, .unset] [])) (fun t k => XS.astore X90.here hx rfl (hb hby at_419) rfl rfl (l' := #[vI x1, vI x2, vI x3, vR b1, vR b7, vR b18, vR b28, vI 3, vR b38, vI nn, vR b49, vR m3, vR tb_90, .unset]) rfl k) ?_
  refine own_by (T' := T90) (g' := (mkF m 423 #[vI x1, vI x2, vI x3, vR b1, vR b7, vR b18, vR b28, vI 3, vR b38, vI nn, vR b49, vR m3, vR tb_90, .unset] [(.ref tb_90)])) (fun t k => XS.aload X90.here hx rfl (hb hby at_421) rfl rfl k) ?_
  obtain ⟨cl91, Ar91, -, S91, N91, -, -⟩ := id c90_2
  have st91 : ∀ t, Steps p.tables e below (T90.setTop (mkF m 424 #[vI x1, vI x2, vI x3, vR b1, vR b7, vR b18, vR b28, vI 3, vR b38, vI nn, vR b49, vR m3, vR tb_90, .unset] [(.int nn)])) t → Steps p.tables e below (T90.setTop (mkF m 423 #[vI x1, vI x2, vI x3, vR b1, vR b7, vR b18, vR b28, vI 3, vR b38, vI nn, vR b49, vR m3, vR tb_90, .unset] [(.ref tb_90)])) t := fun t k => X90.arraylength hx (by exact Ar91.1) (State.isArrayOf_alike hZ.alike Ar91.2.1) (g := (mkF m 423 #[vI x1, vI x2, vI x3, vR b1, vR b7, vR b18, vR b28, vI 3, vR b38, vI nn, vR b49, vR m3, vR tb_90, .unset] [(.ref tb_90)])) rfl rfl (hb hby at_423) _ (by rw [len_of S91 N91]; exact k)
  refine own_by (T' := T90) (g' := (mkF m 424 #[vI x1, vI x2, vI x3, vR b1, vR b7, vR b18, vR b28, vI 3, vR b38, vI nn, vR b49, vR m3, vR tb_90, .unset] [(.int nn)])) (fun t k => st91 t k) ?_
  clear st91
  refine own_by (T' := T90) (g' := (mkF m 426 #[vI x1, vI x2, vI x3, vR b1, vR b7, vR b18, vR b28, vI 3, vR b38, vI nn, vR b49, vR m3, vR tb_90, .unset] [(.int nn), (.int nn)])) (fun t k => XS.iload X90.here hx rfl (hb hby at_424) rfl k) ?_
  refine own_by (T' := T90) (g' := (mkF m 429 #[vI x1, vI x2, vI x3, vR b1, vR b7, vR b18, vR b28, vI 3, vR b38, vI nn, vR b49, vR m3, vR tb_90, .unset] [])) (fun t k => XS.icmpNo X90.here hx rfl (hb hby at_426) rfl (teq (rfl : nn = nn)).2 k) ?_
  refine own_by (T' := T90) (g' := (mkF m 430 #[vI x1, vI x2, vI x3, vR b1, vR b7, vR b18, vR b28, vI 3, vR b38, vI nn, vR b49, vR m3, vR tb_90, .unset] [(.int 1)])) (fun t k => XS.iconst X90.here hx rfl (hb hby at_429) k) ?_
  refine own_by (T' := T90) (g' := (mkF m 434 #[vI x1, vI x2, vI x3, vR b1, vR b7, vR b18, vR b28, vI 3, vR b38, vI nn, vR b49, vR m3, vR tb_90, .unset] [(.int 1)])) (fun t k => XS.goto X90.here hx rfl (pc0 := 430) (pc' := 434) rfl (hb hby at_430) (by decide) (by decide) k) ?_
  refine own_by (T' := T90) (g' := (mkF m 436 #[vI x1, vI x2, vI x3, vR b1, vR b7, vR b18, vR b28, vI 3, vR b38, vI nn, vR b49, vR m3, vR tb_90, vI 1] [])) (fun t k => XS.istore X90.here hx rfl (hb hby at_434) rfl (l' := #[vI x1, vI x2, vI x3, vR b1, vR b7, vR b18, vR b28, vI 3, vR b38, vI nn, vR b49, vR m3, vR tb_90, vI 1]) rfl k) ?_
  have GU0 : (0 : Int32) < nn → g0_90 = w0 := fun q => by rw [HG0 q, e_w0]; rfl
  have GV1 : (1 : Int32) < nn → g1_90 = u1 := fun q => by rw [HG1 q, e_u1]; exact own_gu1 (own_same1 HB1) (rfl) ((HG0 (own_lt (by decide) q)).trans rfl)
  have GU1 : (1 : Int32) < nn → g1_90 = w1 := fun q => by rw [GV1 q, e_w1]; rfl
  have GV2 : (2 : Int32) < nn → g2_90 = u2 := fun q => by rw [HG2 q, e_u2]; exact own_gu2 (own_same2 HB1 HB2) (hr1) ((HG0 (own_lt (by decide) q)).trans rfl) (GV1 (own_lt (by decide) q))
  have GU2 : (2 : Int32) < nn → g2_90 = w2 := fun q => by rw [GV2 q, e_w2]; rfl
  have GV3 : (3 : Int32) < nn → g3_90 = u3 := fun q => by rw [HG3 q, e_u3]; exact own_gu3 (own_same3 HB2 HB3) (hr2) ((HG0 (own_lt (by decide) q)).trans rfl) (GV1 (own_lt (by decide) q)) (GV2 (own_lt (by decide) q))
  have GU3 : (3 : Int32) < nn → g3_90 = w3 := fun q => by rw [GV3 q, e_w3]; rfl
  have GV4 : (4 : Int32) < nn → g4_90 = u4 := fun q => by rw [HG4 q, e_u4]; exact own_gu4 (own_same4 HB3 HB4) (hr3) ((HG0 (own_lt (by decide) q)).trans rfl) (GV1 (own_lt (by decide) q)) (GV2 (own_lt (by decide) q)) (GV3 (own_lt (by decide) q))
  have GU4 : (4 : Int32) < nn → g4_90 = w4 := fun q => by rw [GV4 q, e_w4]; rfl
  refine own_by (T' := T90) (g' := (mkF m 438 #[vI x1, vI x2, vI x3, vR b1, vR b7, vR b18, vR b28, vI 3, vR b38, vI nn, vR b49, vR m3, vR tb_90, vI 1] [(.int 1)])) (fun t k => XS.iload X90.here hx rfl (hb hby at_436) rfl k) ?_
  refine own_by (T' := T90) (g' := (mkF m 441 #[vI x1, vI x2, vI x3, vR b1, vR b7, vR b18, vR b28, vI 3, vR b38, vI nn, vR b49, vR m3, vR tb_90, vI 1] [])) (fun t k => XS.ifNo X90.here hx rfl (hb hby at_438) rfl ((if0 _ _).trans (feq (by decide)).1) k) ?_
  refine own_by (T' := T90) (g' := (mkF m 443 #[vI x1, vI x2, vI x3, vR b1, vR b7, vR b18, vR b28, vI 3, vR b38, vI nn, vR b49, vR m3, vR tb_90, vI 1] [(.ref tb_90)])) (fun t k => XS.aload X90.here hx rfl (hb hby at_441) rfl rfl k) ?_
  refine own_by (T' := T90) (g' := (mkF m 445 #[vI x1, vI x2, vI x3, vR b1, vR b7, vR b18, vR b28, vI 3, vR b38, vI nn, vR b49, vR m3, vR tb_90, vI 1] [(.ref b38), (.ref tb_90)])) (fun t k => XS.aload X90.here hx rfl (hb hby at_443) rfl rfl k) ?_
  refine own_by (T' := T90) (g' := (mkF m 446 #[vI x1, vI x2, vI x3, vR b1, vR b7, vR b18, vR b28, vI 3, vR b38, vI nn, vR b49, vR m3, vR tb_90, vI 1] [(.int 0), (.ref b38), (.ref tb_90)])) (fun t k => XS.iconst X90.here hx rfl (hb hby at_445) k) ?_
  obtain ⟨_, _, ⟨T92, L92, k92, n92⟩, -, X92, ⟨Lc92, hQ92, l92, y92, z92⟩, st92⟩ := Jvm.LawKit.callS X90 hx (y := (⟨"com/example/emu/emu/TableFormFromPrefixPinLaw", "agree", "([I[II)Z"⟩ : MethodName)) hown (mvT hZ (hw _ (own_m 35 rfl))) (mvT hZ (hw _ (own_m 36 rfl))) (mvT hZ (hw _ (own_m 3 rfl))) (mvT hZ (hw _ (own_m 37 rfl))) (by decide) (backOf (W := 0) (rm8_0 l Z a0 hw [] tb_90 b38 nn kb_90 k38 g0_90 g1_90 g2_90 g3_90 g4_90 w0 w1 w2 w3 w4 T90.heap n0 Zle c90_2 V_b38 (GU0)) hZ (hw _ (own_m 37 rfl)) (hw _ (own_m 3 rfl)) (by decide) (by decide)) (g := (mkF m 446 #[vI x1, vI x2, vI x3, vR b1, vR b7, vR b18, vR b28, vI 3, vR b38, vI nn, vR b49, vR m3, vR tb_90, vI 1] [(.int 0), (.ref b38), (.ref tb_90)])) rfl (by rw [hml]; rfl) (argsL := [(.ref tb_90), (.ref b38), (.int 0)]) (rest := []) (lenOf pd_7 rfl) rfl (own_le rfl) (hb hby at_446) (fun _ _ => ⟨rfl, rfl, (by decide : 7 + 0 ≤ _), (by decide : 35 + 0 ≤ _)⟩)
  dsimp only [Pt.U, Pt.locs, Pt.cells, Pt.slots] at X92 l92 y92 z92 st92 hQ92
  subst l92 y92 z92
  obtain ⟨rfl, Nq92, e92⟩ := hQ92
  replace N_ := Fr.app N_ Nq92
  clear Nq92
  refine own_by (T' := T92) (g' := (mkF m 449 #[vI x1, vI x2, vI x3, vR b1, vR b7, vR b18, vR b28, vI 3, vR b38, vI nn, vR b49, vR m3, vR tb_90, vI 1] [(.int 1)])) (fun t k => st92 _ k) ?_
  clear st92 X90
  refine own_by (T' := T92) (g' := (mkF m 452 #[vI x1, vI x2, vI x3, vR b1, vR b7, vR b18, vR b28, vI 3, vR b38, vI nn, vR b49, vR m3, vR tb_90, vI 1] [])) (fun t k => XS.ifNo X92.here hx rfl (hb hby at_449) rfl ((if0 _ _).trans (feq (by decide)).1) k) ?_
  refine own_by (T' := T92) (g' := (mkF m 454 #[vI x1, vI x2, vI x3, vR b1, vR b7, vR b18, vR b28, vI 3, vR b38, vI nn, vR b49, vR m3, vR tb_90, vI 1] [(.ref tb_90)])) (fun t k => XS.aload X92.here hx rfl (hb hby at_452) rfl rfl k) ?_
  refine own_by (T' := T92) (g' := (mkF m 456 #[vI x1, vI x2, vI x3, vR b1, vR b7, vR b18, vR b28, vI 3, vR b38, vI nn, vR b49, vR m3, vR tb_90, vI 1] [(.ref b38), (.ref tb_90)])) (fun t k => XS.aload X92.here hx rfl (hb hby at_454) rfl rfl k) ?_
  refine own_by (T' := T92) (g' := (mkF m 457 #[vI x1, vI x2, vI x3, vR b1, vR b7, vR b18, vR b28, vI 3, vR b38, vI nn, vR b49, vR m3, vR tb_90, vI 1] [(.int 1), (.ref b38), (.ref tb_90)])) (fun t k => XS.iconst X92.here hx rfl (hb hby at_456) k) ?_
  obtain ⟨_, _, ⟨T93, L93, k93, n93⟩, -, X93, ⟨Lc93, hQ93, l93, y93, z93⟩, st93⟩ := Jvm.LawKit.callS X92 hx (y := (⟨"com/example/emu/emu/TableFormFromPrefixPinLaw", "agree", "([I[II)Z"⟩ : MethodName)) hown (mvT hZ (hw _ (own_m 35 rfl))) (mvT hZ (hw _ (own_m 36 rfl))) (mvT hZ (hw _ (own_m 3 rfl))) (mvT hZ (hw _ (own_m 37 rfl))) (by decide) (backOf (W := 0) (rm8_1 l Z a0 hw [] tb_90 b38 nn kb_90 k38 g0_90 g1_90 g2_90 g3_90 g4_90 w0 w1 w2 w3 w4 T90.heap n0 Zle c90_2 V_b38 (GU1)) hZ (hw _ (own_m 37 rfl)) (hw _ (own_m 3 rfl)) (by decide) (by decide)) (g := (mkF m 457 #[vI x1, vI x2, vI x3, vR b1, vR b7, vR b18, vR b28, vI 3, vR b38, vI nn, vR b49, vR m3, vR tb_90, vI 1] [(.int 1), (.ref b38), (.ref tb_90)])) rfl (by rw [hml]; rfl) (argsL := [(.ref tb_90), (.ref b38), (.int 1)]) (rest := []) (lenOf pd_7 rfl) rfl (own_le rfl) (hb hby at_457) (fun _ _ => ⟨rfl, e92, (by decide : 7 + 0 ≤ _), (by decide : 35 + 0 ≤ _)⟩)
  dsimp only [Pt.U, Pt.locs, Pt.cells, Pt.slots] at X93 l93 y93 z93 st93 hQ93
  subst l93 y93 z93
  obtain ⟨rfl, Nq93, e93⟩ := hQ93
  replace N_ := Fr.app N_ Nq93
  clear Nq93
  refine own_by (T' := T93) (g' := (mkF m 460 #[vI x1, vI x2, vI x3, vR b1, vR b7, vR b18, vR b28, vI 3, vR b38, vI nn, vR b49, vR m3, vR tb_90, vI 1] [(.int 1)])) (fun t k => st93 _ k) ?_
  clear st93 X92 e92
  refine own_by (T' := T93) (g' := (mkF m 463 #[vI x1, vI x2, vI x3, vR b1, vR b7, vR b18, vR b28, vI 3, vR b38, vI nn, vR b49, vR m3, vR tb_90, vI 1] [])) (fun t k => XS.ifNo X93.here hx rfl (hb hby at_460) rfl ((if0 _ _).trans (feq (by decide)).1) k) ?_
  refine own_by (T' := T93) (g' := (mkF m 465 #[vI x1, vI x2, vI x3, vR b1, vR b7, vR b18, vR b28, vI 3, vR b38, vI nn, vR b49, vR m3, vR tb_90, vI 1] [(.ref tb_90)])) (fun t k => XS.aload X93.here hx rfl (hb hby at_463) rfl rfl k) ?_
  refine own_by (T' := T93) (g' := (mkF m 467 #[vI x1, vI x2, vI x3, vR b1, vR b7, vR b18, vR b28, vI 3, vR b38, vI nn, vR b49, vR m3, vR tb_90, vI 1] [(.ref b38), (.ref tb_90)])) (fun t k => XS.aload X93.here hx rfl (hb hby at_465) rfl rfl k) ?_
  refine own_by (T' := T93) (g' := (mkF m 468 #[vI x1, vI x2, vI x3, vR b1, vR b7, vR b18, vR b28, vI 3, vR b38, vI nn, vR b49, vR m3, vR tb_90, vI 1] [(.int 2), (.ref b38), (.ref tb_90)])) (fun t k => XS.iconst X93.here hx rfl (hb hby at_467) k) ?_
  obtain ⟨_, _, ⟨T94, L94, k94, n94⟩, -, X94, ⟨Lc94, hQ94, l94, y94, z94⟩, st94⟩ := Jvm.LawKit.callS X93 hx (y := (⟨"com/example/emu/emu/TableFormFromPrefixPinLaw", "agree", "([I[II)Z"⟩ : MethodName)) hown (mvT hZ (hw _ (own_m 35 rfl))) (mvT hZ (hw _ (own_m 36 rfl))) (mvT hZ (hw _ (own_m 3 rfl))) (mvT hZ (hw _ (own_m 37 rfl))) (by decide) (backOf (W := 0) (rm8_2 l Z a0 hw [] tb_90 b38 nn kb_90 k38 g0_90 g1_90 g2_90 g3_90 g4_90 w0 w1 w2 w3 w4 T90.heap n0 Zle c90_2 V_b38 (GU2)) hZ (hw _ (own_m 37 rfl)) (hw _ (own_m 3 rfl)) (by decide) (by decide)) (g := (mkF m 468 #[vI x1, vI x2, vI x3, vR b1, vR b7, vR b18, vR b28, vI 3, vR b38, vI nn, vR b49, vR m3, vR tb_90, vI 1] [(.int 2), (.ref b38), (.ref tb_90)])) rfl (by rw [hml]; rfl) (argsL := [(.ref tb_90), (.ref b38), (.int 2)]) (rest := []) (lenOf pd_7 rfl) rfl (own_le rfl) (hb hby at_468) (fun _ _ => ⟨rfl, e93, (by decide : 7 + 0 ≤ _), (by decide : 35 + 0 ≤ _)⟩)
  dsimp only [Pt.U, Pt.locs, Pt.cells, Pt.slots] at X94 l94 y94 z94 st94 hQ94
  subst l94 y94 z94
  obtain ⟨rfl, Nq94, e94⟩ := hQ94
  replace N_ := Fr.app N_ Nq94
  clear Nq94
  refine own_by (T' := T94) (g' := (mkF m 471 #[vI x1, vI x2, vI x3, vR b1, vR b7, vR b18, vR b28, vI 3, vR b38, vI nn, vR b49, vR m3, vR tb_90, vI 1] [(.int 1)])) (fun t k => st94 _ k) ?_
  clear st94 X93 e93
  refine own_by (T' := T94) (g' := (mkF m 474 #[vI x1, vI x2, vI x3, vR b1, vR b7, vR b18, vR b28, vI 3, vR b38, vI nn, vR b49, vR m3, vR tb_90, vI 1] [])) (fun t k => XS.ifNo X94.here hx rfl (hb hby at_471) rfl ((if0 _ _).trans (feq (by decide)).1) k) ?_
  refine own_by (T' := T94) (g' := (mkF m 476 #[vI x1, vI x2, vI x3, vR b1, vR b7, vR b18, vR b28, vI 3, vR b38, vI nn, vR b49, vR m3, vR tb_90, vI 1] [(.ref tb_90)])) (fun t k => XS.aload X94.here hx rfl (hb hby at_474) rfl rfl k) ?_
  refine own_by (T' := T94) (g' := (mkF m 478 #[vI x1, vI x2, vI x3, vR b1, vR b7, vR b18, vR b28, vI 3, vR b38, vI nn, vR b49, vR m3, vR tb_90, vI 1] [(.ref b38), (.ref tb_90)])) (fun t k => XS.aload X94.here hx rfl (hb hby at_476) rfl rfl k) ?_
  refine own_by (T' := T94) (g' := (mkF m 479 #[vI x1, vI x2, vI x3, vR b1, vR b7, vR b18, vR b28, vI 3, vR b38, vI nn, vR b49, vR m3, vR tb_90, vI 1] [(.int 3), (.ref b38), (.ref tb_90)])) (fun t k => XS.iconst X94.here hx rfl (hb hby at_478) k) ?_
  obtain ⟨_, _, ⟨T95, L95, k95, n95⟩, -, X95, ⟨Lc95, hQ95, l95, y95, z95⟩, st95⟩ := Jvm.LawKit.callS X94 hx (y := (⟨"com/example/emu/emu/TableFormFromPrefixPinLaw", "agree", "([I[II)Z"⟩ : MethodName)) hown (mvT hZ (hw _ (own_m 35 rfl))) (mvT hZ (hw _ (own_m 36 rfl))) (mvT hZ (hw _ (own_m 3 rfl))) (mvT hZ (hw _ (own_m 37 rfl))) (by decide) (backOf (W := 0) (rm8_3 l Z a0 hw [] tb_90 b38 nn kb_90 k38 g0_90 g1_90 g2_90 g3_90 g4_90 w0 w1 w2 w3 w4 T90.heap n0 Zle c90_2 V_b38 (GU3)) hZ (hw _ (own_m 37 rfl)) (hw _ (own_m 3 rfl)) (by decide) (by decide)) (g := (mkF m 479 #[vI x1, vI x2, vI x3, vR b1, vR b7, vR b18, vR b28, vI 3, vR b38, vI nn, vR b49, vR m3, vR tb_90, vI 1] [(.int 3), (.ref b38), (.ref tb_90)])) rfl (by rw [hml]; rfl) (argsL := [(.ref tb_90), (.ref b38), (.int 3)]) (rest := []) (lenOf pd_7 rfl) rfl (own_le rfl) (hb hby at_479) (fun _ _ => ⟨rfl, e94, (by decide : 7 + 0 ≤ _), (by decide : 35 + 0 ≤ _)⟩)
  dsimp only [Pt.U, Pt.locs, Pt.cells, Pt.slots] at X95 l95 y95 z95 st95 hQ95
  subst l95 y95 z95
  obtain ⟨rfl, Nq95, e95⟩ := hQ95
  replace N_ := Fr.app N_ Nq95
  clear Nq95
  refine own_by (T' := T95) (g' := (mkF m 482 #[vI x1, vI x2, vI x3, vR b1, vR b7, vR b18, vR b28, vI 3, vR b38, vI nn, vR b49, vR m3, vR tb_90, vI 1] [(.int 1)])) (fun t k => st95 _ k) ?_
  clear st95 X94 e94
  refine own_by (T' := T95) (g' := (mkF m 485 #[vI x1, vI x2, vI x3, vR b1, vR b7, vR b18, vR b28, vI 3, vR b38, vI nn, vR b49, vR m3, vR tb_90, vI 1] [])) (fun t k => XS.ifNo X95.here hx rfl (hb hby at_482) rfl ((if0 _ _).trans (feq (by decide)).1) k) ?_
  refine own_by (T' := T95) (g' := (mkF m 487 #[vI x1, vI x2, vI x3, vR b1, vR b7, vR b18, vR b28, vI 3, vR b38, vI nn, vR b49, vR m3, vR tb_90, vI 1] [(.ref tb_90)])) (fun t k => XS.aload X95.here hx rfl (hb hby at_485) rfl rfl k) ?_
  refine own_by (T' := T95) (g' := (mkF m 489 #[vI x1, vI x2, vI x3, vR b1, vR b7, vR b18, vR b28, vI 3, vR b38, vI nn, vR b49, vR m3, vR tb_90, vI 1] [(.ref b38), (.ref tb_90)])) (fun t k => XS.aload X95.here hx rfl (hb hby at_487) rfl rfl k) ?_
  refine own_by (T' := T95) (g' := (mkF m 490 #[vI x1, vI x2, vI x3, vR b1, vR b7, vR b18, vR b28, vI 3, vR b38, vI nn, vR b49, vR m3, vR tb_90, vI 1] [(.int 4), (.ref b38), (.ref tb_90)])) (fun t k => XS.iconst X95.here hx rfl (hb hby at_489) k) ?_
  obtain ⟨_, _, ⟨T96, L96, k96, n96⟩, -, X96, ⟨Lc96, hQ96, l96, y96, z96⟩, st96⟩ := Jvm.LawKit.callS X95 hx (y := (⟨"com/example/emu/emu/TableFormFromPrefixPinLaw", "agree", "([I[II)Z"⟩ : MethodName)) hown (mvT hZ (hw _ (own_m 35 rfl))) (mvT hZ (hw _ (own_m 36 rfl))) (mvT hZ (hw _ (own_m 3 rfl))) (mvT hZ (hw _ (own_m 37 rfl))) (by decide) (backOf (W := 0) (rm8_4 l Z a0 hw [] tb_90 b38 nn kb_90 k38 g0_90 g1_90 g2_90 g3_90 g4_90 w0 w1 w2 w3 w4 T90.heap n0 Zle c90_2 V_b38 (GU4)) hZ (hw _ (own_m 37 rfl)) (hw _ (own_m 3 rfl)) (by decide) (by decide)) (g := (mkF m 490 #[vI x1, vI x2, vI x3, vR b1, vR b7, vR b18, vR b28, vI 3, vR b38, vI nn, vR b49, vR m3, vR tb_90, vI 1] [(.int 4), (.ref b38), (.ref tb_90)])) rfl (by rw [hml]; rfl) (argsL := [(.ref tb_90), (.ref b38), (.int 4)]) (rest := []) (lenOf pd_7 rfl) rfl (own_le rfl) (hb hby at_490) (fun _ _ => ⟨rfl, e95, (by decide : 7 + 0 ≤ _), (by decide : 35 + 0 ≤ _)⟩)
  dsimp only [Pt.U, Pt.locs, Pt.cells, Pt.slots] at X96 l96 y96 z96 st96 hQ96
  subst l96 y96 z96
  obtain ⟨rfl, Nq96, e96⟩ := hQ96
  replace N_ := Fr.app N_ Nq96
  clear Nq96
  refine own_by (T' := T96) (g' := (mkF m 493 #[vI x1, vI x2, vI x3, vR b1, vR b7, vR b18, vR b28, vI 3, vR b38, vI nn, vR b49, vR m3, vR tb_90, vI 1] [(.int 1)])) (fun t k => st96 _ k) ?_
  clear st96 X95 e95
  refine own_by (T' := T96) (g' := (mkF m 496 #[vI x1, vI x2, vI x3, vR b1, vR b7, vR b18, vR b28, vI 3, vR b38, vI nn, vR b49, vR m3, vR tb_90, vI 1] [])) (fun t k => XS.ifNo X96.here hx rfl (hb hby at_493) rfl ((if0 _ _).trans (feq (by decide)).1) k) ?_
  refine own_by (T' := T96) (g' := (mkF m 497 #[vI x1, vI x2, vI x3, vR b1, vR b7, vR b18, vR b28, vI 3, vR b38, vI nn, vR b49, vR m3, vR tb_90, vI 1] [(.int 1)])) (fun t k => XS.iconst X96.here hx rfl (hb hby at_496) k) ?_
  refine own_by (T' := T96) (g' := (mkF m 501 #[vI x1, vI x2, vI x3, vR b1, vR b7, vR b18, vR b28, vI 3, vR b38, vI nn, vR b49, vR m3, vR tb_90, vI 1] [(.int 1)])) (fun t k => XS.goto X96.here hx rfl (pc0 := 497) (pc' := 501) rfl (hb hby at_497) (by decide) (by decide) k) ?_
  refine own_by (T' := T96) (g' := (mkF m 503 #[vI x1, vI x2, vI x3, vR b1, vR b7, vR b18, vR b28, vI 3, vR b38, vI nn, vR b49, vR m3, vR tb_90, vI 1] [])) (fun t k => XS.istore X96.here hx rfl (hb hby at_501) rfl (l' := #[vI x1, vI x2, vI x3, vR b1, vR b7, vR b18, vR b28, vI 3, vR b38, vI nn, vR b49, vR m3, vR tb_90, vI 1]) rfl k) ?_
  refine own_by (T' := T96) (g' := (mkF m 505 #[vI x1, vI x2, vI x3, vR b1, vR b7, vR b18, vR b28, vI 3, vR b38, vI nn, vR b49, vR m3, vR tb_90, vI 1] [(.int 1)])) (fun t k => XS.iload X96.here hx rfl (hb hby at_503) rfl k) ?_
  refine own_by (T' := T96) (g' := (mkF m 508 #[vI x1, vI x2, vI x3, vR b1, vR b7, vR b18, vR b28, vI 3, vR b38, vI nn, vR b49, vR m3, vR tb_90, vI 1] [])) (fun t k => XS.ifNo X96.here hx rfl (hb hby at_505) rfl ((if0 _ _).trans (feq (by decide)).1) k) ?_
  refine own_by (T' := T96) (g' := (mkF m 510 #[vI x1, vI x2, vI x3, vR b1, vR b7, vR b18, vR b28, vI 3, vR b38, vI nn, vR b49, vR m3, vR tb_90, vI 1] [(.ref b49)])) (fun t k => XS.aload X96.here hx rfl (hb hby at_508) rfl rfl k) ?_
  refine own_by (T' := T96) (g' := (mkF m 512 #[vI x1, vI x2, vI x3, vR b1, vR b7, vR b18, vR b28, vI 3, vR b38, vI nn, vR b49, vR m3, vR tb_90, vI 1] [(.ref b7), (.ref b49)])) (fun t k => XS.aload X96.here hx rfl (hb hby at_510) rfl rfl k) ?_
  refine own_by (T' := T96) (g' := (mkF m 513 #[vI x1, vI x2, vI x3, vR b1, vR b7, vR b18, vR b28, vI 3, vR b38, vI nn, vR b49, vR m3, vR tb_90, vI 1] [(.int 0), (.ref b7), (.ref b49)])) (fun t k => XS.iconst X96.here hx rfl (hb hby at_512) k) ?_
  obtain ⟨_, _, ⟨T97, L97, k97, n97⟩, -, X97, ⟨Lc97, hQ97, l97, y97, z97⟩, st97⟩ := Jvm.LawKit.callS X96 hx (y := (⟨"com/example/emu/emu/TableFormFromPrefixPinLaw", "agree", "([I[II)Z"⟩ : MethodName)) hown (mvT hZ (hw _ (own_m 35 rfl))) (mvT hZ (hw _ (own_m 36 rfl))) (mvT hZ (hw _ (own_m 3 rfl))) (mvT hZ (hw _ (own_m 37 rfl))) (by decide) (backOf (W := 0) (rm8_0 l Z a0 hw [] b49 b7 nn k49 k7 (0 : Int32) t1 t2 t3 t4 (0 : Int32) t1 t2 t3 t4 T90.heap n0 Zle V_b49 V_b7 (fun _ => rfl)) hZ (hw _ (own_m 37 rfl)) (hw _ (own_m 3 rfl)) (by decide) (by decide)) (g := (mkF m 513 #[vI x1, vI x2, vI x3, vR b1, vR b7, vR b18, vR b28, vI 3, vR b38, vI nn, vR b49, vR m3, vR tb_90, vI 1] [(.int 0), (.ref b7), (.ref b49)])) rfl (by rw [hml]; rfl) (argsL := [(.ref b49), (.ref b7), (.int 0)]) (rest := []) (lenOf pd_7 rfl) rfl (own_le rfl) (hb hby at_513) (fun _ _ => ⟨rfl, e96, (by decide : 7 + 0 ≤ _), (by decide : 35 + 0 ≤ _)⟩)
  dsimp only [Pt.U, Pt.locs, Pt.cells, Pt.slots] at X97 l97 y97 z97 st97 hQ97
  subst l97 y97 z97
  obtain ⟨rfl, Nq97, e97⟩ := hQ97
  replace N_ := Fr.app N_ Nq97
  clear Nq97
  refine own_by (T' := T97) (g' := (mkF m 516 #[vI x1, vI x2, vI x3, vR b1, vR b7, vR b18, vR b28, vI 3, vR b38, vI nn, vR b49, vR m3, vR tb_90, vI 1] [(.int 1)])) (fun t k => st97 _ k) ?_
  clear st97 X96 e96
  refine own_by (T' := T97) (g' := (mkF m 519 #[vI x1, vI x2, vI x3, vR b1, vR b7, vR b18, vR b28, vI 3, vR b38, vI nn, vR b49, vR m3, vR tb_90, vI 1] [])) (fun t k => XS.ifNo X97.here hx rfl (hb hby at_516) rfl ((if0 _ _).trans (feq (by decide)).1) k) ?_
  refine own_by (T' := T97) (g' := (mkF m 521 #[vI x1, vI x2, vI x3, vR b1, vR b7, vR b18, vR b28, vI 3, vR b38, vI nn, vR b49, vR m3, vR tb_90, vI 1] [(.ref b49)])) (fun t k => XS.aload X97.here hx rfl (hb hby at_519) rfl rfl k) ?_
  refine own_by (T' := T97) (g' := (mkF m 523 #[vI x1, vI x2, vI x3, vR b1, vR b7, vR b18, vR b28, vI 3, vR b38, vI nn, vR b49, vR m3, vR tb_90, vI 1] [(.ref b7), (.ref b49)])) (fun t k => XS.aload X97.here hx rfl (hb hby at_521) rfl rfl k) ?_
  refine own_by (T' := T97) (g' := (mkF m 524 #[vI x1, vI x2, vI x3, vR b1, vR b7, vR b18, vR b28, vI 3, vR b38, vI nn, vR b49, vR m3, vR tb_90, vI 1] [(.int 1), (.ref b7), (.ref b49)])) (fun t k => XS.iconst X97.here hx rfl (hb hby at_523) k) ?_
  obtain ⟨_, _, ⟨T98, L98, k98, n98⟩, -, X98, ⟨Lc98, hQ98, l98, y98, z98⟩, st98⟩ := Jvm.LawKit.callS X97 hx (y := (⟨"com/example/emu/emu/TableFormFromPrefixPinLaw", "agree", "([I[II)Z"⟩ : MethodName)) hown (mvT hZ (hw _ (own_m 35 rfl))) (mvT hZ (hw _ (own_m 36 rfl))) (mvT hZ (hw _ (own_m 3 rfl))) (mvT hZ (hw _ (own_m 37 rfl))) (by decide) (backOf (W := 0) (rm8_1 l Z a0 hw [] b49 b7 nn k49 k7 (0 : Int32) t1 t2 t3 t4 (0 : Int32) t1 t2 t3 t4 T90.heap n0 Zle V_b49 V_b7 (fun _ => rfl)) hZ (hw _ (own_m 37 rfl)) (hw _ (own_m 3 rfl)) (by decide) (by decide)) (g := (mkF m 524 #[vI x1, vI x2, vI x3, vR b1, vR b7, vR b18, vR b28, vI 3, vR b38, vI nn, vR b49, vR m3, vR tb_90, vI 1] [(.int 1), (.ref b7), (.ref b49)])) rfl (by rw [hml]; rfl) (argsL := [(.ref b49), (.ref b7), (.int 1)]) (rest := []) (lenOf pd_7 rfl) rfl (own_le rfl) (hb hby at_524) (fun _ _ => ⟨rfl, e97, (by decide : 7 + 0 ≤ _), (by decide : 35 + 0 ≤ _)⟩)
  dsimp only [Pt.U, Pt.locs, Pt.cells, Pt.slots] at X98 l98 y98 z98 st98 hQ98
  subst l98 y98 z98
  obtain ⟨rfl, Nq98, e98⟩ := hQ98
  replace N_ := Fr.app N_ Nq98
  clear Nq98
  refine own_by (T' := T98) (g' := (mkF m 527 #[vI x1, vI x2, vI x3, vR b1, vR b7, vR b18, vR b28, vI 3, vR b38, vI nn, vR b49, vR m3, vR tb_90, vI 1] [(.int 1)])) (fun t k => st98 _ k) ?_
  clear st98 X97 e97
  refine own_by (T' := T98) (g' := (mkF m 530 #[vI x1, vI x2, vI x3, vR b1, vR b7, vR b18, vR b28, vI 3, vR b38, vI nn, vR b49, vR m3, vR tb_90, vI 1] [])) (fun t k => XS.ifNo X98.here hx rfl (hb hby at_527) rfl ((if0 _ _).trans (feq (by decide)).1) k) ?_
  refine own_by (T' := T98) (g' := (mkF m 532 #[vI x1, vI x2, vI x3, vR b1, vR b7, vR b18, vR b28, vI 3, vR b38, vI nn, vR b49, vR m3, vR tb_90, vI 1] [(.ref b49)])) (fun t k => XS.aload X98.here hx rfl (hb hby at_530) rfl rfl k) ?_
  refine own_by (T' := T98) (g' := (mkF m 534 #[vI x1, vI x2, vI x3, vR b1, vR b7, vR b18, vR b28, vI 3, vR b38, vI nn, vR b49, vR m3, vR tb_90, vI 1] [(.ref b7), (.ref b49)])) (fun t k => XS.aload X98.here hx rfl (hb hby at_532) rfl rfl k) ?_
  refine own_by (T' := T98) (g' := (mkF m 535 #[vI x1, vI x2, vI x3, vR b1, vR b7, vR b18, vR b28, vI 3, vR b38, vI nn, vR b49, vR m3, vR tb_90, vI 1] [(.int 2), (.ref b7), (.ref b49)])) (fun t k => XS.iconst X98.here hx rfl (hb hby at_534) k) ?_
  obtain ⟨_, _, ⟨T99, L99, k99, n99⟩, -, X99, ⟨Lc99, hQ99, l99, y99, z99⟩, st99⟩ := Jvm.LawKit.callS X98 hx (y := (⟨"com/example/emu/emu/TableFormFromPrefixPinLaw", "agree", "([I[II)Z"⟩ : MethodName)) hown (mvT hZ (hw _ (own_m 35 rfl))) (mvT hZ (hw _ (own_m 36 rfl))) (mvT hZ (hw _ (own_m 3 rfl))) (mvT hZ (hw _ (own_m 37 rfl))) (by decide) (backOf (W := 0) (rm8_2 l Z a0 hw [] b49 b7 nn k49 k7 (0 : Int32) t1 t2 t3 t4 (0 : Int32) t1 t2 t3 t4 T90.heap n0 Zle V_b49 V_b7 (fun _ => rfl)) hZ (hw _ (own_m 37 rfl)) (hw _ (own_m 3 rfl)) (by decide) (by decide)) (g := (mkF m 535 #[vI x1, vI x2, vI x3, vR b1, vR b7, vR b18, vR b28, vI 3, vR b38, vI nn, vR b49, vR m3, vR tb_90, vI 1] [(.int 2), (.ref b7), (.ref b49)])) rfl (by rw [hml]; rfl) (argsL := [(.ref b49), (.ref b7), (.int 2)]) (rest := []) (lenOf pd_7 rfl) rfl (own_le rfl) (hb hby at_535) (fun _ _ => ⟨rfl, e98, (by decide : 7 + 0 ≤ _), (by decide : 35 + 0 ≤ _)⟩)
  dsimp only [Pt.U, Pt.locs, Pt.cells, Pt.slots] at X99 l99 y99 z99 st99 hQ99
  subst l99 y99 z99
  obtain ⟨rfl, Nq99, e99⟩ := hQ99
  replace N_ := Fr.app N_ Nq99
  clear Nq99
  refine own_by (T' := T99) (g' := (mkF m 538 #[vI x1, vI x2, vI x3, vR b1, vR b7, vR b18, vR b28, vI 3, vR b38, vI nn, vR b49, vR m3, vR tb_90, vI 1] [(.int 1)])) (fun t k => st99 _ k) ?_
  clear st99 X98 e98
  refine own_by (T' := T99) (g' := (mkF m 541 #[vI x1, vI x2, vI x3, vR b1, vR b7, vR b18, vR b28, vI 3, vR b38, vI nn, vR b49, vR m3, vR tb_90, vI 1] [])) (fun t k => XS.ifNo X99.here hx rfl (hb hby at_538) rfl ((if0 _ _).trans (feq (by decide)).1) k) ?_
  refine own_by (T' := T99) (g' := (mkF m 543 #[vI x1, vI x2, vI x3, vR b1, vR b7, vR b18, vR b28, vI 3, vR b38, vI nn, vR b49, vR m3, vR tb_90, vI 1] [(.ref b49)])) (fun t k => XS.aload X99.here hx rfl (hb hby at_541) rfl rfl k) ?_
  refine own_by (T' := T99) (g' := (mkF m 545 #[vI x1, vI x2, vI x3, vR b1, vR b7, vR b18, vR b28, vI 3, vR b38, vI nn, vR b49, vR m3, vR tb_90, vI 1] [(.ref b7), (.ref b49)])) (fun t k => XS.aload X99.here hx rfl (hb hby at_543) rfl rfl k) ?_
  refine own_by (T' := T99) (g' := (mkF m 546 #[vI x1, vI x2, vI x3, vR b1, vR b7, vR b18, vR b28, vI 3, vR b38, vI nn, vR b49, vR m3, vR tb_90, vI 1] [(.int 3), (.ref b7), (.ref b49)])) (fun t k => XS.iconst X99.here hx rfl (hb hby at_545) k) ?_
  obtain ⟨_, _, ⟨T100, L100, k100, n100⟩, -, X100, ⟨Lc100, hQ100, l100, y100, z100⟩, st100⟩ := Jvm.LawKit.callS X99 hx (y := (⟨"com/example/emu/emu/TableFormFromPrefixPinLaw", "agree", "([I[II)Z"⟩ : MethodName)) hown (mvT hZ (hw _ (own_m 35 rfl))) (mvT hZ (hw _ (own_m 36 rfl))) (mvT hZ (hw _ (own_m 3 rfl))) (mvT hZ (hw _ (own_m 37 rfl))) (by decide) (backOf (W := 0) (rm8_3 l Z a0 hw [] b49 b7 nn k49 k7 (0 : Int32) t1 t2 t3 t4 (0 : Int32) t1 t2 t3 t4 T90.heap n0 Zle V_b49 V_b7 (fun _ => rfl)) hZ (hw _ (own_m 37 rfl)) (hw _ (own_m 3 rfl)) (by decide) (by decide)) (g := (mkF m 546 #[vI x1, vI x2, vI x3, vR b1, vR b7, vR b18, vR b28, vI 3, vR b38, vI nn, vR b49, vR m3, vR tb_90, vI 1] [(.int 3), (.ref b7), (.ref b49)])) rfl (by rw [hml]; rfl) (argsL := [(.ref b49), (.ref b7), (.int 3)]) (rest := []) (lenOf pd_7 rfl) rfl (own_le rfl) (hb hby at_546) (fun _ _ => ⟨rfl, e99, (by decide : 7 + 0 ≤ _), (by decide : 35 + 0 ≤ _)⟩)
  dsimp only [Pt.U, Pt.locs, Pt.cells, Pt.slots] at X100 l100 y100 z100 st100 hQ100
  subst l100 y100 z100
  obtain ⟨rfl, Nq100, e100⟩ := hQ100
  replace N_ := Fr.app N_ Nq100
  clear Nq100
  refine own_by (T' := T100) (g' := (mkF m 549 #[vI x1, vI x2, vI x3, vR b1, vR b7, vR b18, vR b28, vI 3, vR b38, vI nn, vR b49, vR m3, vR tb_90, vI 1] [(.int 1)])) (fun t k => st100 _ k) ?_
  clear st100 X99 e99
  refine own_by (T' := T100) (g' := (mkF m 552 #[vI x1, vI x2, vI x3, vR b1, vR b7, vR b18, vR b28, vI 3, vR b38, vI nn, vR b49, vR m3, vR tb_90, vI 1] [])) (fun t k => XS.ifNo X100.here hx rfl (hb hby at_549) rfl ((if0 _ _).trans (feq (by decide)).1) k) ?_
  refine own_by (T' := T100) (g' := (mkF m 554 #[vI x1, vI x2, vI x3, vR b1, vR b7, vR b18, vR b28, vI 3, vR b38, vI nn, vR b49, vR m3, vR tb_90, vI 1] [(.ref b49)])) (fun t k => XS.aload X100.here hx rfl (hb hby at_552) rfl rfl k) ?_
  refine own_by (T' := T100) (g' := (mkF m 556 #[vI x1, vI x2, vI x3, vR b1, vR b7, vR b18, vR b28, vI 3, vR b38, vI nn, vR b49, vR m3, vR tb_90, vI 1] [(.ref b7), (.ref b49)])) (fun t k => XS.aload X100.here hx rfl (hb hby at_554) rfl rfl k) ?_
  refine own_by (T' := T100) (g' := (mkF m 557 #[vI x1, vI x2, vI x3, vR b1, vR b7, vR b18, vR b28, vI 3, vR b38, vI nn, vR b49, vR m3, vR tb_90, vI 1] [(.int 4), (.ref b7), (.ref b49)])) (fun t k => XS.iconst X100.here hx rfl (hb hby at_556) k) ?_
  obtain ⟨_, _, ⟨T101, L101, k101, n101⟩, -, X101, ⟨Lc101, hQ101, l101, y101, z101⟩, st101⟩ := Jvm.LawKit.callS X100 hx (y := (⟨"com/example/emu/emu/TableFormFromPrefixPinLaw", "agree", "([I[II)Z"⟩ : MethodName)) hown (mvT hZ (hw _ (own_m 35 rfl))) (mvT hZ (hw _ (own_m 36 rfl))) (mvT hZ (hw _ (own_m 3 rfl))) (mvT hZ (hw _ (own_m 37 rfl))) (by decide) (backOf (W := 0) (rm8_4 l Z a0 hw [] b49 b7 nn k49 k7 (0 : Int32) t1 t2 t3 t4 (0 : Int32) t1 t2 t3 t4 T90.heap n0 Zle V_b49 V_b7 (fun _ => rfl)) hZ (hw _ (own_m 37 rfl)) (hw _ (own_m 3 rfl)) (by decide) (by decide)) (g := (mkF m 557 #[vI x1, vI x2, vI x3, vR b1, vR b7, vR b18, vR b28, vI 3, vR b38, vI nn, vR b49, vR m3, vR tb_90, vI 1] [(.int 4), (.ref b7), (.ref b49)])) rfl (by rw [hml]; rfl) (argsL := [(.ref b49), (.ref b7), (.int 4)]) (rest := []) (lenOf pd_7 rfl) rfl (own_le rfl) (hb hby at_557) (fun _ _ => ⟨rfl, e100, (by decide : 7 + 0 ≤ _), (by decide : 35 + 0 ≤ _)⟩)
  dsimp only [Pt.U, Pt.locs, Pt.cells, Pt.slots] at X101 l101 y101 z101 st101 hQ101
  subst l101 y101 z101
  obtain ⟨rfl, Nq101, e101⟩ := hQ101
  replace N_ := Fr.app N_ Nq101
  clear Nq101
  refine own_by (T' := T101) (g' := (mkF m 560 #[vI x1, vI x2, vI x3, vR b1, vR b7, vR b18, vR b28, vI 3, vR b38, vI nn, vR b49, vR m3, vR tb_90, vI 1] [(.int 1)])) (fun t k => st101 _ k) ?_
  clear st101 X100 e100
  refine own_by (T' := T101) (g' := (mkF m 563 #[vI x1, vI x2, vI x3, vR b1, vR b7, vR b18, vR b28, vI 3, vR b38, vI nn, vR b49, vR m3, vR tb_90, vI 1] [])) (fun t k => XS.ifNo X101.here hx rfl (hb hby at_560) rfl ((if0 _ _).trans (feq (by decide)).1) k) ?_
  refine own_by (T' := T101) (g' := (mkF m 564 #[vI x1, vI x2, vI x3, vR b1, vR b7, vR b18, vR b28, vI 3, vR b38, vI nn, vR b49, vR m3, vR tb_90, vI 1] [(.int 1)])) (fun t k => XS.iconst X101.here hx rfl (hb hby at_563) k) ?_
  refine own_by (T' := T101) (g' := (mkF m 568 #[vI x1, vI x2, vI x3, vR b1, vR b7, vR b18, vR b28, vI 3, vR b38, vI nn, vR b49, vR m3, vR tb_90, vI 1] [(.int 1)])) (fun t k => XS.goto X101.here hx rfl (pc0 := 564) (pc' := 568) rfl (hb hby at_564) (by decide) (by decide) k) ?_
  refine own_by (T' := T101) (g' := (mkF m 570 #[vI x1, vI x2, vI x3, vR b1, vR b7, vR b18, vR b28, vI 3, vR b38, vI nn, vR b49, vR m3, vR tb_90, vI 1] [])) (fun t k => XS.istore X101.here hx rfl (hb hby at_568) rfl (l' := #[vI x1, vI x2, vI x3, vR b1, vR b7, vR b18, vR b28, vI 3, vR b38, vI nn, vR b49, vR m3, vR tb_90, vI 1]) rfl k) ?_
  refine own_by (T' := T101) (g' := (mkF m 572 #[vI x1, vI x2, vI x3, vR b1, vR b7, vR b18, vR b28, vI 3, vR b38, vI nn, vR b49, vR m3, vR tb_90, vI 1] [(.int 1)])) (fun t k => XS.iload X101.here hx rfl (hb hby at_570) rfl k) ?_
  exact own_retN X101 hx (t := .boolean) hlk hret (by simp) (hb hby at_572) (by decide) (by decide) (by rw [e101]; exact ⟨rfl, N_⟩)
set_option maxRecDepth 65536 in
set_option maxHeartbeats 40000000 in
theorem own_c372 (l : Launch) (Z : State) (a0 : Array Value) (hw : ∀ d ∈ tables_1, d.before a0 Z = true) {p : Program} {e : Env} {s : State} {m : MethodId} {below : List Frame} {meth : Method} {c : Code} (hx : p.tables.exec = Jvm.exec) (hby : c.code = code) (hml : c.maxLocals = 14) (hlk : meth.locks = false) (hret : meth.sig.returnType = ret) (x1 : Int32) (x2 : Int32) (x3 : Int32) (m0 : Addr) (m1 : Addr) (m2 : Addr) (m3 : Addr) (h0 : Heap) (n0 : Nat) (b1 : Addr) (k1 : ClassId) (c0 : Int32) (c1 : Int32) (c2 : Int32) (c3 : Int32) (c4 : Int32) (b7 : Addr) (k7 : ClassId) (t1 : Int32) (t2 : Int32) (t3 : Int32) (t4 : Int32) (b18 : Addr) (k18 : ClassId) (b28 : Addr) (k28 : ClassId) (u1 : Int32) (u2 : Int32) (u3 : Int32) (u4 : Int32) (ff : Int32) (b38 : Addr) (k38 : ClassId) (w0 : Int32) (w1 : Int32) (w2 : Int32) (w3 : Int32) (w4 : Int32) (nn : Int32) (b49 : Addr) (k49 : ClassId) {Tj : State} {hj : Heap} {locsj : List Loc}
    (hZ : Z.Warmed39 s.vm) (hown : s.vm.findClass "com/example/emu/emu/TableFormFromPrefixPinLaw" = some m.cls) (Xj : Stand p l e room_1 s m #[(.int x1), (.int x2), (.int x3)] below meth c Tj locsj 6 30) (ej : Tj.heap = hj)
    (E_m2 : Exa Z hj m2 "com/example/emu/emu/TableForm") (S_NEXT_ONE_BASED : Sta Z hj "com/example/emu/emu/TableForm" "NEXT_ONE_BASED" "Lcom/example/emu/emu/TableForm;" (.ref m2)) (E_m3 : Exa Z hj m3 "com/example/emu/emu/TableForm") (S_NEXTVAL : Sta Z hj "com/example/emu/emu/TableForm" "NEXTVAL" "Lcom/example/emu/emu/TableForm;" (.ref m3)) (E_m1 : Exa Z hj m1 "com/example/emu/emu/TableForm") (S_NEXT : Sta Z hj "com/example/emu/emu/TableForm" "NEXT" "Lcom/example/emu/emu/TableForm;" (.ref m1)) (E_m0 : Exa Z hj m0 "com/example/emu/emu/TableForm") (S_PREFIX : Sta Z hj "com/example/emu/emu/TableForm" "PREFIX" "Lcom/example/emu/emu/TableForm;" (.ref m0)) (F_ordinal_m2 : Fld Z hj m2 "java/lang/Enum" "ordinal" "I" (.int 2)) (F_ordinal_m3 : Fld Z hj m3 "java/lang/Enum" "ordinal" "I" (.int 3)) (F_ordinal_m1 : Fld Z hj m1 "java/lang/Enum" "ordinal" "I" (.int 1)) (F_ordinal_m0 : Fld Z hj m0 "java/lang/Enum" "ordinal" "I" (.int 0)) (Zle : n0 ≤ hj.size) (N_ : Fr n0 locsj) (ne_m2_b1 : m2 ≠ b1) (ne_m3_b1 : m3 ≠ b1) (ne_m1_b1 : m1 ≠ b1) (ne_m0_b1 : m0 ≠ b1) (g_b1 : n0 ≤ b1) (ne_m2_b7 : m2 ≠ b7) (ne_m3_b7 : m3 ≠ b7) (ne_m1_b7 : m1 ≠ b7) (ne_m0_b7 : m0 ≠ b7) (ne_b1_b7 : b1 ≠ b7) (g_b7 : n0 ≤ b7) (ne_m2_b18 : m2 ≠ b18) (ne_m3_b18 : m3 ≠ b18) (ne_m1_b18 : m1 ≠ b18) (ne_m0_b18 : m0 ≠ b18) (ne_b1_b18 : b1 ≠ b18) (ne_b7_b18 : b7 ≠ b18) (g_b18 : n0 ≤ b18) (ne_m2_b28 : m2 ≠ b28) (ne_m3_b28 : m3 ≠ b28) (ne_m1_b28 : m1 ≠ b28) (ne_m0_b28 : m0 ≠ b28) (ne_b1_b28 : b1 ≠ b28) (ne_b7_b28 : b7 ≠ b28) (ne_b18_b28 : b18 ≠ b28) (g_b28 : n0 ≤ b28) (ne_m2_b38 : m2 ≠ b38) (ne_m3_b38 : m3 ≠ b38) (ne_m1_b38 : m1 ≠ b38) (ne_m0_b38 : m0 ≠ b38) (ne_b1_b38 : b1 ≠ b38) (ne_b7_b38 : b7 ≠ b38) (ne_b18_b38 : b18 ≠ b38) (ne_b28_b38 : b28 ≠ b38) (g_b38 : n0 ≤ b38) (ne_m2_b49 : m2 ≠ b49) (ne_m3_b49 : m3 ≠ b49) (ne_m1_b49 : m1 ≠ b49) (ne_m0_b49 : m0 ≠ b49) (ne_b1_b49 : b1 ≠ b49) (ne_b7_b49 : b7 ≠ b49) (ne_b18_b49 : b18 ≠ b49) (ne_b28_b49 : b28 ≠ b49) (ne_b38_b49 : b38 ≠ b49) (g_b49 : n0 ≤ b49) (V_b49 : Arv Z hj b49 k49 .int nn [(.int 0), (.int t1), (.int t2), (.int t3), (.int t4)] (.int 0)) (V_b7 : Arv Z hj b7 k7 .int (5 : Int32) [(.int 0), (.int t1), (.int t2), (.int t3), (.int t4)] (.int 0)) (V_b38 : Arv Z hj b38 k38 .int (5 : Int32) [(.int w0), (.int w1), (.int w2), (.int w3), (.int w4)] (.int 0)) (e_c0 : c0 = (x1 &&& (3 : Int32))) (e_c1 : c1 = (((x1.toUInt32 >>> ((2 : Int32) &&& 31).toUInt32).toInt32) &&& (3 : Int32))) (e_c2 : c2 = (((x1.toUInt32 >>> ((4 : Int32) &&& 31).toUInt32).toInt32) &&& (3 : Int32))) (e_c3 : c3 = (((x1.toUInt32 >>> ((6 : Int32) &&& 31).toUInt32).toInt32) &&& (3 : Int32))) (e_c4 : c4 = (((x1.toUInt32 >>> ((8 : Int32) &&& 31).toUInt32).toInt32) &&& (3 : Int32))) (e_t1 : t1 = (own_bd1 c0 c1 c2 c3 c4)) (HB1 : own_B1 c0 c1 t1) (hr1 : t1 = 0 ∨ t1 = 1) (e_t2 : t2 = (own_bd2 c0 c1 c2 c3 c4)) (HB2 : own_B2 c0 c1 c2 t2) (hr2 : t2 = 0 ∨ t2 = 1 ∨ t2 = 2) (e_t3 : t3 = (own_bd3 c0 c1 c2 c3 c4)) (HB3 : own_B3 c0 c1 c2 c3 t3) (hr3 : t3 = 0 ∨ t3 = 1 ∨ t3 = 2 ∨ t3 = 3) (e_t4 : t4 = (own_bd4 c0 c1 c2 c3 c4)) (HB4 : own_B4 c0 c1 c2 c3 c4 t4) (hr4 : t4 = 0 ∨ t4 = 1 ∨ t4 = 2 ∨ t4 = 3 ∨ t4 = 4) (e_u1 : u1 = (own_nvs c1 (0 : Int32) c0 c1 c2 c3 c4 (-1 : Int32) (0 : Int32) (0 : Int32) (0 : Int32) (0 : Int32))) (e_u2 : u2 = (own_nvs c2 t1 c0 c1 c2 c3 c4 (-1 : Int32) u1 (0 : Int32) (0 : Int32) (0 : Int32))) (e_u3 : u3 = (own_nvs c3 t2 c0 c1 c2 c3 c4 (-1 : Int32) u1 u2 (0 : Int32) (0 : Int32))) (e_u4 : u4 = (own_nvs c4 t3 c0 c1 c2 c3 c4 (-1 : Int32) u1 u2 u3 (0 : Int32))) (e_ff : ff = (x3 &&& (3 : Int32))) (e_w0 : w0 = (own_pick ff (0 : Int32) (-1 : Int32) (-1 : Int32))) (e_w1 : w1 = (own_pick ff t1 (0 : Int32) u1)) (e_w2 : w2 = (own_pick ff t2 t1 u2)) (e_w3 : w3 = (own_pick ff t3 t2 u3)) (e_w4 : w4 = (own_pick ff t4 t3 u4)) (e_nn : nn = ((x2 &&& (7 : Int32)) % (6 : Int32))) (hn0 : ¬ nn < 0) (hn5 : nn.toNatClampNeg ≤ 5) (hn6 : nn < 6) : own_Goes p.tables e below s (Q0 Z x1 x2 x3 m0 m1 m2 m3 h0 n0) room_1.cells room_1.slots Tj (mkF m 372 #[vI x1, vI x2, vI x3, vR b1, vR b7, vR b18, vR b28, vI ff, vR b38, vI nn, vR b49, .unset, .unset, .unset] []) := by
  have hff := own_and3 x3
  rw [← e_ff] at hff
  clear e_ff
  rcases hff with rfl | rfl | rfl | rfl
  · exact own_c372_0 l Z a0 hw hx hby hml hlk hret x1 x2 x3 m0 m1 m2 m3 h0 n0  b1 k1 c0 c1 c2 c3 c4 b7 k7 t1 t2 t3 t4 b18 k18 b28 k28 u1 u2 u3 u4 b38 k38 w0 w1 w2 w3 w4 nn b49 k49 hZ hown (Xj) ej E_m2 S_NEXT_ONE_BASED E_m3 S_NEXTVAL E_m1 S_NEXT E_m0 S_PREFIX F_ordinal_m2 F_ordinal_m3 F_ordinal_m1 F_ordinal_m0 Zle N_ ne_m2_b1 ne_m3_b1 ne_m1_b1 ne_m0_b1 g_b1 ne_m2_b7 ne_m3_b7 ne_m1_b7 ne_m0_b7 ne_b1_b7 g_b7 ne_m2_b18 ne_m3_b18 ne_m1_b18 ne_m0_b18 ne_b1_b18 ne_b7_b18 g_b18 ne_m2_b28 ne_m3_b28 ne_m1_b28 ne_m0_b28 ne_b1_b28 ne_b7_b28 ne_b18_b28 g_b28 ne_m2_b38 ne_m3_b38 ne_m1_b38 ne_m0_b38 ne_b1_b38 ne_b7_b38 ne_b18_b38 ne_b28_b38 g_b38 ne_m2_b49 ne_m3_b49 ne_m1_b49 ne_m0_b49 ne_b1_b49 ne_b7_b49 ne_b18_b49 ne_b28_b49 ne_b38_b49 g_b49 V_b49 V_b7 V_b38 e_c0 e_c1 e_c2 e_c3 e_c4 e_t1 HB1 hr1 e_t2 HB2 hr2 e_t3 HB3 hr3 e_t4 HB4 hr4 e_u1 e_u2 e_u3 e_u4 e_w0 e_w1 e_w2 e_w3 e_w4 e_nn hn0 hn5 hn6
  · exact own_c372_1 l Z a0 hw hx hby hml hlk hret x1 x2 x3 m0 m1 m2 m3 h0 n0  b1 k1 c0 c1 c2 c3 c4 b7 k7 t1 t2 t3 t4 b18 k18 b28 k28 u1 u2 u3 u4 b38 k38 w0 w1 w2 w3 w4 nn b49 k49 hZ hown (Xj) ej E_m2 S_NEXT_ONE_BASED E_m3 S_NEXTVAL E_m1 S_NEXT E_m0 S_PREFIX F_ordinal_m2 F_ordinal_m3 F_ordinal_m1 F_ordinal_m0 Zle N_ ne_m2_b1 ne_m3_b1 ne_m1_b1 ne_m0_b1 g_b1 ne_m2_b7 ne_m3_b7 ne_m1_b7 ne_m0_b7 ne_b1_b7 g_b7 ne_m2_b18 ne_m3_b18 ne_m1_b18 ne_m0_b18 ne_b1_b18 ne_b7_b18 g_b18 ne_m2_b28 ne_m3_b28 ne_m1_b28 ne_m0_b28 ne_b1_b28 ne_b7_b28 ne_b18_b28 g_b28 ne_m2_b38 ne_m3_b38 ne_m1_b38 ne_m0_b38 ne_b1_b38 ne_b7_b38 ne_b18_b38 ne_b28_b38 g_b38 ne_m2_b49 ne_m3_b49 ne_m1_b49 ne_m0_b49 ne_b1_b49 ne_b7_b49 ne_b18_b49 ne_b28_b49 ne_b38_b49 g_b49 V_b49 V_b7 V_b38 e_c0 e_c1 e_c2 e_c3 e_c4 e_t1 HB1 hr1 e_t2 HB2 hr2 e_t3 HB3 hr3 e_t4 HB4 hr4 e_u1 e_u2 e_u3 e_u4 e_w0 e_w1 e_w2 e_w3 e_w4 e_nn hn0 hn5 hn6
  · exact own_c372_2 l Z a0 hw hx hby hml hlk hret x1 x2 x3 m0 m1 m2 m3 h0 n0  b1 k1 c0 c1 c2 c3 c4 b7 k7 t1 t2 t3 t4 b18 k18 b28 k28 u1 u2 u3 u4 b38 k38 w0 w1 w2 w3 w4 nn b49 k49 hZ hown (Xj) ej E_m2 S_NEXT_ONE_BASED E_m3 S_NEXTVAL E_m1 S_NEXT E_m0 S_PREFIX F_ordinal_m2 F_ordinal_m3 F_ordinal_m1 F_ordinal_m0 Zle N_ ne_m2_b1 ne_m3_b1 ne_m1_b1 ne_m0_b1 g_b1 ne_m2_b7 ne_m3_b7 ne_m1_b7 ne_m0_b7 ne_b1_b7 g_b7 ne_m2_b18 ne_m3_b18 ne_m1_b18 ne_m0_b18 ne_b1_b18 ne_b7_b18 g_b18 ne_m2_b28 ne_m3_b28 ne_m1_b28 ne_m0_b28 ne_b1_b28 ne_b7_b28 ne_b18_b28 g_b28 ne_m2_b38 ne_m3_b38 ne_m1_b38 ne_m0_b38 ne_b1_b38 ne_b7_b38 ne_b18_b38 ne_b28_b38 g_b38 ne_m2_b49 ne_m3_b49 ne_m1_b49 ne_m0_b49 ne_b1_b49 ne_b7_b49 ne_b18_b49 ne_b28_b49 ne_b38_b49 g_b49 V_b49 V_b7 V_b38 e_c0 e_c1 e_c2 e_c3 e_c4 e_t1 HB1 hr1 e_t2 HB2 hr2 e_t3 HB3 hr3 e_t4 HB4 hr4 e_u1 e_u2 e_u3 e_u4 e_w0 e_w1 e_w2 e_w3 e_w4 e_nn hn0 hn5 hn6
  · exact own_c372_3 l Z a0 hw hx hby hml hlk hret x1 x2 x3 m0 m1 m2 m3 h0 n0  b1 k1 c0 c1 c2 c3 c4 b7 k7 t1 t2 t3 t4 b18 k18 b28 k28 u1 u2 u3 u4 b38 k38 w0 w1 w2 w3 w4 nn b49 k49 hZ hown (Xj) ej E_m2 S_NEXT_ONE_BASED E_m3 S_NEXTVAL E_m1 S_NEXT E_m0 S_PREFIX F_ordinal_m2 F_ordinal_m3 F_ordinal_m1 F_ordinal_m0 Zle N_ ne_m2_b1 ne_m3_b1 ne_m1_b1 ne_m0_b1 g_b1 ne_m2_b7 ne_m3_b7 ne_m1_b7 ne_m0_b7 ne_b1_b7 g_b7 ne_m2_b18 ne_m3_b18 ne_m1_b18 ne_m0_b18 ne_b1_b18 ne_b7_b18 g_b18 ne_m2_b28 ne_m3_b28 ne_m1_b28 ne_m0_b28 ne_b1_b28 ne_b7_b28 ne_b18_b28 g_b28 ne_m2_b38 ne_m3_b38 ne_m1_b38 ne_m0_b38 ne_b1_b38 ne_b7_b38 ne_b18_b38 ne_b28_b38 g_b38 ne_m2_b49 ne_m3_b49 ne_m1_b49 ne_m0_b49 ne_b1_b49 ne_b7_b49 ne_b18_b49 ne_b28_b49 ne_b38_b49 g_b49 V_b49 V_b7 V_b38 e_c0 e_c1 e_c2 e_c3 e_c4 e_t1 HB1 hr1 e_t2 HB2 hr2 e_t3 HB3 hr3 e_t4 HB4 hr4 e_u1 e_u2 e_u3 e_u4 e_w0 e_w1 e_w2 e_w3 e_w4 e_nn hn0 hn5 hn6
set_option maxRecDepth 65536 in
set_option maxHeartbeats 40000000 in
theorem own_c204 (l : Launch) (Z : State) (a0 : Array Value) (hw : ∀ d ∈ tables_1, d.before a0 Z = true) {p : Program} {e : Env} {s : State} {m : MethodId} {below : List Frame} {meth : Method} {c : Code} (hx : p.tables.exec = Jvm.exec) (hby : c.code = code) (hml : c.maxLocals = 14) (hlk : meth.locks = false) (hret : meth.sig.returnType = ret) (x1 : Int32) (x2 : Int32) (x3 : Int32) (m0 : Addr) (m1 : Addr) (m2 : Addr) (m3 : Addr) (h0 : Heap) (n0 : Nat) (b1 : Addr) (k1 : ClassId) (c0 : Int32) (c1 : Int32) (c2 : Int32) (c3 : Int32) (c4 : Int32) (b7 : Addr) (k7 : ClassId) (t1 : Int32) (t2 : Int32) (t3 : Int32) (t4 : Int32) (b18 : Addr) (k18 : ClassId) (b28 : Addr) (k28 : ClassId) (u1 : Int32) (u2 : Int32) (u3 : Int32) (u4 : Int32) (ff : Int32) {Tj : State} {hj : Heap} {locsj : List Loc}
    (hZ : Z.Warmed39 s.vm) (hown : s.vm.findClass "com/example/emu/emu/TableFormFromPrefixPinLaw" = some m.cls) (Xj : Stand p l e room_1 s m #[(.int x1), (.int x2), (.int x3)] below meth c Tj locsj 4 20) (ej : Tj.heap = hj)
    (E_m2 : Exa Z hj m2 "com/example/emu/emu/TableForm") (S_NEXT_ONE_BASED : Sta Z hj "com/example/emu/emu/TableForm" "NEXT_ONE_BASED" "Lcom/example/emu/emu/TableForm;" (.ref m2)) (E_m3 : Exa Z hj m3 "com/example/emu/emu/TableForm") (S_NEXTVAL : Sta Z hj "com/example/emu/emu/TableForm" "NEXTVAL" "Lcom/example/emu/emu/TableForm;" (.ref m3)) (E_m1 : Exa Z hj m1 "com/example/emu/emu/TableForm") (S_NEXT : Sta Z hj "com/example/emu/emu/TableForm" "NEXT" "Lcom/example/emu/emu/TableForm;" (.ref m1)) (E_m0 : Exa Z hj m0 "com/example/emu/emu/TableForm") (S_PREFIX : Sta Z hj "com/example/emu/emu/TableForm" "PREFIX" "Lcom/example/emu/emu/TableForm;" (.ref m0)) (F_ordinal_m2 : Fld Z hj m2 "java/lang/Enum" "ordinal" "I" (.int 2)) (F_ordinal_m3 : Fld Z hj m3 "java/lang/Enum" "ordinal" "I" (.int 3)) (F_ordinal_m1 : Fld Z hj m1 "java/lang/Enum" "ordinal" "I" (.int 1)) (F_ordinal_m0 : Fld Z hj m0 "java/lang/Enum" "ordinal" "I" (.int 0)) (Zle : n0 ≤ hj.size) (N_ : Fr n0 locsj) (ne_m2_b1 : m2 ≠ b1) (ne_m3_b1 : m3 ≠ b1) (ne_m1_b1 : m1 ≠ b1) (ne_m0_b1 : m0 ≠ b1) (g_b1 : n0 ≤ b1) (V_b1 : Arv Z hj b1 k1 .int (5 : Int32) [(.int c0), (.int c1), (.int c2), (.int c3), (.int c4)] (.int 0)) (ne_m2_b7 : m2 ≠ b7) (ne_m3_b7 : m3 ≠ b7) (ne_m1_b7 : m1 ≠ b7) (ne_m0_b7 : m0 ≠ b7) (ne_b1_b7 : b1 ≠ b7) (g_b7 : n0 ≤ b7) (V_b7 : Arv Z hj b7 k7 .int (5 : Int32) [(.int 0), (.int t1), (.int t2), (.int t3), (.int t4)] (.int 0)) (ne_m2_b18 : m2 ≠ b18) (ne_m3_b18 : m3 ≠ b18) (ne_m1_b18 : m1 ≠ b18) (ne_m0_b18 : m0 ≠ b18) (ne_b1_b18 : b1 ≠ b18) (ne_b7_b18 : b7 ≠ b18) (g_b18 : n0 ≤ b18) (V_b18 : Arv Z hj b18 k18 .int (5 : Int32) [(.int (-1)), (.int 0), (.int t1), (.int t2), (.int t3)] (.int 0)) (ne_m2_b28 : m2 ≠ b28) (ne_m3_b28 : m3 ≠ b28) (ne_m1_b28 : m1 ≠ b28) (ne_m0_b28 : m0 ≠ b28) (ne_b1_b28 : b1 ≠ b28) (ne_b7_b28 : b7 ≠ b28) (ne_b18_b28 : b18 ≠ b28) (g_b28 : n0 ≤ b28) (V_b28 : Arv Z hj b28 k28 .int (5 : Int32) [(.int (-1)), (.int u1), (.int u2), (.int u3), (.int u4)] (.int 0)) (e_c0 : c0 = (x1 &&& (3 : Int32))) (e_c1 : c1 = (((x1.toUInt32 >>> ((2 : Int32) &&& 31).toUInt32).toInt32) &&& (3 : Int32))) (e_c2 : c2 = (((x1.toUInt32 >>> ((4 : Int32) &&& 31).toUInt32).toInt32) &&& (3 : Int32))) (e_c3 : c3 = (((x1.toUInt32 >>> ((6 : Int32) &&& 31).toUInt32).toInt32) &&& (3 : Int32))) (e_c4 : c4 = (((x1.toUInt32 >>> ((8 : Int32) &&& 31).toUInt32).toInt32) &&& (3 : Int32))) (e_t1 : t1 = (own_bd1 c0 c1 c2 c3 c4)) (HB1 : own_B1 c0 c1 t1) (hr1 : t1 = 0 ∨ t1 = 1) (e_t2 : t2 = (own_bd2 c0 c1 c2 c3 c4)) (HB2 : own_B2 c0 c1 c2 t2) (hr2 : t2 = 0 ∨ t2 = 1 ∨ t2 = 2) (e_t3 : t3 = (own_bd3 c0 c1 c2 c3 c4)) (HB3 : own_B3 c0 c1 c2 c3 t3) (hr3 : t3 = 0 ∨ t3 = 1 ∨ t3 = 2 ∨ t3 = 3) (e_t4 : t4 = (own_bd4 c0 c1 c2 c3 c4)) (HB4 : own_B4 c0 c1 c2 c3 c4 t4) (hr4 : t4 = 0 ∨ t4 = 1 ∨ t4 = 2 ∨ t4 = 3 ∨ t4 = 4) (e_u1 : u1 = (own_nvs c1 (0 : Int32) c0 c1 c2 c3 c4 (-1 : Int32) (0 : Int32) (0 : Int32) (0 : Int32) (0 : Int32))) (e_u2 : u2 = (own_nvs c2 t1 c0 c1 c2 c3 c4 (-1 : Int32) u1 (0 : Int32) (0 : Int32) (0 : Int32))) (e_u3 : u3 = (own_nvs c3 t2 c0 c1 c2 c3 c4 (-1 : Int32) u1 u2 (0 : Int32) (0 : Int32))) (e_u4 : u4 = (own_nvs c4 t3 c0 c1 c2 c3 c4 (-1 : Int32) u1 u2 u3 (0 : Int32))) (e_ff : ff = (x3 &&& (3 : Int32))) : own_Goes p.tables e below s (Q0 Z x1 x2 x3 m0 m1 m2 m3 h0 n0) room_1.cells room_1.slots Tj (mkF m 204 #[vI x1, vI x2, vI x3, vR b1, vR b7, vR b18, vR b28, vI ff, .unset, .unset, .unset, .unset, .unset, .unset] [(.int 5)]) := by
  obtain ⟨T38, h38, k38, X38, e38, E38, A38, st38⟩ := newP Xj hx hZ (hw _ (own_m 0 rfl)) ej (g := (mkF m 204 #[vI x1, vI x2, vI x3, vR b1, vR b7, vR b18, vR b28, vI ff, .unset, .unset, .unset, .unset, .unset, .unset] [(.int 5)])) rfl (hb hby at_204) rfl (by decide) (cap := 5) (by decide) (by decide) (by decide) (by decide)
  obtain ⟨b38, g38⟩ : ∃ z, z = hj.size := ⟨_, rfl⟩
  rw [← g38] at A38 st38
  have ne_m2_b38 : m2 ≠ b38 := Nat.ne_of_lt (Nat.lt_of_lt_of_eq E_m2.lt g38.symm)
  have ne_m3_b38 : m3 ≠ b38 := Nat.ne_of_lt (Nat.lt_of_lt_of_eq E_m3.lt g38.symm)
  have ne_m1_b38 : m1 ≠ b38 := Nat.ne_of_lt (Nat.lt_of_lt_of_eq E_m1.lt g38.symm)
  have ne_m0_b38 : m0 ≠ b38 := Nat.ne_of_lt (Nat.lt_of_lt_of_eq E_m0.lt g38.symm)
  have ne_b1_b38 : b1 ≠ b38 := Nat.ne_of_lt (Nat.lt_of_lt_of_eq V_b1.lt g38.symm)
  have ne_b7_b38 : b7 ≠ b38 := Nat.ne_of_lt (Nat.lt_of_lt_of_eq V_b7.lt g38.symm)
  have ne_b18_b38 : b18 ≠ b38 := Nat.ne_of_lt (Nat.lt_of_lt_of_eq V_b18.lt g38.symm)
  have ne_b28_b38 : b28 ≠ b38 := Nat.ne_of_lt (Nat.lt_of_lt_of_eq V_b28.lt g38.symm)
  have g_b38 : n0 ≤ b38 := Nat.le_trans Zle (Nat.le_of_eq g38.symm)
  replace E_m2 := E_m2.ext E38
  replace S_NEXT_ONE_BASED := S_NEXT_ONE_BASED.ext E38
  replace E_m3 := E_m3.ext E38
  replace S_NEXTVAL := S_NEXTVAL.ext E38
  replace E_m1 := E_m1.ext E38
  replace S_NEXT := S_NEXT.ext E38
  replace E_m0 := E_m0.ext E38
  replace S_PREFIX := S_PREFIX.ext E38
  replace F_ordinal_m2 := F_ordinal_m2.ext E38
  replace F_ordinal_m3 := F_ordinal_m3.ext E38
  replace F_ordinal_m1 := F_ordinal_m1.ext E38
  replace F_ordinal_m0 := F_ordinal_m0.ext E38
  replace Zle := Nat.le_trans Zle E38.1
  replace V_b1 := V_b1.ext E38
  replace V_b7 := V_b7.ext E38
  replace V_b18 := V_b18.ext E38
  replace V_b28 := V_b28.ext E38
  have V_b38 : Arv Z h38 b38 k38 .int (5 : Int32) [(.int 0), (.int 0), (.int 0), (.int 0), (.int 0)] (.int 0) := (Arv.new A38 (by decide)).pad (pad_rep [] (.int 0) 5)
  refine own_by (T' := T38) (g' := (mkF m 206 #[vI x1, vI x2, vI x3, vR b1, vR b7, vR b18, vR b28, vI ff, .unset, .unset, .unset, .unset, .unset, .unset] [(.ref b38)])) (fun t k => st38 t k) ?_
  clear st38
  refine own_by (T' := T38) (g' := (mkF m 208 #[vI x1, vI x2, vI x3, vR b1, vR b7, vR b18, vR b28, vI ff, vR b38, .unset, .unset, .unset, .unset, .unset] [])) (fun t k => XS.astore X38.here hx rfl (hb hby at_206) rfl rfl (l' := #[vI x1, vI x2, vI x3, vR b1, vR b7, vR b18, vR b28, vI ff, vR b38, .unset, .unset, .unset, .unset, .unset]) rfl k) ?_
  refine own_by (T' := T38) (g' := (mkF m 210 #[vI x1, vI x2, vI x3, vR b1, vR b7, vR b18, vR b28, vI ff, vR b38, .unset, .unset, .unset, .unset, .unset] [(.ref b38)])) (fun t k => XS.aload X38.here hx rfl (hb hby at_208) rfl rfl k) ?_
  refine own_by (T' := T38) (g' := (mkF m 211 #[vI x1, vI x2, vI x3, vR b1, vR b7, vR b18, vR b28, vI ff, vR b38, .unset, .unset, .unset, .unset, .unset] [(.int 0), (.ref b38)])) (fun t k => XS.iconst X38.here hx rfl (hb hby at_210) k) ?_
  refine own_by (T' := T38) (g' := (mkF m 213 #[vI x1, vI x2, vI x3, vR b1, vR b7, vR b18, vR b28, vI ff, vR b38, .unset, .unset, .unset, .unset, .unset] [(.int ff), (.int 0), (.ref b38)])) (fun t k => XS.iload X38.here hx rfl (hb hby at_211) rfl k) ?_
  refine own_by (T' := T38) (g' := (mkF m 215 #[vI x1, vI x2, vI x3, vR b1, vR b7, vR b18, vR b28, vI ff, vR b38, .unset, .unset, .unset, .unset, .unset] [(.ref b7), (.int ff), (.int 0), (.ref b38)])) (fun t k => XS.aload X38.here hx rfl (hb hby at_213) rfl rfl k) ?_
  refine own_by (T' := T38) (g' := (mkF m 217 #[vI x1, vI x2, vI x3, vR b1, vR b7, vR b18, vR b28, vI ff, vR b38, .unset, .unset, .unset, .unset, .unset] [(.ref b18), (.ref b7), (.int ff), (.int 0), (.ref b38)])) (fun t k => XS.aload X38.here hx rfl (hb hby at_215) rfl rfl k) ?_
  refine own_by (T' := T38) (g' := (mkF m 219 #[vI x1, vI x2, vI x3, vR b1, vR b7, vR b18, vR b28, vI ff, vR b38, .unset, .unset, .unset, .unset, .unset] [(.ref b28), (.ref b18), (.ref b7), (.int ff), (.int 0), (.ref b38)])) (fun t k => XS.aload X38.here hx rfl (hb hby at_217) rfl rfl k) ?_
  refine own_by (T' := T38) (g' := (mkF m 220 #[vI x1, vI x2, vI x3, vR b1, vR b7, vR b18, vR b28, vI ff, vR b38, .unset, .unset, .unset, .unset, .unset] [(.int 0), (.ref b28), (.ref b18), (.ref b7), (.int ff), (.int 0), (.ref b38)])) (fun t k => XS.iconst X38.here hx rfl (hb hby at_219) k) ?_
  obtain ⟨_, _, ⟨T39, L39, k39, n39⟩, -, X39, ⟨Lc39, hQ39, l39, y39, z39⟩, st39⟩ := Jvm.LawKit.callS X38 hx (y := (⟨"com/example/emu/emu/TableFormFromPrefixPinLaw", "pick", "(I[I[I[II)I"⟩ : MethodName)) hown (mvT hZ (hw _ (own_m 11 rfl))) (mvT hZ (hw _ (own_m 12 rfl))) (mvT hZ (hw _ (own_m 3 rfl))) (mvT hZ (hw _ (own_m 13 rfl))) (by decide) (backOf (W := 2) (rm4_0 l Z a0 hw [] ff b7 b18 b28 k7 k18 k28 (0 : Int32) t1 t2 t3 t4 (-1 : Int32) (0 : Int32) t1 t2 t3 (-1 : Int32) u1 u2 u3 u4 h38 n0 Zle V_b7 V_b18 V_b28) hZ (hw _ (own_m 13 rfl)) (hw _ (own_m 3 rfl)) (by decide) (by decide)) (g := (mkF m 220 #[vI x1, vI x2, vI x3, vR b1, vR b7, vR b18, vR b28, vI ff, vR b38, .unset, .unset, .unset, .unset, .unset] [(.int 0), (.ref b28), (.ref b18), (.ref b7), (.int ff), (.int 0), (.ref b38)])) rfl (by rw [hml]; rfl) (argsL := [(.int ff), (.ref b7), (.ref b18), (.ref b28), (.int 0)]) (rest := [(.int 0), (.ref b38)]) (lenOf pd_3 rfl) rfl (own_le rfl) (hb hby at_220) (fun _ _ => ⟨rfl, e38, (by decide : 5 + 0 ≤ _), (by decide : 25 + 0 ≤ _)⟩)
  dsimp only [Pt.U, Pt.locs, Pt.cells, Pt.slots] at X39 l39 y39 z39 st39 hQ39
  subst l39 y39 z39
  obtain ⟨rfl, Nq39, e39⟩ := hQ39
  replace N_ := Fr.app N_ Nq39
  clear Nq39
  refine own_by (T' := T39) (g' := (mkF m 223 #[vI x1, vI x2, vI x3, vR b1, vR b7, vR b18, vR b28, vI ff, vR b38, .unset, .unset, .unset, .unset, .unset] [(.int (own_pick ff (0 : Int32) (-1 : Int32) (-1 : Int32))), (.int 0), (.ref b38)])) (fun t k => st39 _ k) ?_
  clear st39 X38 e38
  obtain ⟨w0, e_w0⟩ : ∃ z : Int32, z = (own_pick ff (0 : Int32) (-1 : Int32) (-1 : Int32)) := ⟨_, rfl⟩
  rw [← e_w0]
  obtain ⟨cl40, Ar40, q40, S40, N40, Hs40, G40⟩ := id V_b38
  have hin40 : ¬ ((0 : Int32) < 0 ∨ cl40.slots.size ≤ ((0 : Int32)).toNatClampNeg) := inb_of S40 ⟨by decide, by decide⟩
  obtain ⟨T40, h40, X40, e40, W40, st40⟩ := stI X39 hx hZ e39 Ar40 (j := (0 : Int32)) hin40 (g := (mkF m 223 #[vI x1, vI x2, vI x3, vR b1, vR b7, vR b18, vR b28, vI ff, vR b38, .unset, .unset, .unset, .unset, .unset] [(.int w0), (.int 0), (.ref b38)])) rfl rfl (hb hby at_223)
  have V_b38_ : Arv Z h40 b38 k38 .int (5 : Int32) [(.int w0), (.int 0), (.int 0), (.int 0), (.int 0)] (.int 0) := Arv.set Ar40 q40 S40 N40 Hs40 G40 rfl W40 0 rfl (Nat.le_of_ble_eq_true rfl)
  replace E_m2 := E_m2.wr W40
  replace S_NEXT_ONE_BASED := S_NEXT_ONE_BASED.wr W40
  replace E_m3 := E_m3.wr W40
  replace S_NEXTVAL := S_NEXTVAL.wr W40
  replace E_m1 := E_m1.wr W40
  replace S_NEXT := S_NEXT.wr W40
  replace E_m0 := E_m0.wr W40
  replace S_PREFIX := S_PREFIX.wr W40
  replace F_ordinal_m2 := F_ordinal_m2.other W40 (Or.inl ne_m2_b38)
  replace F_ordinal_m3 := F_ordinal_m3.other W40 (Or.inl ne_m3_b38)
  replace F_ordinal_m1 := F_ordinal_m1.other W40 (Or.inl ne_m1_b38)
  replace F_ordinal_m0 := F_ordinal_m0.other W40 (Or.inl ne_m0_b38)
  replace Zle := Nat.le_trans Zle (Keep.of_wr W40).1
  replace V_b1 := V_b1.other W40 ne_b1_b38
  replace V_b7 := V_b7.other W40 ne_b7_b38
  replace V_b18 := V_b18.other W40 ne_b18_b38
  replace V_b28 := V_b28.other W40 ne_b28_b38
  replace V_b38 := V_b38_
  clear V_b38_ W40 hin40 G40 Hs40 N40 S40 q40 Ar40
  replace N_ := Fr.snoc X40 N_ g_b38
  refine own_by (T' := T40) (g' := (mkF m 224 #[vI x1, vI x2, vI x3, vR b1, vR b7, vR b18, vR b28, vI ff, vR b38, .unset, .unset, .unset, .unset, .unset] [])) (fun t k => st40 t k) ?_
  clear st40 X39 e39
  refine own_by (T' := T40) (g' := (mkF m 226 #[vI x1, vI x2, vI x3, vR b1, vR b7, vR b18, vR b28, vI ff, vR b38, .unset, .unset, .unset, .unset, .unset] [(.ref b38)])) (fun t k => XS.aload X40.here hx rfl (hb hby at_224) rfl rfl k) ?_
  refine own_by (T' := T40) (g' := (mkF m 227 #[vI x1, vI x2, vI x3, vR b1, vR b7, vR b18, vR b28, vI ff, vR b38, .unset, .unset, .unset, .unset, .unset] [(.int 1), (.ref b38)])) (fun t k => XS.iconst X40.here hx rfl (hb hby at_226) k) ?_
  refine own_by (T' := T40) (g' := (mkF m 229 #[vI x1, vI x2, vI x3, vR b1, vR b7, vR b18, vR b28, vI ff, vR b38, .unset, .unset, .unset, .unset, .unset] [(.int ff), (.int 1), (.ref b38)])) (fun t k => XS.iload X40.here hx rfl (hb hby at_227) rfl k) ?_
  refine own_by (T' := T40) (g' := (mkF m 231 #[vI x1, vI x2, vI x3, vR b1, vR b7, vR b18, vR b28, vI ff, vR b38, .unset, .unset, .unset, .unset, .unset] [(.ref b7), (.int ff), (.int 1), (.ref b38)])) (fun t k => XS.aload X40.here hx rfl (hb hby at_229) rfl rfl k) ?_
  refine own_by (T' := T40) (g' := (mkF m 233 #[vI x1, vI x2, vI x3, vR b1, vR b7, vR b18, vR b28, vI ff, vR b38, .unset, .unset, .unset, .unset, .unset] [(.ref b18), (.ref b7), (.int ff), (.int 1), (.ref b38)])) (fun t k => XS.aload X40.here hx rfl (hb hby at_231) rfl rfl k) ?_
  refine own_by (T' := T40) (g' := (mkF m 235 #[vI x1, vI x2, vI x3, vR b1, vR b7, vR b18, vR b28, vI ff, vR b38, .unset, .unset, .unset, .unset, .unset] [(.ref b28), (.ref b18), (.ref b7), (.int ff), (.int 1), (.ref b38)])) (fun t k => XS.aload X40.here hx rfl (hb hby at_233) rfl rfl k) ?_
  refine own_by (T' := T40) (g' := (mkF m 236 #[vI x1, vI x2, vI x3, vR b1, vR b7, vR b18, vR b28, vI ff, vR b38, .unset, .unset, .unset, .unset, .unset] [(.int 1), (.ref b28), (.ref b18), (.ref b7), (.int ff), (.int 1), (.ref b38)])) (fun t k => XS.iconst X40.here hx rfl (hb hby at_235) k) ?_
  obtain ⟨_, _, ⟨T41, L41, k41, n41⟩, -, X41, ⟨Lc41, hQ41, l41, y41, z41⟩, st41⟩ := Jvm.LawKit.callS X40 hx (y := (⟨"com/example/emu/emu/TableFormFromPrefixPinLaw", "pick", "(I[I[I[II)I"⟩ : MethodName)) hown (mvT hZ (hw _ (own_m 11 rfl))) (mvT hZ (hw _ (own_m 12 rfl))) (mvT hZ (hw _ (own_m 3 rfl))) (mvT hZ (hw _ (own_m 13 rfl))) (by decide) (backOf (W := 2) (rm4_1 l Z a0 hw [] ff b7 b18 b28 k7 k18 k28 (0 : Int32) t1 t2 t3 t4 (-1 : Int32) (0 : Int32) t1 t2 t3 (-1 : Int32) u1 u2 u3 u4 h40 n0 Zle V_b7 V_b18 V_b28) hZ (hw _ (own_m 13 rfl)) (hw _ (own_m 3 rfl)) (by decide) (by decide)) (g := (mkF m 236 #[vI x1, vI x2, vI x3, vR b1, vR b7, vR b18, vR b28, vI ff, vR b38, .unset, .unset, .unset, .unset, .unset] [(.int 1), (.ref b28), (.ref b18), (.ref b7), (.int ff), (.int 1), (.ref b38)])) rfl (by rw [hml]; rfl) (argsL := [(.int ff), (.ref b7), (.ref b18), (.ref b28), (.int 1)]) (rest := [(.int 1), (.ref b38)]) (lenOf pd_3 rfl) rfl (own_le rfl) (hb hby at_236) (fun _ _ => ⟨rfl, e40, (by decide : 5 + 0 ≤ _), (by decide : 25 + 0 ≤ _)⟩)
  dsimp only [Pt.U, Pt.locs, Pt.cells, Pt.slots] at X41 l41 y41 z41 st41 hQ41
  subst l41 y41 z41
  obtain ⟨rfl, Nq41, e41⟩ := hQ41
  replace N_ := Fr.app N_ Nq41
  clear Nq41
  refine own_by (T' := T41) (g' := (mkF m 239 #[vI x1, vI x2, vI x3, vR b1, vR b7, vR b18, vR b28, vI ff, vR b38, .unset, .unset, .unset, .unset, .unset] [(.int (own_pick ff t1 (0 : Int32) u1)), (.int 1), (.ref b38)])) (fun t k => st41 _ k) ?_
  clear st41 X40 e40
  obtain ⟨w1, e_w1⟩ : ∃ z : Int32, z = (own_pick ff t1 (0 : Int32) u1) := ⟨_, rfl⟩
  rw [← e_w1]
  obtain ⟨cl42, Ar42, q42, S42, N42, Hs42, G42⟩ := id V_b38
  have hin42 : ¬ ((1 : Int32) < 0 ∨ cl42.slots.size ≤ ((1 : Int32)).toNatClampNeg) := inb_of S42 ⟨by decide, by decide⟩
  obtain ⟨T42, h42, X42, e42, W42, st42⟩ := stI X41 hx hZ e41 Ar42 (j := (1 : Int32)) hin42 (g := (mkF m 239 #[vI x1, vI x2, vI x3, vR b1, vR b7, vR b18, vR b28, vI ff, vR b38, .unset, .unset, .unset, .unset, .unset] [(.int w1), (.int 1), (.ref b38)])) rfl rfl (hb hby at_239)
  have V_b38_ : Arv Z h42 b38 k38 .int (5 : Int32) [(.int w0), (.int w1), (.int 0), (.int 0), (.int 0)] (.int 0) := Arv.set Ar42 q42 S42 N42 Hs42 G42 rfl W42 1 rfl (Nat.le_of_ble_eq_true rfl)
  replace E_m2 := E_m2.wr W42
  replace S_NEXT_ONE_BASED := S_NEXT_ONE_BASED.wr W42
  replace E_m3 := E_m3.wr W42
  replace S_NEXTVAL := S_NEXTVAL.wr W42
  replace E_m1 := E_m1.wr W42
  replace S_NEXT := S_NEXT.wr W42
  replace E_m0 := E_m0.wr W42
  replace S_PREFIX := S_PREFIX.wr W42
  replace F_ordinal_m2 := F_ordinal_m2.other W42 (Or.inl ne_m2_b38)
  replace F_ordinal_m3 := F_ordinal_m3.other W42 (Or.inl ne_m3_b38)
  replace F_ordinal_m1 := F_ordinal_m1.other W42 (Or.inl ne_m1_b38)
  replace F_ordinal_m0 := F_ordinal_m0.other W42 (Or.inl ne_m0_b38)
  replace Zle := Nat.le_trans Zle (Keep.of_wr W42).1
  replace V_b1 := V_b1.other W42 ne_b1_b38
  replace V_b7 := V_b7.other W42 ne_b7_b38
  replace V_b18 := V_b18.other W42 ne_b18_b38
  replace V_b28 := V_b28.other W42 ne_b28_b38
  replace V_b38 := V_b38_
  clear V_b38_ W42 hin42 G42 Hs42 N42 S42 q42 Ar42
  replace N_ := Fr.snoc X42 N_ g_b38
  refine own_by (T' := T42) (g' := (mkF m 240 #[vI x1, vI x2, vI x3, vR b1, vR b7, vR b18, vR b28, vI ff, vR b38, .unset, .unset, .unset, .unset, .unset] [])) (fun t k => st42 t k) ?_
  clear st42 X41 e41
  refine own_by (T' := T42) (g' := (mkF m 242 #[vI x1, vI x2, vI x3, vR b1, vR b7, vR b18, vR b28, vI ff, vR b38, .unset, .unset, .unset, .unset, .unset] [(.ref b38)])) (fun t k => XS.aload X42.here hx rfl (hb hby at_240) rfl rfl k) ?_
  refine own_by (T' := T42) (g' := (mkF m 243 #[vI x1, vI x2, vI x3, vR b1, vR b7, vR b18, vR b28, vI ff, vR b38, .unset, .unset, .unset, .unset, .unset] [(.int 2), (.ref b38)])) (fun t k => XS.iconst X42.here hx rfl (hb hby at_242) k) ?_
  refine own_by (T' := T42) (g' := (mkF m 245 #[vI x1, vI x2, vI x3, vR b1, vR b7, vR b18, vR b28, vI ff, vR b38, .unset, .unset, .unset, .unset, .unset] [(.int ff), (.int 2), (.ref b38)])) (fun t k => XS.iload X42.here hx rfl (hb hby at_243) rfl k) ?_
  refine own_by (T' := T42) (g' := (mkF m 247 #[vI x1, vI x2, vI x3, vR b1, vR b7, vR b18, vR b28, vI ff, vR b38, .unset, .unset, .unset, .unset, .unset] [(.ref b7), (.int ff), (.int 2), (.ref b38)])) (fun t k => XS.aload X42.here hx rfl (hb hby at_245) rfl rfl k) ?_
  refine own_by (T' := T42) (g' := (mkF m 249 #[vI x1, vI x2, vI x3, vR b1, vR b7, vR b18, vR b28, vI ff, vR b38, .unset, .unset, .unset, .unset, .unset] [(.ref b18), (.ref b7), (.int ff), (.int 2), (.ref b38)])) (fun t k => XS.aload X42.here hx rfl (hb hby at_247) rfl rfl k) ?_
  refine own_by (T' := T42) (g' := (mkF m 251 #[vI x1, vI x2, vI x3, vR b1, vR b7, vR b18, vR b28, vI ff, vR b38, .unset, .unset, .unset, .unset, .unset] [(.ref b28), (.ref b18), (.ref b7), (.int ff), (.int 2), (.ref b38)])) (fun t k => XS.aload X42.here hx rfl (hb hby at_249) rfl rfl k) ?_
  refine own_by (T' := T42) (g' := (mkF m 252 #[vI x1, vI x2, vI x3, vR b1, vR b7, vR b18, vR b28, vI ff, vR b38, .unset, .unset, .unset, .unset, .unset] [(.int 2), (.ref b28), (.ref b18), (.ref b7), (.int ff), (.int 2), (.ref b38)])) (fun t k => XS.iconst X42.here hx rfl (hb hby at_251) k) ?_
  obtain ⟨_, _, ⟨T43, L43, k43, n43⟩, -, X43, ⟨Lc43, hQ43, l43, y43, z43⟩, st43⟩ := Jvm.LawKit.callS X42 hx (y := (⟨"com/example/emu/emu/TableFormFromPrefixPinLaw", "pick", "(I[I[I[II)I"⟩ : MethodName)) hown (mvT hZ (hw _ (own_m 11 rfl))) (mvT hZ (hw _ (own_m 12 rfl))) (mvT hZ (hw _ (own_m 3 rfl))) (mvT hZ (hw _ (own_m 13 rfl))) (by decide) (backOf (W := 2) (rm4_2 l Z a0 hw [] ff b7 b18 b28 k7 k18 k28 (0 : Int32) t1 t2 t3 t4 (-1 : Int32) (0 : Int32) t1 t2 t3 (-1 : Int32) u1 u2 u3 u4 h42 n0 Zle V_b7 V_b18 V_b28) hZ (hw _ (own_m 13 rfl)) (hw _ (own_m 3 rfl)) (by decide) (by decide)) (g := (mkF m 252 #[vI x1, vI x2, vI x3, vR b1, vR b7, vR b18, vR b28, vI ff, vR b38, .unset, .unset, .unset, .unset, .unset] [(.int 2), (.ref b28), (.ref b18), (.ref b7), (.int ff), (.int 2), (.ref b38)])) rfl (by rw [hml]; rfl) (argsL := [(.int ff), (.ref b7), (.ref b18), (.ref b28), (.int 2)]) (rest := [(.int 2), (.ref b38)]) (lenOf pd_3 rfl) rfl (own_le rfl) (hb hby at_252) (fun _ _ => ⟨rfl, e42, (by decide : 5 + 0 ≤ _), (by decide : 25 + 0 ≤ _)⟩)
  dsimp only [Pt.U, Pt.locs, Pt.cells, Pt.slots] at X43 l43 y43 z43 st43 hQ43
  subst l43 y43 z43
  obtain ⟨rfl, Nq43, e43⟩ := hQ43
  replace N_ := Fr.app N_ Nq43
  clear Nq43
  refine own_by (T' := T43) (g' := (mkF m 255 #[vI x1, vI x2, vI x3, vR b1, vR b7, vR b18, vR b28, vI ff, vR b38, .unset, .unset, .unset, .unset, .unset] [(.int (own_pick ff t2 t1 u2)), (.int 2), (.ref b38)])) (fun t k => st43 _ k) ?_
  clear st43 X42 e42
  obtain ⟨w2, e_w2⟩ : ∃ z : Int32, z = (own_pick ff t2 t1 u2) := ⟨_, rfl⟩
  rw [← e_w2]
  obtain ⟨cl44, Ar44, q44, S44, N44, Hs44, G44⟩ := id V_b38
  have hin44 : ¬ ((2 : Int32) < 0 ∨ cl44.slots.size ≤ ((2 : Int32)).toNatClampNeg) := inb_of S44 ⟨by decide, by decide⟩
  obtain ⟨T44, h44, X44, e44, W44, st44⟩ := stI X43 hx hZ e43 Ar44 (j := (2 : Int32)) hin44 (g := (mkF m 255 #[vI x1, vI x2, vI x3, vR b1, vR b7, vR b18, vR b28, vI ff, vR b38, .unset, .unset, .unset, .unset, .unset] [(.int w2), (.int 2), (.ref b38)])) rfl rfl (hb hby at_255)
  have V_b38_ : Arv Z h44 b38 k38 .int (5 : Int32) [(.int w0), (.int w1), (.int w2), (.int 0), (.int 0)] (.int 0) := Arv.set Ar44 q44 S44 N44 Hs44 G44 rfl W44 2 rfl (Nat.le_of_ble_eq_true rfl)
  replace E_m2 := E_m2.wr W44
  replace S_NEXT_ONE_BASED := S_NEXT_ONE_BASED.wr W44
  replace E_m3 := E_m3.wr W44
  replace S_NEXTVAL := S_NEXTVAL.wr W44
  replace E_m1 := E_m1.wr W44
  replace S_NEXT := S_NEXT.wr W44
  replace E_m0 := E_m0.wr W44
  replace S_PREFIX := S_PREFIX.wr W44
  replace F_ordinal_m2 := F_ordinal_m2.other W44 (Or.inl ne_m2_b38)
  replace F_ordinal_m3 := F_ordinal_m3.other W44 (Or.inl ne_m3_b38)
  replace F_ordinal_m1 := F_ordinal_m1.other W44 (Or.inl ne_m1_b38)
  replace F_ordinal_m0 := F_ordinal_m0.other W44 (Or.inl ne_m0_b38)
  replace Zle := Nat.le_trans Zle (Keep.of_wr W44).1
  replace V_b1 := V_b1.other W44 ne_b1_b38
  replace V_b7 := V_b7.other W44 ne_b7_b38
  replace V_b18 := V_b18.other W44 ne_b18_b38
  replace V_b28 := V_b28.other W44 ne_b28_b38
  replace V_b38 := V_b38_
  clear V_b38_ W44 hin44 G44 Hs44 N44 S44 q44 Ar44
  replace N_ := Fr.snoc X44 N_ g_b38
  refine own_by (T' := T44) (g' := (mkF m 256 #[vI x1, vI x2, vI x3, vR b1, vR b7, vR b18, vR b28, vI ff, vR b38, .unset, .unset, .unset, .unset, .unset] [])) (fun t k => st44 t k) ?_
  clear st44 X43 e43
  refine own_by (T' := T44) (g' := (mkF m 258 #[vI x1, vI x2, vI x3, vR b1, vR b7, vR b18, vR b28, vI ff, vR b38, .unset, .unset, .unset, .unset, .unset] [(.ref b38)])) (fun t k => XS.aload X44.here hx rfl (hb hby at_256) rfl rfl k) ?_
  refine own_by (T' := T44) (g' := (mkF m 259 #[vI x1, vI x2, vI x3, vR b1, vR b7, vR b18, vR b28, vI ff, vR b38, .unset, .unset, .unset, .unset, .unset] [(.int 3), (.ref b38)])) (fun t k => XS.iconst X44.here hx rfl (hb hby at_258) k) ?_
  refine own_by (T' := T44) (g' := (mkF m 261 #[vI x1, vI x2, vI x3, vR b1, vR b7, vR b18, vR b28, vI ff, vR b38, .unset, .unset, .unset, .unset, .unset] [(.int ff), (.int 3), (.ref b38)])) (fun t k => XS.iload X44.here hx rfl (hb hby at_259) rfl k) ?_
  refine own_by (T' := T44) (g' := (mkF m 263 #[vI x1, vI x2, vI x3, vR b1, vR b7, vR b18, vR b28, vI ff, vR b38, .unset, .unset, .unset, .unset, .unset] [(.ref b7), (.int ff), (.int 3), (.ref b38)])) (fun t k => XS.aload X44.here hx rfl (hb hby at_261) rfl rfl k) ?_
  refine own_by (T' := T44) (g' := (mkF m 265 #[vI x1, vI x2, vI x3, vR b1, vR b7, vR b18, vR b28, vI ff, vR b38, .unset, .unset, .unset, .unset, .unset] [(.ref b18), (.ref b7), (.int ff), (.int 3), (.ref b38)])) (fun t k => XS.aload X44.here hx rfl (hb hby at_263) rfl rfl k) ?_
  refine own_by (T' := T44) (g' := (mkF m 267 #[vI x1, vI x2, vI x3, vR b1, vR b7, vR b18, vR b28, vI ff, vR b38, .unset, .unset, .unset, .unset, .unset] [(.ref b28), (.ref b18), (.ref b7), (.int ff), (.int 3), (.ref b38)])) (fun t k => XS.aload X44.here hx rfl (hb hby at_265) rfl rfl k) ?_
  refine own_by (T' := T44) (g' := (mkF m 268 #[vI x1, vI x2, vI x3, vR b1, vR b7, vR b18, vR b28, vI ff, vR b38, .unset, .unset, .unset, .unset, .unset] [(.int 3), (.ref b28), (.ref b18), (.ref b7), (.int ff), (.int 3), (.ref b38)])) (fun t k => XS.iconst X44.here hx rfl (hb hby at_267) k) ?_
  obtain ⟨_, _, ⟨T45, L45, k45, n45⟩, -, X45, ⟨Lc45, hQ45, l45, y45, z45⟩, st45⟩ := Jvm.LawKit.callS X44 hx (y := (⟨"com/example/emu/emu/TableFormFromPrefixPinLaw", "pick", "(I[I[I[II)I"⟩ : MethodName)) hown (mvT hZ (hw _ (own_m 11 rfl))) (mvT hZ (hw _ (own_m 12 rfl))) (mvT hZ (hw _ (own_m 3 rfl))) (mvT hZ (hw _ (own_m 13 rfl))) (by decide) (backOf (W := 2) (rm4_3 l Z a0 hw [] ff b7 b18 b28 k7 k18 k28 (0 : Int32) t1 t2 t3 t4 (-1 : Int32) (0 : Int32) t1 t2 t3 (-1 : Int32) u1 u2 u3 u4 h44 n0 Zle V_b7 V_b18 V_b28) hZ (hw _ (own_m 13 rfl)) (hw _ (own_m 3 rfl)) (by decide) (by decide)) (g := (mkF m 268 #[vI x1, vI x2, vI x3, vR b1, vR b7, vR b18, vR b28, vI ff, vR b38, .unset, .unset, .unset, .unset, .unset] [(.int 3), (.ref b28), (.ref b18), (.ref b7), (.int ff), (.int 3), (.ref b38)])) rfl (by rw [hml]; rfl) (argsL := [(.int ff), (.ref b7), (.ref b18), (.ref b28), (.int 3)]) (rest := [(.int 3), (.ref b38)]) (lenOf pd_3 rfl) rfl (own_le rfl) (hb hby at_268) (fun _ _ => ⟨rfl, e44, (by decide : 5 + 0 ≤ _), (by decide : 25 + 0 ≤ _)⟩)
  dsimp only [Pt.U, Pt.locs, Pt.cells, Pt.slots] at X45 l45 y45 z45 st45 hQ45
  subst l45 y45 z45
  obtain ⟨rfl, Nq45, e45⟩ := hQ45
  replace N_ := Fr.app N_ Nq45
  clear Nq45
  refine own_by (T' := T45) (g' := (mkF m 271 #[vI x1, vI x2, vI x3, vR b1, vR b7, vR b18, vR b28, vI ff, vR b38, .unset, .unset, .unset, .unset, .unset] [(.int (own_pick ff t3 t2 u3)), (.int 3), (.ref b38)])) (fun t k => st45 _ k) ?_
  clear st45 X44 e44
  obtain ⟨w3, e_w3⟩ : ∃ z : Int32, z = (own_pick ff t3 t2 u3) := ⟨_, rfl⟩
  rw [← e_w3]
  obtain ⟨cl46, Ar46, q46, S46, N46, Hs46, G46⟩ := id V_b38
  have hin46 : ¬ ((3 : Int32) < 0 ∨ cl46.slots.size ≤ ((3 : Int32)).toNatClampNeg) := inb_of S46 ⟨by decide, by decide⟩
  obtain ⟨T46, h46, X46, e46, W46, st46⟩ := stI X45 hx hZ e45 Ar46 (j := (3 : Int32)) hin46 (g := (mkF m 271 #[vI x1, vI x2, vI x3, vR b1, vR b7, vR b18, vR b28, vI ff, vR b38, .unset, .unset, .unset, .unset, .unset] [(.int w3), (.int 3), (.ref b38)])) rfl rfl (hb hby at_271)
  have V_b38_ : Arv Z h46 b38 k38 .int (5 : Int32) [(.int w0), (.int w1), (.int w2), (.int w3), (.int 0)] (.int 0) := Arv.set Ar46 q46 S46 N46 Hs46 G46 rfl W46 3 rfl (Nat.le_of_ble_eq_true rfl)
  replace E_m2 := E_m2.wr W46
  replace S_NEXT_ONE_BASED := S_NEXT_ONE_BASED.wr W46
  replace E_m3 := E_m3.wr W46
  replace S_NEXTVAL := S_NEXTVAL.wr W46
  replace E_m1 := E_m1.wr W46
  replace S_NEXT := S_NEXT.wr W46
  replace E_m0 := E_m0.wr W46
  replace S_PREFIX := S_PREFIX.wr W46
  replace F_ordinal_m2 := F_ordinal_m2.other W46 (Or.inl ne_m2_b38)
  replace F_ordinal_m3 := F_ordinal_m3.other W46 (Or.inl ne_m3_b38)
  replace F_ordinal_m1 := F_ordinal_m1.other W46 (Or.inl ne_m1_b38)
  replace F_ordinal_m0 := F_ordinal_m0.other W46 (Or.inl ne_m0_b38)
  replace Zle := Nat.le_trans Zle (Keep.of_wr W46).1
  replace V_b1 := V_b1.other W46 ne_b1_b38
  replace V_b7 := V_b7.other W46 ne_b7_b38
  replace V_b18 := V_b18.other W46 ne_b18_b38
  replace V_b28 := V_b28.other W46 ne_b28_b38
  replace V_b38 := V_b38_
  clear V_b38_ W46 hin46 G46 Hs46 N46 S46 q46 Ar46
  replace N_ := Fr.snoc X46 N_ g_b38
  refine own_by (T' := T46) (g' := (mkF m 272 #[vI x1, vI x2, vI x3, vR b1, vR b7, vR b18, vR b28, vI ff, vR b38, .unset, .unset, .unset, .unset, .unset] [])) (fun t k => st46 t k) ?_
  clear st46 X45 e45
  refine own_by (T' := T46) (g' := (mkF m 274 #[vI x1, vI x2, vI x3, vR b1, vR b7, vR b18, vR b28, vI ff, vR b38, .unset, .unset, .unset, .unset, .unset] [(.ref b38)])) (fun t k => XS.aload X46.here hx rfl (hb hby at_272) rfl rfl k) ?_
  refine own_by (T' := T46) (g' := (mkF m 275 #[vI x1, vI x2, vI x3, vR b1, vR b7, vR b18, vR b28, vI ff, vR b38, .unset, .unset, .unset, .unset, .unset] [(.int 4), (.ref b38)])) (fun t k => XS.iconst X46.here hx rfl (hb hby at_274) k) ?_
  refine own_by (T' := T46) (g' := (mkF m 277 #[vI x1, vI x2, vI x3, vR b1, vR b7, vR b18, vR b28, vI ff, vR b38, .unset, .unset, .unset, .unset, .unset] [(.int ff), (.int 4), (.ref b38)])) (fun t k => XS.iload X46.here hx rfl (hb hby at_275) rfl k) ?_
  refine own_by (T' := T46) (g' := (mkF m 279 #[vI x1, vI x2, vI x3, vR b1, vR b7, vR b18, vR b28, vI ff, vR b38, .unset, .unset, .unset, .unset, .unset] [(.ref b7), (.int ff), (.int 4), (.ref b38)])) (fun t k => XS.aload X46.here hx rfl (hb hby at_277) rfl rfl k) ?_
  refine own_by (T' := T46) (g' := (mkF m 281 #[vI x1, vI x2, vI x3, vR b1, vR b7, vR b18, vR b28, vI ff, vR b38, .unset, .unset, .unset, .unset, .unset] [(.ref b18), (.ref b7), (.int ff), (.int 4), (.ref b38)])) (fun t k => XS.aload X46.here hx rfl (hb hby at_279) rfl rfl k) ?_
  refine own_by (T' := T46) (g' := (mkF m 283 #[vI x1, vI x2, vI x3, vR b1, vR b7, vR b18, vR b28, vI ff, vR b38, .unset, .unset, .unset, .unset, .unset] [(.ref b28), (.ref b18), (.ref b7), (.int ff), (.int 4), (.ref b38)])) (fun t k => XS.aload X46.here hx rfl (hb hby at_281) rfl rfl k) ?_
  refine own_by (T' := T46) (g' := (mkF m 284 #[vI x1, vI x2, vI x3, vR b1, vR b7, vR b18, vR b28, vI ff, vR b38, .unset, .unset, .unset, .unset, .unset] [(.int 4), (.ref b28), (.ref b18), (.ref b7), (.int ff), (.int 4), (.ref b38)])) (fun t k => XS.iconst X46.here hx rfl (hb hby at_283) k) ?_
  obtain ⟨_, _, ⟨T47, L47, k47, n47⟩, -, X47, ⟨Lc47, hQ47, l47, y47, z47⟩, st47⟩ := Jvm.LawKit.callS X46 hx (y := (⟨"com/example/emu/emu/TableFormFromPrefixPinLaw", "pick", "(I[I[I[II)I"⟩ : MethodName)) hown (mvT hZ (hw _ (own_m 11 rfl))) (mvT hZ (hw _ (own_m 12 rfl))) (mvT hZ (hw _ (own_m 3 rfl))) (mvT hZ (hw _ (own_m 13 rfl))) (by decide) (backOf (W := 2) (rm4_4 l Z a0 hw [] ff b7 b18 b28 k7 k18 k28 (0 : Int32) t1 t2 t3 t4 (-1 : Int32) (0 : Int32) t1 t2 t3 (-1 : Int32) u1 u2 u3 u4 h46 n0 Zle V_b7 V_b18 V_b28) hZ (hw _ (own_m 13 rfl)) (hw _ (own_m 3 rfl)) (by decide) (by decide)) (g := (mkF m 284 #[vI x1, vI x2, vI x3, vR b1, vR b7, vR b18, vR b28, vI ff, vR b38, .unset, .unset, .unset, .unset, .unset] [(.int 4), (.ref b28), (.ref b18), (.ref b7), (.int ff), (.int 4), (.ref b38)])) rfl (by rw [hml]; rfl) (argsL := [(.int ff), (.ref b7), (.ref b18), (.ref b28), (.int 4)]) (rest := [(.int 4), (.ref b38)]) (lenOf pd_3 rfl) rfl (own_le rfl) (hb hby at_284) (fun _ _ => ⟨rfl, e46, (by decide : 5 + 0 ≤ _), (by decide : 25 + 0 ≤ _)⟩)
  dsimp only [Pt.U, Pt.locs, Pt.cells, Pt.slots] at X47 l47 y47 z47 st47 hQ47
  subst l47 y47 z47
  obtain ⟨rfl, Nq47, e47⟩ := hQ47
  replace N_ := Fr.app N_ Nq47
  clear Nq47
  refine own_by (T' := T47) (g' := (mkF m 287 #[vI x1, vI x2, vI x3, vR b1, vR b7, vR b18, vR b28, vI ff, vR b38, .unset, .unset, .unset, .unset, .unset] [(.int (own_pick ff t4 t3 u4)), (.int 4), (.ref b38)])) (fun t k => st47 _ k) ?_
  clear st47 X46 e46
  obtain ⟨w4, e_w4⟩ : ∃ z : Int32, z = (own_pick ff t4 t3 u4) := ⟨_, rfl⟩
  rw [← e_w4]
  obtain ⟨cl48, Ar48, q48, S48, N48, Hs48, G48⟩ := id V_b38
  have hin48 : ¬ ((4 : Int32) < 0 ∨ cl48.slots.size ≤ ((4 : Int32)).toNatClampNeg) := inb_of S48 ⟨by decide, by decide⟩
  obtain ⟨T48, h48, X48, e48, W48, st48⟩ := stI X47 hx hZ e47 Ar48 (j := (4 : Int32)) hin48 (g := (mkF m 287 #[vI x1, vI x2, vI x3, vR b1, vR b7, vR b18, vR b28, vI ff, vR b38, .unset, .unset, .unset, .unset, .unset] [(.int w4), (.int 4), (.ref b38)])) rfl rfl (hb hby at_287)
  have V_b38_ : Arv Z h48 b38 k38 .int (5 : Int32) [(.int w0), (.int w1), (.int w2), (.int w3), (.int w4)] (.int 0) := Arv.set Ar48 q48 S48 N48 Hs48 G48 rfl W48 4 rfl (Nat.le_of_ble_eq_true rfl)
  replace E_m2 := E_m2.wr W48
  replace S_NEXT_ONE_BASED := S_NEXT_ONE_BASED.wr W48
  replace E_m3 := E_m3.wr W48
  replace S_NEXTVAL := S_NEXTVAL.wr W48
  replace E_m1 := E_m1.wr W48
  replace S_NEXT := S_NEXT.wr W48
  replace E_m0 := E_m0.wr W48
  replace S_PREFIX := S_PREFIX.wr W48
  replace F_ordinal_m2 := F_ordinal_m2.other W48 (Or.inl ne_m2_b38)
  replace F_ordinal_m3 := F_ordinal_m3.other W48 (Or.inl ne_m3_b38)
  replace F_ordinal_m1 := F_ordinal_m1.other W48 (Or.inl ne_m1_b38)
  replace F_ordinal_m0 := F_ordinal_m0.other W48 (Or.inl ne_m0_b38)
  replace Zle := Nat.le_trans Zle (Keep.of_wr W48).1
  replace V_b1 := V_b1.other W48 ne_b1_b38
  replace V_b7 := V_b7.other W48 ne_b7_b38
  replace V_b18 := V_b18.other W48 ne_b18_b38
  replace V_b28 := V_b28.other W48 ne_b28_b38
  replace V_b38 := V_b38_
  clear V_b38_ W48 hin48 G48 Hs48 N48 S48 q48 Ar48
  replace N_ := Fr.snoc X48 N_ g_b38
  refine own_by (T' := T48) (g' := (mkF m 288 #[vI x1, vI x2, vI x3, vR b1, vR b7, vR b18, vR b28, vI ff, vR b38, .unset, .unset, .unset, .unset, .unset] [])) (fun t k => st48 t k) ?_
  clear st48 X47 e47
  refine own_by (T' := T48) (g' := (mkF m 289 #[vI x1, vI x2, vI x3, vR b1, vR b7, vR b18, vR b28, vI ff, vR b38, .unset, .unset, .unset, .unset, .unset] [(.int x2)])) (fun t k => XS.iloadN X48.here hx rfl (hb hby at_288) rfl k) ?_
  refine own_by (T' := T48) (g' := (mkF m 291 #[vI x1, vI x2, vI x3, vR b1, vR b7, vR b18, vR b28, vI ff, vR b38, .unset, .unset, .unset, .unset, .unset] [(.int 7), (.int x2)])) (fun t k => XS.bipush X48.here hx rfl (hb hby at_289) k) ?_
  refine own_by (T' := T48) (g' := (mkF m 292 #[vI x1, vI x2, vI x3, vR b1, vR b7, vR b18, vR b28, vI ff, vR b38, .unset, .unset, .unset, .unset, .unset] [(.int (x2 &&& (7 : Int32)))])) (fun t k => XS.iand X48.here hx rfl (hb hby at_291) rfl k) ?_
  refine own_by (T' := T48) (g' := (mkF m 294 #[vI x1, vI x2, vI x3, vR b1, vR b7, vR b18, vR b28, vI ff, vR b38, .unset, .unset, .unset, .unset, .unset] [(.int 6), (.int (x2 &&& (7 : Int32)))])) (fun t k => XS.bipush X48.here hx rfl (hb hby at_292) k) ?_
  refine own_by (T' := T48) (g' := (mkF m 295 #[vI x1, vI x2, vI x3, vR b1, vR b7, vR b18, vR b28, vI ff, vR b38, .unset, .unset, .unset, .unset, .unset] [(.int ((x2 &&& (7 : Int32)) % (6 : Int32)))])) (fun t k => iremM X48 hx rfl (hb hby at_294) rfl (by decide) k) ?_
  refine own_by (T' := T48) (g' := (mkF m 297 #[vI x1, vI x2, vI x3, vR b1, vR b7, vR b18, vR b28, vI ff, vR b38, vI ((x2 &&& (7 : Int32)) % (6 : Int32)), .unset, .unset, .unset, .unset] [])) (fun t k => XS.istore X48.here hx rfl (hb hby at_295) rfl (l' := #[vI x1, vI x2, vI x3, vR b1, vR b7, vR b18, vR b28, vI ff, vR b38, vI ((x2 &&& (7 : Int32)) % (6 : Int32)), .unset, .unset, .unset, .unset]) rfl k) ?_
  obtain ⟨nn, e_nn⟩ : ∃ z : Int32, z = ((x2 &&& (7 : Int32)) % (6 : Int32)) := ⟨_, rfl⟩
  rw [← e_nn]
  obtain ⟨hn0, hn5, hn6⟩ := own_n x2
  rw [← e_nn] at hn0 hn5 hn6
  refine own_by (T' := T48) (g' := (mkF m 299 #[vI x1, vI x2, vI x3, vR b1, vR b7, vR b18, vR b28, vI ff, vR b38, vI nn, .unset, .unset, .unset, .unset] [(.int nn)])) (fun t k => XS.iload X48.here hx rfl (hb hby at_297) rfl k) ?_
  obtain ⟨T49, h49, k49, X49, e49, E49, A49, st49⟩ := newP X48 hx hZ (hw _ (own_m 0 rfl)) e48 (g := (mkF m 299 #[vI x1, vI x2, vI x3, vR b1, vR b7, vR b18, vR b28, vI ff, vR b38, vI nn, .unset, .unset, .unset, .unset] [(.int nn)])) rfl (hb hby at_299) rfl hn0 (cap := 5) hn5 (by decide) (by decide) (by decide)
  obtain ⟨b49, g49⟩ : ∃ z, z = h48.size := ⟨_, rfl⟩
  rw [← g49] at A49 st49
  have ne_m2_b49 : m2 ≠ b49 := Nat.ne_of_lt (Nat.lt_of_lt_of_eq E_m2.lt g49.symm)
  have ne_m3_b49 : m3 ≠ b49 := Nat.ne_of_lt (Nat.lt_of_lt_of_eq E_m3.lt g49.symm)
  have ne_m1_b49 : m1 ≠ b49 := Nat.ne_of_lt (Nat.lt_of_lt_of_eq E_m1.lt g49.symm)
  have ne_m0_b49 : m0 ≠ b49 := Nat.ne_of_lt (Nat.lt_of_lt_of_eq E_m0.lt g49.symm)
  have ne_b1_b49 : b1 ≠ b49 := Nat.ne_of_lt (Nat.lt_of_lt_of_eq V_b1.lt g49.symm)
  have ne_b7_b49 : b7 ≠ b49 := Nat.ne_of_lt (Nat.lt_of_lt_of_eq V_b7.lt g49.symm)
  have ne_b18_b49 : b18 ≠ b49 := Nat.ne_of_lt (Nat.lt_of_lt_of_eq V_b18.lt g49.symm)
  have ne_b28_b49 : b28 ≠ b49 := Nat.ne_of_lt (Nat.lt_of_lt_of_eq V_b28.lt g49.symm)
  have ne_b38_b49 : b38 ≠ b49 := Nat.ne_of_lt (Nat.lt_of_lt_of_eq V_b38.lt g49.symm)
  have g_b49 : n0 ≤ b49 := Nat.le_trans Zle (Nat.le_of_eq g49.symm)
  replace E_m2 := E_m2.ext E49
  replace S_NEXT_ONE_BASED := S_NEXT_ONE_BASED.ext E49
  replace E_m3 := E_m3.ext E49
  replace S_NEXTVAL := S_NEXTVAL.ext E49
  replace E_m1 := E_m1.ext E49
  replace S_NEXT := S_NEXT.ext E49
  replace E_m0 := E_m0.ext E49
  replace S_PREFIX := S_PREFIX.ext E49
  replace F_ordinal_m2 := F_ordinal_m2.ext E49
  replace F_ordinal_m3 := F_ordinal_m3.ext E49
  replace F_ordinal_m1 := F_ordinal_m1.ext E49
  replace F_ordinal_m0 := F_ordinal_m0.ext E49
  replace Zle := Nat.le_trans Zle E49.1
  replace V_b1 := V_b1.ext E49
  replace V_b7 := V_b7.ext E49
  replace V_b18 := V_b18.ext E49
  replace V_b28 := V_b28.ext E49
  replace V_b38 := V_b38.ext E49
  have V_b49 : Arv Z h49 b49 k49 .int nn [(.int 0), (.int 0), (.int 0), (.int 0), (.int 0)] (.int 0) := (Arv.new A49 hn0).pad (pad_rep [] (.int 0) 5)
  refine own_by (T' := T49) (g' := (mkF m 301 #[vI x1, vI x2, vI x3, vR b1, vR b7, vR b18, vR b28, vI ff, vR b38, vI nn, .unset, .unset, .unset, .unset] [(.ref b49)])) (fun t k => st49 t k) ?_
  clear st49 X48 e48
  refine own_by (T' := T49) (g' := (mkF m 303 #[vI x1, vI x2, vI x3, vR b1, vR b7, vR b18, vR b28, vI ff, vR b38, vI nn, vR b49, .unset, .unset, .unset] [])) (fun t k => XS.astore X49.here hx rfl (hb hby at_301) rfl rfl (l' := #[vI x1, vI x2, vI x3, vR b1, vR b7, vR b18, vR b28, vI ff, vR b38, vI nn, vR b49, .unset, .unset, .unset]) rfl k) ?_
  have JP316 : ∀ (T' : State) (h' : Heap) (locs' : List Loc), Stand p l e room_1 s m #[(.int x1), (.int x2), (.int x3)] below meth c T' locs' 6 30 → T'.heap = h' → Fr n0 locs' → n0 ≤ h'.size → Arv Z h' b49 k49 .int nn [(.int 0), (.int 0), (.int 0), (.int 0), (.int 0)] (.int 0) → Arv Z h' b7 k7 .int 5 [(.int 0), (.int t1), (.int t2), (.int t3), (.int t4)] (.int 0) → Arv Z h' b38 k38 .int 5 [(.int w0), (.int w1), (.int w2), (.int w3), (.int w4)] (.int 0) → Exa Z h' m2 "com/example/emu/emu/TableForm" → Sta Z h' "com/example/emu/emu/TableForm" "NEXT_ONE_BASED" "Lcom/example/emu/emu/TableForm;" (.ref m2) → Exa Z h' m3 "com/example/emu/emu/TableForm" → Sta Z h' "com/example/emu/emu/TableForm" "NEXTVAL" "Lcom/example/emu/emu/TableForm;" (.ref m3) → Exa Z h' m1 "com/example/emu/emu/TableForm" → Sta Z h' "com/example/emu/emu/TableForm" "NEXT" "Lcom/example/emu/emu/TableForm;" (.ref m1) → Exa Z h' m0 "com/example/emu/emu/TableForm" → Sta Z h' "com/example/emu/emu/TableForm" "PREFIX" "Lcom/example/emu/emu/TableForm;" (.ref m0) → Fld Z h' m2 "java/lang/Enum" "ordinal" "I" (.int 2) → Fld Z h' m3 "java/lang/Enum" "ordinal" "I" (.int 3) → Fld Z h' m1 "java/lang/Enum" "ordinal" "I" (.int 1) → Fld Z h' m0 "java/lang/Enum" "ordinal" "I" (.int 0) → own_Goes p.tables e below s (Q0 Z x1 x2 x3 m0 m1 m2 m3 h0 n0) room_1.cells room_1.slots T' (mkF m 316 #[vI x1, vI x2, vI x3, vR b1, vR b7, vR b18, vR b28, vI ff, vR b38, vI nn, vR b49, .unset, .unset, .unset] []) := by
    intro T_316 h_316 locs_316 X_316 e_316 N_ Zle V_b49 V_b7 V_b38 E_m2 S_NEXT_ONE_BASED E_m3 S_NEXTVAL E_m1 S_NEXT E_m0 S_PREFIX F_ordinal_m2 F_ordinal_m3 F_ordinal_m1 F_ordinal_m0
    have JP330 : ∀ (T' : State) (h' : Heap) (locs' : List Loc), Stand p l e room_1 s m #[(.int x1), (.int x2), (.int x3)] below meth c T' locs' 6 30 → T'.heap = h' → Fr n0 locs' → n0 ≤ h'.size → Arv Z h' b49 k49 .int nn [(.int 0), (.int t1), (.int 0), (.int 0), (.int 0)] (.int 0) → Arv Z h' b7 k7 .int 5 [(.int 0), (.int t1), (.int t2), (.int t3), (.int t4)] (.int 0) → Arv Z h' b38 k38 .int 5 [(.int w0), (.int w1), (.int w2), (.int w3), (.int w4)] (.int 0) → Exa Z h' m2 "com/example/emu/emu/TableForm" → Sta Z h' "com/example/emu/emu/TableForm" "NEXT_ONE_BASED" "Lcom/example/emu/emu/TableForm;" (.ref m2) → Exa Z h' m3 "com/example/emu/emu/TableForm" → Sta Z h' "com/example/emu/emu/TableForm" "NEXTVAL" "Lcom/example/emu/emu/TableForm;" (.ref m3) → Exa Z h' m1 "com/example/emu/emu/TableForm" → Sta Z h' "com/example/emu/emu/TableForm" "NEXT" "Lcom/example/emu/emu/TableForm;" (.ref m1) → Exa Z h' m0 "com/example/emu/emu/TableForm" → Sta Z h' "com/example/emu/emu/TableForm" "PREFIX" "Lcom/example/emu/emu/TableForm;" (.ref m0) → Fld Z h' m2 "java/lang/Enum" "ordinal" "I" (.int 2) → Fld Z h' m3 "java/lang/Enum" "ordinal" "I" (.int 3) → Fld Z h' m1 "java/lang/Enum" "ordinal" "I" (.int 1) → Fld Z h' m0 "java/lang/Enum" "ordinal" "I" (.int 0) → own_Goes p.tables e below s (Q0 Z x1 x2 x3 m0 m1 m2 m3 h0 n0) room_1.cells room_1.slots T' (mkF m 330 #[vI x1, vI x2, vI x3, vR b1, vR b7, vR b18, vR b28, vI ff, vR b38, vI nn, vR b49, .unset, .unset, .unset] []) := by
      intro T_330 h_330 locs_330 X_330 e_330 N_ Zle V_b49 V_b7 V_b38 E_m2 S_NEXT_ONE_BASED E_m3 S_NEXTVAL E_m1 S_NEXT E_m0 S_PREFIX F_ordinal_m2 F_ordinal_m3 F_ordinal_m1 F_ordinal_m0
      have JP344 : ∀ (T' : State) (h' : Heap) (locs' : List Loc), Stand p l e room_1 s m #[(.int x1), (.int x2), (.int x3)] below meth c T' locs' 6 30 → T'.heap = h' → Fr n0 locs' → n0 ≤ h'.size → Arv Z h' b49 k49 .int nn [(.int 0), (.int t1), (.int t2), (.int 0), (.int 0)] (.int 0) → Arv Z h' b7 k7 .int 5 [(.int 0), (.int t1), (.int t2), (.int t3), (.int t4)] (.int 0) → Arv Z h' b38 k38 .int 5 [(.int w0), (.int w1), (.int w2), (.int w3), (.int w4)] (.int 0) → Exa Z h' m2 "com/example/emu/emu/TableForm" → Sta Z h' "com/example/emu/emu/TableForm" "NEXT_ONE_BASED" "Lcom/example/emu/emu/TableForm;" (.ref m2) → Exa Z h' m3 "com/example/emu/emu/TableForm" → Sta Z h' "com/example/emu/emu/TableForm" "NEXTVAL" "Lcom/example/emu/emu/TableForm;" (.ref m3) → Exa Z h' m1 "com/example/emu/emu/TableForm" → Sta Z h' "com/example/emu/emu/TableForm" "NEXT" "Lcom/example/emu/emu/TableForm;" (.ref m1) → Exa Z h' m0 "com/example/emu/emu/TableForm" → Sta Z h' "com/example/emu/emu/TableForm" "PREFIX" "Lcom/example/emu/emu/TableForm;" (.ref m0) → Fld Z h' m2 "java/lang/Enum" "ordinal" "I" (.int 2) → Fld Z h' m3 "java/lang/Enum" "ordinal" "I" (.int 3) → Fld Z h' m1 "java/lang/Enum" "ordinal" "I" (.int 1) → Fld Z h' m0 "java/lang/Enum" "ordinal" "I" (.int 0) → own_Goes p.tables e below s (Q0 Z x1 x2 x3 m0 m1 m2 m3 h0 n0) room_1.cells room_1.slots T' (mkF m 344 #[vI x1, vI x2, vI x3, vR b1, vR b7, vR b18, vR b28, vI ff, vR b38, vI nn, vR b49, .unset, .unset, .unset] []) := by
        intro T_344 h_344 locs_344 X_344 e_344 N_ Zle V_b49 V_b7 V_b38 E_m2 S_NEXT_ONE_BASED E_m3 S_NEXTVAL E_m1 S_NEXT E_m0 S_PREFIX F_ordinal_m2 F_ordinal_m3 F_ordinal_m1 F_ordinal_m0
        have JP358 : ∀ (T' : State) (h' : Heap) (locs' : List Loc), Stand p l e room_1 s m #[(.int x1), (.int x2), (.int x3)] below meth c T' locs' 6 30 → T'.heap = h' → Fr n0 locs' → n0 ≤ h'.size → Arv Z h' b49 k49 .int nn [(.int 0), (.int t1), (.int t2), (.int t3), (.int 0)] (.int 0) → Arv Z h' b7 k7 .int 5 [(.int 0), (.int t1), (.int t2), (.int t3), (.int t4)] (.int 0) → Arv Z h' b38 k38 .int 5 [(.int w0), (.int w1), (.int w2), (.int w3), (.int w4)] (.int 0) → Exa Z h' m2 "com/example/emu/emu/TableForm" → Sta Z h' "com/example/emu/emu/TableForm" "NEXT_ONE_BASED" "Lcom/example/emu/emu/TableForm;" (.ref m2) → Exa Z h' m3 "com/example/emu/emu/TableForm" → Sta Z h' "com/example/emu/emu/TableForm" "NEXTVAL" "Lcom/example/emu/emu/TableForm;" (.ref m3) → Exa Z h' m1 "com/example/emu/emu/TableForm" → Sta Z h' "com/example/emu/emu/TableForm" "NEXT" "Lcom/example/emu/emu/TableForm;" (.ref m1) → Exa Z h' m0 "com/example/emu/emu/TableForm" → Sta Z h' "com/example/emu/emu/TableForm" "PREFIX" "Lcom/example/emu/emu/TableForm;" (.ref m0) → Fld Z h' m2 "java/lang/Enum" "ordinal" "I" (.int 2) → Fld Z h' m3 "java/lang/Enum" "ordinal" "I" (.int 3) → Fld Z h' m1 "java/lang/Enum" "ordinal" "I" (.int 1) → Fld Z h' m0 "java/lang/Enum" "ordinal" "I" (.int 0) → own_Goes p.tables e below s (Q0 Z x1 x2 x3 m0 m1 m2 m3 h0 n0) room_1.cells room_1.slots T' (mkF m 358 #[vI x1, vI x2, vI x3, vR b1, vR b7, vR b18, vR b28, vI ff, vR b38, vI nn, vR b49, .unset, .unset, .unset] []) := by
          intro T_358 h_358 locs_358 X_358 e_358 N_ Zle V_b49 V_b7 V_b38 E_m2 S_NEXT_ONE_BASED E_m3 S_NEXTVAL E_m1 S_NEXT E_m0 S_PREFIX F_ordinal_m2 F_ordinal_m3 F_ordinal_m1 F_ordinal_m0
          have JP372 : ∀ (T' : State) (h' : Heap) (locs' : List Loc), Stand p l e room_1 s m #[(.int x1), (.int x2), (.int x3)] below meth c T' locs' 6 30 → T'.heap = h' → Fr n0 locs' → n0 ≤ h'.size → Arv Z h' b49 k49 .int nn [(.int 0), (.int t1), (.int t2), (.int t3), (.int t4)] (.int 0) → Arv Z h' b7 k7 .int 5 [(.int 0), (.int t1), (.int t2), (.int t3), (.int t4)] (.int 0) → Arv Z h' b38 k38 .int 5 [(.int w0), (.int w1), (.int w2), (.int w3), (.int w4)] (.int 0) → Exa Z h' m2 "com/example/emu/emu/TableForm" → Sta Z h' "com/example/emu/emu/TableForm" "NEXT_ONE_BASED" "Lcom/example/emu/emu/TableForm;" (.ref m2) → Exa Z h' m3 "com/example/emu/emu/TableForm" → Sta Z h' "com/example/emu/emu/TableForm" "NEXTVAL" "Lcom/example/emu/emu/TableForm;" (.ref m3) → Exa Z h' m1 "com/example/emu/emu/TableForm" → Sta Z h' "com/example/emu/emu/TableForm" "NEXT" "Lcom/example/emu/emu/TableForm;" (.ref m1) → Exa Z h' m0 "com/example/emu/emu/TableForm" → Sta Z h' "com/example/emu/emu/TableForm" "PREFIX" "Lcom/example/emu/emu/TableForm;" (.ref m0) → Fld Z h' m2 "java/lang/Enum" "ordinal" "I" (.int 2) → Fld Z h' m3 "java/lang/Enum" "ordinal" "I" (.int 3) → Fld Z h' m1 "java/lang/Enum" "ordinal" "I" (.int 1) → Fld Z h' m0 "java/lang/Enum" "ordinal" "I" (.int 0) → own_Goes p.tables e below s (Q0 Z x1 x2 x3 m0 m1 m2 m3 h0 n0) room_1.cells room_1.slots T' (mkF m 372 #[vI x1, vI x2, vI x3, vR b1, vR b7, vR b18, vR b28, vI ff, vR b38, vI nn, vR b49, .unset, .unset, .unset] []) := by
            intro T_372 h_372 locs_372 X_372 e_372 N_ Zle V_b49 V_b7 V_b38 E_m2 S_NEXT_ONE_BASED E_m3 S_NEXTVAL E_m1 S_NEXT E_m0 S_PREFIX F_ordinal_m2 F_ordinal_m3 F_ordinal_m1 F_ordinal_m0
            exact own_c372 l Z a0 hw hx hby hml hlk hret x1 x2 x3 m0 m1 m2 m3 h0 n0  b1 k1 c0 c1 c2 c3 c4 b7 k7 t1 t2 t3 t4 b18 k18 b28 k28 u1 u2 u3 u4 ff b38 k38 w0 w1 w2 w3 w4 nn b49 k49 hZ hown (X_372) e_372 E_m2 S_NEXT_ONE_BASED E_m3 S_NEXTVAL E_m1 S_NEXT E_m0 S_PREFIX F_ordinal_m2 F_ordinal_m3 F_ordinal_m1 F_ordinal_m0 Zle N_ ne_m2_b1 ne_m3_b1 ne_m1_b1 ne_m0_b1 g_b1 ne_m2_b7 ne_m3_b7 ne_m1_b7 ne_m0_b7 ne_b1_b7 g_b7 ne_m2_b18 ne_m3_b18 ne_m1_b18 ne_m0_b18 ne_b1_b18 ne_b7_b18 g_b18 ne_m2_b28 ne_m3_b28 ne_m1_b28 ne_m0_b28 ne_b1_b28 ne_b7_b28 ne_b18_b28 g_b28 ne_m2_b38 ne_m3_b38 ne_m1_b38 ne_m0_b38 ne_b1_b38 ne_b7_b38 ne_b18_b38 ne_b28_b38 g_b38 ne_m2_b49 ne_m3_b49 ne_m1_b49 ne_m0_b49 ne_b1_b49 ne_b7_b49 ne_b18_b49 ne_b28_b49 ne_b38_b49 g_b49 V_b49 V_b7 V_b38 e_c0 e_c1 e_c2 e_c3 e_c4 e_t1 HB1 hr1 e_t2 HB2 hr2 e_t3 HB3 hr3 e_t4 HB4 hr4 e_u1 e_u2 e_u3 e_u4 e_ff e_w0 e_w1 e_w2 e_w3 e_w4 e_nn hn0 hn5 hn6
          refine own_by (T' := T_358) (g' := (mkF m 360 #[vI x1, vI x2, vI x3, vR b1, vR b7, vR b18, vR b28, vI ff, vR b38, vI nn, vR b49, .unset, .unset, .unset] [(.int nn)])) (fun t k => XS.iload X_358.here hx rfl (hb hby at_358) rfl k) ?_
          clear X49 e49
          refine own_by (T' := T_358) (g' := (mkF m 361 #[vI x1, vI x2, vI x3, vR b1, vR b7, vR b18, vR b28, vI ff, vR b38, vI nn, vR b49, .unset, .unset, .unset] [(.int 4), (.int nn)])) (fun t k => XS.iconst X_358.here hx rfl (hb hby at_360) k) ?_
          by_cases hc361_102 : (4 : Int32) < nn
          · refine own_by (T' := T_358) (g' := (mkF m 364 #[vI x1, vI x2, vI x3, vR b1, vR b7, vR b18, vR b28, vI ff, vR b38, vI nn, vR b49, .unset, .unset, .unset] [])) (fun t k => XS.icmpNo X_358.here hx rfl (hb hby at_361) rfl (tlt hc361_102).2.2.2 k) ?_
            refine own_by (T' := T_358) (g' := (mkF m 366 #[vI x1, vI x2, vI x3, vR b1, vR b7, vR b18, vR b28, vI ff, vR b38, vI nn, vR b49, .unset, .unset, .unset] [(.ref b49)])) (fun t k => XS.aload X_358.here hx rfl (hb hby at_364) rfl rfl k) ?_
            refine own_by (T' := T_358) (g' := (mkF m 367 #[vI x1, vI x2, vI x3, vR b1, vR b7, vR b18, vR b28, vI ff, vR b38, vI nn, vR b49, .unset, .unset, .unset] [(.int 4), (.ref b49)])) (fun t k => XS.iconst X_358.here hx rfl (hb hby at_366) k) ?_
            refine own_by (T' := T_358) (g' := (mkF m 369 #[vI x1, vI x2, vI x3, vR b1, vR b7, vR b18, vR b28, vI ff, vR b38, vI nn, vR b49, .unset, .unset, .unset] [(.ref b7), (.int 4), (.ref b49)])) (fun t k => XS.aload X_358.here hx rfl (hb hby at_367) rfl rfl k) ?_
            refine own_by (T' := T_358) (g' := (mkF m 370 #[vI x1, vI x2, vI x3, vR b1, vR b7, vR b18, vR b28, vI ff, vR b38, vI nn, vR b49, .unset, .unset, .unset] [(.int 4), (.ref b7), (.int 4), (.ref b49)])) (fun t k => XS.iconst X_358.here hx rfl (hb hby at_369) k) ?_
            obtain ⟨cl103, Ar103, q103, S103, N103, Hs103, G103⟩ := id V_b7
            have hin103 : ¬ ((4 : Int32) < 0 ∨ cl103.slots.size ≤ ((4 : Int32)).toNatClampNeg) := inb_of S103 ⟨by decide, by decide⟩
            have hat103 : cl103.slots[((4 : Int32)).toNatClampNeg]? = some (.int t4) := Hs103.at hin103 rfl
            refine own_by (T' := T_358) (g' := (mkF m 371 #[vI x1, vI x2, vI x3, vR b1, vR b7, vR b18, vR b28, vI ff, vR b38, vI nn, vR b49, .unset, .unset, .unset] [(.int t4), (.int 4), (.ref b49)])) (fun t k => X_358.iaload hx (j := (4 : Int32)) (v := (.int t4)) (by rw [e_358]; exact Ar103.1) (State.isArrayOf_alike hZ.alike Ar103.2.1) Ar103.2.2 hin103 hat103 (g := (mkF m 370 #[vI x1, vI x2, vI x3, vR b1, vR b7, vR b18, vR b28, vI ff, vR b38, vI nn, vR b49, .unset, .unset, .unset] [(.int 4), (.ref b7), (.int 4), (.ref b49)])) rfl rfl (hb hby at_370) _ k) ?_
            clear hat103 hin103 G103 Hs103 N103 S103 q103 Ar103 cl103
            obtain ⟨cl104, Ar104, q104, S104, N104, Hs104, G104⟩ := id V_b49
            have hin104 : ¬ ((4 : Int32) < 0 ∨ cl104.slots.size ≤ ((4 : Int32)).toNatClampNeg) := inb_of S104 ⟨by decide, hc361_102⟩
            obtain ⟨T104, h104, X104, e104, W104, st104⟩ := stI X_358 hx hZ e_358 Ar104 (j := (4 : Int32)) hin104 (g := (mkF m 371 #[vI x1, vI x2, vI x3, vR b1, vR b7, vR b18, vR b28, vI ff, vR b38, vI nn, vR b49, .unset, .unset, .unset] [(.int t4), (.int 4), (.ref b49)])) rfl rfl (hb hby at_371)
            have V_b49_ : Arv Z h104 b49 k49 .int nn [(.int 0), (.int t1), (.int t2), (.int t3), (.int t4)] (.int 0) := Arv.set Ar104 q104 S104 N104 Hs104 G104 rfl W104 4 rfl (Nat.le_of_ble_eq_true rfl)
            replace E_m2 := E_m2.wr W104
            replace S_NEXT_ONE_BASED := S_NEXT_ONE_BASED.wr W104
            replace E_m3 := E_m3.wr W104
            replace S_NEXTVAL := S_NEXTVAL.wr W104
            replace E_m1 := E_m1.wr W104
            replace S_NEXT := S_NEXT.wr W104
            replace E_m0 := E_m0.wr W104
            replace S_PREFIX := S_PREFIX.wr W104
            replace F_ordinal_m2 := F_ordinal_m2.other W104 (Or.inl ne_m2_b49)
            replace F_ordinal_m3 := F_ordinal_m3.other W104 (Or.inl ne_m3_b49)
            replace F_ordinal_m1 := F_ordinal_m1.other W104 (Or.inl ne_m1_b49)
            replace F_ordinal_m0 := F_ordinal_m0.other W104 (Or.inl ne_m0_b49)
            replace Zle := Nat.le_trans Zle (Keep.of_wr W104).1
            replace V_b7 := V_b7.other W104 ne_b7_b49
            replace V_b38 := V_b38.other W104 ne_b38_b49
            replace V_b49 := V_b49_
            clear V_b49_ W104 hin104 G104 Hs104 N104 S104 q104 Ar104
            replace N_ := Fr.snoc X104 N_ g_b49
            refine own_by (T' := T104) (g' := (mkF m 372 #[vI x1, vI x2, vI x3, vR b1, vR b7, vR b18, vR b28, vI ff, vR b38, vI nn, vR b49, .unset, .unset, .unset] [])) (fun t k => st104 t k) ?_
            clear st104 X_358 e_358
            exact JP372 _ _ _ X104 e104 N_ Zle V_b49 V_b7 V_b38 E_m2 S_NEXT_ONE_BASED E_m3 S_NEXTVAL E_m1 S_NEXT E_m0 S_PREFIX F_ordinal_m2 F_ordinal_m3 F_ordinal_m1 F_ordinal_m0
          · refine own_by (T' := T_358) (g' := (mkF m 372 #[vI x1, vI x2, vI x3, vR b1, vR b7, vR b18, vR b28, vI ff, vR b38, vI nn, vR b49, .unset, .unset, .unset] [])) (fun t k => XS.icmpYes X_358.here hx rfl (pc0 := 361) (pc' := 372) rfl (hb hby at_361) rfl (flt hc361_102).2.2.2 (by decide) (by decide) k) ?_
            exact JP372 _ _ _ X_358 e_358 N_ Zle (own_far V_b49 (4) (by decide) hc361_102 rfl rfl) V_b7 V_b38 E_m2 S_NEXT_ONE_BASED E_m3 S_NEXTVAL E_m1 S_NEXT E_m0 S_PREFIX F_ordinal_m2 F_ordinal_m3 F_ordinal_m1 F_ordinal_m0
        refine own_by (T' := T_344) (g' := (mkF m 346 #[vI x1, vI x2, vI x3, vR b1, vR b7, vR b18, vR b28, vI ff, vR b38, vI nn, vR b49, .unset, .unset, .unset] [(.int nn)])) (fun t k => XS.iload X_344.here hx rfl (hb hby at_344) rfl k) ?_
        clear X49 e49
        refine own_by (T' := T_344) (g' := (mkF m 347 #[vI x1, vI x2, vI x3, vR b1, vR b7, vR b18, vR b28, vI ff, vR b38, vI nn, vR b49, .unset, .unset, .unset] [(.int 3), (.int nn)])) (fun t k => XS.iconst X_344.here hx rfl (hb hby at_346) k) ?_
        by_cases hc347_105 : (3 : Int32) < nn
        · refine own_by (T' := T_344) (g' := (mkF m 350 #[vI x1, vI x2, vI x3, vR b1, vR b7, vR b18, vR b28, vI ff, vR b38, vI nn, vR b49, .unset, .unset, .unset] [])) (fun t k => XS.icmpNo X_344.here hx rfl (hb hby at_347) rfl (tlt hc347_105).2.2.2 k) ?_
          refine own_by (T' := T_344) (g' := (mkF m 352 #[vI x1, vI x2, vI x3, vR b1, vR b7, vR b18, vR b28, vI ff, vR b38, vI nn, vR b49, .unset, .unset, .unset] [(.ref b49)])) (fun t k => XS.aload X_344.here hx rfl (hb hby at_350) rfl rfl k) ?_
          refine own_by (T' := T_344) (g' := (mkF m 353 #[vI x1, vI x2, vI x3, vR b1, vR b7, vR b18, vR b28, vI ff, vR b38, vI nn, vR b49, .unset, .unset, .unset] [(.int 3), (.ref b49)])) (fun t k => XS.iconst X_344.here hx rfl (hb hby at_352) k) ?_
          refine own_by (T' := T_344) (g' := (mkF m 355 #[vI x1, vI x2, vI x3, vR b1, vR b7, vR b18, vR b28, vI ff, vR b38, vI nn, vR b49, .unset, .unset, .unset] [(.ref b7), (.int 3), (.ref b49)])) (fun t k => XS.aload X_344.here hx rfl (hb hby at_353) rfl rfl k) ?_
          refine own_by (T' := T_344) (g' := (mkF m 356 #[vI x1, vI x2, vI x3, vR b1, vR b7, vR b18, vR b28, vI ff, vR b38, vI nn, vR b49, .unset, .unset, .unset] [(.int 3), (.ref b7), (.int 3), (.ref b49)])) (fun t k => XS.iconst X_344.here hx rfl (hb hby at_355) k) ?_
          obtain ⟨cl106, Ar106, q106, S106, N106, Hs106, G106⟩ := id V_b7
          have hin106 : ¬ ((3 : Int32) < 0 ∨ cl106.slots.size ≤ ((3 : Int32)).toNatClampNeg) := inb_of S106 ⟨by decide, by decide⟩
          have hat106 : cl106.slots[((3 : Int32)).toNatClampNeg]? = some (.int t3) := Hs106.at hin106 rfl
          refine own_by (T' := T_344) (g' := (mkF m 357 #[vI x1, vI x2, vI x3, vR b1, vR b7, vR b18, vR b28, vI ff, vR b38, vI nn, vR b49, .unset, .unset, .unset] [(.int t3), (.int 3), (.ref b49)])) (fun t k => X_344.iaload hx (j := (3 : Int32)) (v := (.int t3)) (by rw [e_344]; exact Ar106.1) (State.isArrayOf_alike hZ.alike Ar106.2.1) Ar106.2.2 hin106 hat106 (g := (mkF m 356 #[vI x1, vI x2, vI x3, vR b1, vR b7, vR b18, vR b28, vI ff, vR b38, vI nn, vR b49, .unset, .unset, .unset] [(.int 3), (.ref b7), (.int 3), (.ref b49)])) rfl rfl (hb hby at_356) _ k) ?_
          clear hat106 hin106 G106 Hs106 N106 S106 q106 Ar106 cl106
          obtain ⟨cl107, Ar107, q107, S107, N107, Hs107, G107⟩ := id V_b49
          have hin107 : ¬ ((3 : Int32) < 0 ∨ cl107.slots.size ≤ ((3 : Int32)).toNatClampNeg) := inb_of S107 ⟨by decide, hc347_105⟩
          obtain ⟨T107, h107, X107, e107, W107, st107⟩ := stI X_344 hx hZ e_344 Ar107 (j := (3 : Int32)) hin107 (g := (mkF m 357 #[vI x1, vI x2, vI x3, vR b1, vR b7, vR b18, vR b28, vI ff, vR b38, vI nn, vR b49, .unset, .unset, .unset] [(.int t3), (.int 3), (.ref b49)])) rfl rfl (hb hby at_357)
          have V_b49_ : Arv Z h107 b49 k49 .int nn [(.int 0), (.int t1), (.int t2), (.int t3), (.int 0)] (.int 0) := Arv.set Ar107 q107 S107 N107 Hs107 G107 rfl W107 3 rfl (Nat.le_of_ble_eq_true rfl)
          replace E_m2 := E_m2.wr W107
          replace S_NEXT_ONE_BASED := S_NEXT_ONE_BASED.wr W107
          replace E_m3 := E_m3.wr W107
          replace S_NEXTVAL := S_NEXTVAL.wr W107
          replace E_m1 := E_m1.wr W107
          replace S_NEXT := S_NEXT.wr W107
          replace E_m0 := E_m0.wr W107
          replace S_PREFIX := S_PREFIX.wr W107
          replace F_ordinal_m2 := F_ordinal_m2.other W107 (Or.inl ne_m2_b49)
          replace F_ordinal_m3 := F_ordinal_m3.other W107 (Or.inl ne_m3_b49)
          replace F_ordinal_m1 := F_ordinal_m1.other W107 (Or.inl ne_m1_b49)
          replace F_ordinal_m0 := F_ordinal_m0.other W107 (Or.inl ne_m0_b49)
          replace Zle := Nat.le_trans Zle (Keep.of_wr W107).1
          replace V_b7 := V_b7.other W107 ne_b7_b49
          replace V_b38 := V_b38.other W107 ne_b38_b49
          replace V_b49 := V_b49_
          clear V_b49_ W107 hin107 G107 Hs107 N107 S107 q107 Ar107
          replace N_ := Fr.snoc X107 N_ g_b49
          refine own_by (T' := T107) (g' := (mkF m 358 #[vI x1, vI x2, vI x3, vR b1, vR b7, vR b18, vR b28, vI ff, vR b38, vI nn, vR b49, .unset, .unset, .unset] [])) (fun t k => st107 t k) ?_
          clear st107 X_344 e_344
          exact JP358 _ _ _ X107 e107 N_ Zle V_b49 V_b7 V_b38 E_m2 S_NEXT_ONE_BASED E_m3 S_NEXTVAL E_m1 S_NEXT E_m0 S_PREFIX F_ordinal_m2 F_ordinal_m3 F_ordinal_m1 F_ordinal_m0
        · refine own_by (T' := T_344) (g' := (mkF m 358 #[vI x1, vI x2, vI x3, vR b1, vR b7, vR b18, vR b28, vI ff, vR b38, vI nn, vR b49, .unset, .unset, .unset] [])) (fun t k => XS.icmpYes X_344.here hx rfl (pc0 := 347) (pc' := 358) rfl (hb hby at_347) rfl (flt hc347_105).2.2.2 (by decide) (by decide) k) ?_
          exact JP358 _ _ _ X_344 e_344 N_ Zle (own_far V_b49 (3) (by decide) hc347_105 rfl rfl) V_b7 V_b38 E_m2 S_NEXT_ONE_BASED E_m3 S_NEXTVAL E_m1 S_NEXT E_m0 S_PREFIX F_ordinal_m2 F_ordinal_m3 F_ordinal_m1 F_ordinal_m0
      refine own_by (T' := T_330) (g' := (mkF m 332 #[vI x1, vI x2, vI x3, vR b1, vR b7, vR b18, vR b28, vI ff, vR b38, vI nn, vR b49, .unset, .unset, .unset] [(.int nn)])) (fun t k => XS.iload X_330.here hx rfl (hb hby at_330) rfl k) ?_
      clear X49 e49
      refine own_by (T' := T_330) (g' := (mkF m 333 #[vI x1, vI x2, vI x3, vR b1, vR b7, vR b18, vR b28, vI ff, vR b38, vI nn, vR b49, .unset, .unset, .unset] [(.int 2), (.int nn)])) (fun t k => XS.iconst X_330.here hx rfl (hb hby at_332) k) ?_
      by_cases hc333_108 : (2 : Int32) < nn
      · refine own_by (T' := T_330) (g' := (mkF m 336 #[vI x1, vI x2, vI x3, vR b1, vR b7, vR b18, vR b28, vI ff, vR b38, vI nn, vR b49, .unset, .unset, .unset] [])) (fun t k => XS.icmpNo X_330.here hx rfl (hb hby at_333) rfl (tlt hc333_108).2.2.2 k) ?_
        refine own_by (T' := T_330) (g' := (mkF m 338 #[vI x1, vI x2, vI x3, vR b1, vR b7, vR b18, vR b28, vI ff, vR b38, vI nn, vR b49, .unset, .unset, .unset] [(.ref b49)])) (fun t k => XS.aload X_330.here hx rfl (hb hby at_336) rfl rfl k) ?_
        refine own_by (T' := T_330) (g' := (mkF m 339 #[vI x1, vI x2, vI x3, vR b1, vR b7, vR b18, vR b28, vI ff, vR b38, vI nn, vR b49, .unset, .unset, .unset] [(.int 2), (.ref b49)])) (fun t k => XS.iconst X_330.here hx rfl (hb hby at_338) k) ?_
        refine own_by (T' := T_330) (g' := (mkF m 341 #[vI x1, vI x2, vI x3, vR b1, vR b7, vR b18, vR b28, vI ff, vR b38, vI nn, vR b49, .unset, .unset, .unset] [(.ref b7), (.int 2), (.ref b49)])) (fun t k => XS.aload X_330.here hx rfl (hb hby at_339) rfl rfl k) ?_
        refine own_by (T' := T_330) (g' := (mkF m 342 #[vI x1, vI x2, vI x3, vR b1, vR b7, vR b18, vR b28, vI ff, vR b38, vI nn, vR b49, .unset, .unset, .unset] [(.int 2), (.ref b7), (.int 2), (.ref b49)])) (fun t k => XS.iconst X_330.here hx rfl (hb hby at_341) k) ?_
        obtain ⟨cl109, Ar109, q109, S109, N109, Hs109, G109⟩ := id V_b7
        have hin109 : ¬ ((2 : Int32) < 0 ∨ cl109.slots.size ≤ ((2 : Int32)).toNatClampNeg) := inb_of S109 ⟨by decide, by decide⟩
        have hat109 : cl109.slots[((2 : Int32)).toNatClampNeg]? = some (.int t2) := Hs109.at hin109 rfl
        refine own_by (T' := T_330) (g' := (mkF m 343 #[vI x1, vI x2, vI x3, vR b1, vR b7, vR b18, vR b28, vI ff, vR b38, vI nn, vR b49, .unset, .unset, .unset] [(.int t2), (.int 2), (.ref b49)])) (fun t k => X_330.iaload hx (j := (2 : Int32)) (v := (.int t2)) (by rw [e_330]; exact Ar109.1) (State.isArrayOf_alike hZ.alike Ar109.2.1) Ar109.2.2 hin109 hat109 (g := (mkF m 342 #[vI x1, vI x2, vI x3, vR b1, vR b7, vR b18, vR b28, vI ff, vR b38, vI nn, vR b49, .unset, .unset, .unset] [(.int 2), (.ref b7), (.int 2), (.ref b49)])) rfl rfl (hb hby at_342) _ k) ?_
        clear hat109 hin109 G109 Hs109 N109 S109 q109 Ar109 cl109
        obtain ⟨cl110, Ar110, q110, S110, N110, Hs110, G110⟩ := id V_b49
        have hin110 : ¬ ((2 : Int32) < 0 ∨ cl110.slots.size ≤ ((2 : Int32)).toNatClampNeg) := inb_of S110 ⟨by decide, hc333_108⟩
        obtain ⟨T110, h110, X110, e110, W110, st110⟩ := stI X_330 hx hZ e_330 Ar110 (j := (2 : Int32)) hin110 (g := (mkF m 343 #[vI x1, vI x2, vI x3, vR b1, vR b7, vR b18, vR b28, vI ff, vR b38, vI nn, vR b49, .unset, .unset, .unset] [(.int t2), (.int 2), (.ref b49)])) rfl rfl (hb hby at_343)
        have V_b49_ : Arv Z h110 b49 k49 .int nn [(.int 0), (.int t1), (.int t2), (.int 0), (.int 0)] (.int 0) := Arv.set Ar110 q110 S110 N110 Hs110 G110 rfl W110 2 rfl (Nat.le_of_ble_eq_true rfl)
        replace E_m2 := E_m2.wr W110
        replace S_NEXT_ONE_BASED := S_NEXT_ONE_BASED.wr W110
        replace E_m3 := E_m3.wr W110
        replace S_NEXTVAL := S_NEXTVAL.wr W110
        replace E_m1 := E_m1.wr W110
        replace S_NEXT := S_NEXT.wr W110
        replace E_m0 := E_m0.wr W110
        replace S_PREFIX := S_PREFIX.wr W110
        replace F_ordinal_m2 := F_ordinal_m2.other W110 (Or.inl ne_m2_b49)
        replace F_ordinal_m3 := F_ordinal_m3.other W110 (Or.inl ne_m3_b49)
        replace F_ordinal_m1 := F_ordinal_m1.other W110 (Or.inl ne_m1_b49)
        replace F_ordinal_m0 := F_ordinal_m0.other W110 (Or.inl ne_m0_b49)
        replace Zle := Nat.le_trans Zle (Keep.of_wr W110).1
        replace V_b7 := V_b7.other W110 ne_b7_b49
        replace V_b38 := V_b38.other W110 ne_b38_b49
        replace V_b49 := V_b49_
        clear V_b49_ W110 hin110 G110 Hs110 N110 S110 q110 Ar110
        replace N_ := Fr.snoc X110 N_ g_b49
        refine own_by (T' := T110) (g' := (mkF m 344 #[vI x1, vI x2, vI x3, vR b1, vR b7, vR b18, vR b28, vI ff, vR b38, vI nn, vR b49, .unset, .unset, .unset] [])) (fun t k => st110 t k) ?_
        clear st110 X_330 e_330
        exact JP344 _ _ _ X110 e110 N_ Zle V_b49 V_b7 V_b38 E_m2 S_NEXT_ONE_BASED E_m3 S_NEXTVAL E_m1 S_NEXT E_m0 S_PREFIX F_ordinal_m2 F_ordinal_m3 F_ordinal_m1 F_ordinal_m0
      · refine own_by (T' := T_330) (g' := (mkF m 344 #[vI x1, vI x2, vI x3, vR b1, vR b7, vR b18, vR b28, vI ff, vR b38, vI nn, vR b49, .unset, .unset, .unset] [])) (fun t k => XS.icmpYes X_330.here hx rfl (pc0 := 333) (pc' := 344) rfl (hb hby at_333) rfl (flt hc333_108).2.2.2 (by decide) (by decide) k) ?_
        exact JP344 _ _ _ X_330 e_330 N_ Zle (own_far V_b49 (2) (by decide) hc333_108 rfl rfl) V_b7 V_b38 E_m2 S_NEXT_ONE_BASED E_m3 S_NEXTVAL E_m1 S_NEXT E_m0 S_PREFIX F_ordinal_m2 F_ordinal_m3 F_ordinal_m1 F_ordinal_m0
    refine own_by (T' := T_316) (g' := (mkF m 318 #[vI x1, vI x2, vI x3, vR b1, vR b7, vR b18, vR b28, vI ff, vR b38, vI nn, vR b49, .unset, .unset, .unset] [(.int nn)])) (fun t k => XS.iload X_316.here hx rfl (hb hby at_316) rfl k) ?_
    clear X49 e49
    refine own_by (T' := T_316) (g' := (mkF m 319 #[vI x1, vI x2, vI x3, vR b1, vR b7, vR b18, vR b28, vI ff, vR b38, vI nn, vR b49, .unset, .unset, .unset] [(.int 1), (.int nn)])) (fun t k => XS.iconst X_316.here hx rfl (hb hby at_318) k) ?_
    by_cases hc319_111 : (1 : Int32) < nn
    · refine own_by (T' := T_316) (g' := (mkF m 322 #[vI x1, vI x2, vI x3, vR b1, vR b7, vR b18, vR b28, vI ff, vR b38, vI nn, vR b49, .unset, .unset, .unset] [])) (fun t k => XS.icmpNo X_316.here hx rfl (hb hby at_319) rfl (tlt hc319_111).2.2.2 k) ?_
      refine own_by (T' := T_316) (g' := (mkF m 324 #[vI x1, vI x2, vI x3, vR b1, vR b7, vR b18, vR b28, vI ff, vR b38, vI nn, vR b49, .unset, .unset, .unset] [(.ref b49)])) (fun t k => XS.aload X_316.here hx rfl (hb hby at_322) rfl rfl k) ?_
      refine own_by (T' := T_316) (g' := (mkF m 325 #[vI x1, vI x2, vI x3, vR b1, vR b7, vR b18, vR b28, vI ff, vR b38, vI nn, vR b49, .unset, .unset, .unset] [(.int 1), (.ref b49)])) (fun t k => XS.iconst X_316.here hx rfl (hb hby at_324) k) ?_
      refine own_by (T' := T_316) (g' := (mkF m 327 #[vI x1, vI x2, vI x3, vR b1, vR b7, vR b18, vR b28, vI ff, vR b38, vI nn, vR b49, .unset, .unset, .unset] [(.ref b7), (.int 1), (.ref b49)])) (fun t k => XS.aload X_316.here hx rfl (hb hby at_325) rfl rfl k) ?_
      refine own_by (T' := T_316) (g' := (mkF m 328 #[vI x1, vI x2, vI x3, vR b1, vR b7, vR b18, vR b28, vI ff, vR b38, vI nn, vR b49, .unset, .unset, .unset] [(.int 1), (.ref b7), (.int 1), (.ref b49)])) (fun t k => XS.iconst X_316.here hx rfl (hb hby at_327) k) ?_
      obtain ⟨cl112, Ar112, q112, S112, N112, Hs112, G112⟩ := id V_b7
      have hin112 : ¬ ((1 : Int32) < 0 ∨ cl112.slots.size ≤ ((1 : Int32)).toNatClampNeg) := inb_of S112 ⟨by decide, by decide⟩
      have hat112 : cl112.slots[((1 : Int32)).toNatClampNeg]? = some (.int t1) := Hs112.at hin112 rfl
      refine own_by (T' := T_316) (g' := (mkF m 329 #[vI x1, vI x2, vI x3, vR b1, vR b7, vR b18, vR b28, vI ff, vR b38, vI nn, vR b49, .unset, .unset, .unset] [(.int t1), (.int 1), (.ref b49)])) (fun t k => X_316.iaload hx (j := (1 : Int32)) (v := (.int t1)) (by rw [e_316]; exact Ar112.1) (State.isArrayOf_alike hZ.alike Ar112.2.1) Ar112.2.2 hin112 hat112 (g := (mkF m 328 #[vI x1, vI x2, vI x3, vR b1, vR b7, vR b18, vR b28, vI ff, vR b38, vI nn, vR b49, .unset, .unset, .unset] [(.int 1), (.ref b7), (.int 1), (.ref b49)])) rfl rfl (hb hby at_328) _ k) ?_
      clear hat112 hin112 G112 Hs112 N112 S112 q112 Ar112 cl112
      obtain ⟨cl113, Ar113, q113, S113, N113, Hs113, G113⟩ := id V_b49
      have hin113 : ¬ ((1 : Int32) < 0 ∨ cl113.slots.size ≤ ((1 : Int32)).toNatClampNeg) := inb_of S113 ⟨by decide, hc319_111⟩
      obtain ⟨T113, h113, X113, e113, W113, st113⟩ := stI X_316 hx hZ e_316 Ar113 (j := (1 : Int32)) hin113 (g := (mkF m 329 #[vI x1, vI x2, vI x3, vR b1, vR b7, vR b18, vR b28, vI ff, vR b38, vI nn, vR b49, .unset, .unset, .unset] [(.int t1), (.int 1), (.ref b49)])) rfl rfl (hb hby at_329)
      have V_b49_ : Arv Z h113 b49 k49 .int nn [(.int 0), (.int t1), (.int 0), (.int 0), (.int 0)] (.int 0) := Arv.set Ar113 q113 S113 N113 Hs113 G113 rfl W113 1 rfl (Nat.le_of_ble_eq_true rfl)
      replace E_m2 := E_m2.wr W113
      replace S_NEXT_ONE_BASED := S_NEXT_ONE_BASED.wr W113
      replace E_m3 := E_m3.wr W113
      replace S_NEXTVAL := S_NEXTVAL.wr W113
      replace E_m1 := E_m1.wr W113
      replace S_NEXT := S_NEXT.wr W113
      replace E_m0 := E_m0.wr W113
      replace S_PREFIX := S_PREFIX.wr W113
      replace F_ordinal_m2 := F_ordinal_m2.other W113 (Or.inl ne_m2_b49)
      replace F_ordinal_m3 := F_ordinal_m3.other W113 (Or.inl ne_m3_b49)
      replace F_ordinal_m1 := F_ordinal_m1.other W113 (Or.inl ne_m1_b49)
      replace F_ordinal_m0 := F_ordinal_m0.other W113 (Or.inl ne_m0_b49)
      replace Zle := Nat.le_trans Zle (Keep.of_wr W113).1
      replace V_b7 := V_b7.other W113 ne_b7_b49
      replace V_b38 := V_b38.other W113 ne_b38_b49
      replace V_b49 := V_b49_
      clear V_b49_ W113 hin113 G113 Hs113 N113 S113 q113 Ar113
      replace N_ := Fr.snoc X113 N_ g_b49
      refine own_by (T' := T113) (g' := (mkF m 330 #[vI x1, vI x2, vI x3, vR b1, vR b7, vR b18, vR b28, vI ff, vR b38, vI nn, vR b49, .unset, .unset, .unset] [])) (fun t k => st113 t k) ?_
      clear st113 X_316 e_316
      exact JP330 _ _ _ X113 e113 N_ Zle V_b49 V_b7 V_b38 E_m2 S_NEXT_ONE_BASED E_m3 S_NEXTVAL E_m1 S_NEXT E_m0 S_PREFIX F_ordinal_m2 F_ordinal_m3 F_ordinal_m1 F_ordinal_m0
    · refine own_by (T' := T_316) (g' := (mkF m 330 #[vI x1, vI x2, vI x3, vR b1, vR b7, vR b18, vR b28, vI ff, vR b38, vI nn, vR b49, .unset, .unset, .unset] [])) (fun t k => XS.icmpYes X_316.here hx rfl (pc0 := 319) (pc' := 330) rfl (hb hby at_319) rfl (flt hc319_111).2.2.2 (by decide) (by decide) k) ?_
      exact JP330 _ _ _ X_316 e_316 N_ Zle (own_far V_b49 (1) (by decide) hc319_111 rfl rfl) V_b7 V_b38 E_m2 S_NEXT_ONE_BASED E_m3 S_NEXTVAL E_m1 S_NEXT E_m0 S_PREFIX F_ordinal_m2 F_ordinal_m3 F_ordinal_m1 F_ordinal_m0
  refine own_by (T' := T49) (g' := (mkF m 305 #[vI x1, vI x2, vI x3, vR b1, vR b7, vR b18, vR b28, vI ff, vR b38, vI nn, vR b49, .unset, .unset, .unset] [(.int nn)])) (fun t k => XS.iload X49.here hx rfl (hb hby at_303) rfl k) ?_
  by_cases hc305_114 : (0 : Int32) < nn
  · refine own_by (T' := T49) (g' := (mkF m 308 #[vI x1, vI x2, vI x3, vR b1, vR b7, vR b18, vR b28, vI ff, vR b38, vI nn, vR b49, .unset, .unset, .unset] [])) (fun t k => XS.ifNo X49.here hx rfl (hb hby at_305) rfl ((if0 _ _).trans (tlt hc305_114).2.2.2) k) ?_
    refine own_by (T' := T49) (g' := (mkF m 310 #[vI x1, vI x2, vI x3, vR b1, vR b7, vR b18, vR b28, vI ff, vR b38, vI nn, vR b49, .unset, .unset, .unset] [(.ref b49)])) (fun t k => XS.aload X49.here hx rfl (hb hby at_308) rfl rfl k) ?_
    refine own_by (T' := T49) (g' := (mkF m 311 #[vI x1, vI x2, vI x3, vR b1, vR b7, vR b18, vR b28, vI ff, vR b38, vI nn, vR b49, .unset, .unset, .unset] [(.int 0), (.ref b49)])) (fun t k => XS.iconst X49.here hx rfl (hb hby at_310) k) ?_
    refine own_by (T' := T49) (g' := (mkF m 313 #[vI x1, vI x2, vI x3, vR b1, vR b7, vR b18, vR b28, vI ff, vR b38, vI nn, vR b49, .unset, .unset, .unset] [(.ref b7), (.int 0), (.ref b49)])) (fun t k => XS.aload X49.here hx rfl (hb hby at_311) rfl rfl k) ?_
    refine own_by (T' := T49) (g' := (mkF m 314 #[vI x1, vI x2, vI x3, vR b1, vR b7, vR b18, vR b28, vI ff, vR b38, vI nn, vR b49, .unset, .unset, .unset] [(.int 0), (.ref b7), (.int 0), (.ref b49)])) (fun t k => XS.iconst X49.here hx rfl (hb hby at_313) k) ?_
    obtain ⟨cl115, Ar115, q115, S115, N115, Hs115, G115⟩ := id V_b7
    have hin115 : ¬ ((0 : Int32) < 0 ∨ cl115.slots.size ≤ ((0 : Int32)).toNatClampNeg) := inb_of S115 ⟨by decide, by decide⟩
    have hat115 : cl115.slots[((0 : Int32)).toNatClampNeg]? = some (.int 0) := Hs115.at hin115 rfl
    refine own_by (T' := T49) (g' := (mkF m 315 #[vI x1, vI x2, vI x3, vR b1, vR b7, vR b18, vR b28, vI ff, vR b38, vI nn, vR b49, .unset, .unset, .unset] [(.int 0), (.int 0), (.ref b49)])) (fun t k => X49.iaload hx (j := (0 : Int32)) (v := (.int 0)) (by rw [e49]; exact Ar115.1) (State.isArrayOf_alike hZ.alike Ar115.2.1) Ar115.2.2 hin115 hat115 (g := (mkF m 314 #[vI x1, vI x2, vI x3, vR b1, vR b7, vR b18, vR b28, vI ff, vR b38, vI nn, vR b49, .unset, .unset, .unset] [(.int 0), (.ref b7), (.int 0), (.ref b49)])) rfl rfl (hb hby at_314) _ k) ?_
    clear hat115 hin115 G115 Hs115 N115 S115 q115 Ar115 cl115
    obtain ⟨cl116, Ar116, q116, S116, N116, Hs116, G116⟩ := id V_b49
    have hin116 : ¬ ((0 : Int32) < 0 ∨ cl116.slots.size ≤ ((0 : Int32)).toNatClampNeg) := inb_of S116 ⟨by decide, hc305_114⟩
    obtain ⟨T116, h116, X116, e116, W116, st116⟩ := stI X49 hx hZ e49 Ar116 (j := (0 : Int32)) hin116 (g := (mkF m 315 #[vI x1, vI x2, vI x3, vR b1, vR b7, vR b18, vR b28, vI ff, vR b38, vI nn, vR b49, .unset, .unset, .unset] [(.int 0), (.int 0), (.ref b49)])) rfl rfl (hb hby at_315)
    have V_b49_ : Arv Z h116 b49 k49 .int nn [(.int 0), (.int 0), (.int 0), (.int 0), (.int 0)] (.int 0) := Arv.set Ar116 q116 S116 N116 Hs116 G116 rfl W116 0 rfl (Nat.le_of_ble_eq_true rfl)
    replace E_m2 := E_m2.wr W116
    replace S_NEXT_ONE_BASED := S_NEXT_ONE_BASED.wr W116
    replace E_m3 := E_m3.wr W116
    replace S_NEXTVAL := S_NEXTVAL.wr W116
    replace E_m1 := E_m1.wr W116
    replace S_NEXT := S_NEXT.wr W116
    replace E_m0 := E_m0.wr W116
    replace S_PREFIX := S_PREFIX.wr W116
    replace F_ordinal_m2 := F_ordinal_m2.other W116 (Or.inl ne_m2_b49)
    replace F_ordinal_m3 := F_ordinal_m3.other W116 (Or.inl ne_m3_b49)
    replace F_ordinal_m1 := F_ordinal_m1.other W116 (Or.inl ne_m1_b49)
    replace F_ordinal_m0 := F_ordinal_m0.other W116 (Or.inl ne_m0_b49)
    replace Zle := Nat.le_trans Zle (Keep.of_wr W116).1
    replace V_b1 := V_b1.other W116 ne_b1_b49
    replace V_b7 := V_b7.other W116 ne_b7_b49
    replace V_b18 := V_b18.other W116 ne_b18_b49
    replace V_b28 := V_b28.other W116 ne_b28_b49
    replace V_b38 := V_b38.other W116 ne_b38_b49
    replace V_b49 := V_b49_
    clear V_b49_ W116 hin116 G116 Hs116 N116 S116 q116 Ar116
    replace N_ := Fr.snoc X116 N_ g_b49
    refine own_by (T' := T116) (g' := (mkF m 316 #[vI x1, vI x2, vI x3, vR b1, vR b7, vR b18, vR b28, vI ff, vR b38, vI nn, vR b49, .unset, .unset, .unset] [])) (fun t k => st116 t k) ?_
    clear st116 X49 e49
    exact JP316 _ _ _ X116 e116 N_ Zle V_b49 V_b7 V_b38 E_m2 S_NEXT_ONE_BASED E_m3 S_NEXTVAL E_m1 S_NEXT E_m0 S_PREFIX F_ordinal_m2 F_ordinal_m3 F_ordinal_m1 F_ordinal_m0
  · refine own_by (T' := T49) (g' := (mkF m 316 #[vI x1, vI x2, vI x3, vR b1, vR b7, vR b18, vR b28, vI ff, vR b38, vI nn, vR b49, .unset, .unset, .unset] [])) (fun t k => XS.ifYes X49.here hx rfl (pc0 := 305) (pc' := 316) rfl (hb hby at_305) rfl ((if0 _ _).trans (flt hc305_114).2.2.2) (by decide) (by decide) k) ?_
    exact JP316 _ _ _ X49 e49 N_ Zle (own_far V_b49 (0) (by decide) hc305_114 rfl rfl) V_b7 V_b38 E_m2 S_NEXT_ONE_BASED E_m3 S_NEXTVAL E_m1 S_NEXT E_m0 S_PREFIX F_ordinal_m2 F_ordinal_m3 F_ordinal_m1 F_ordinal_m0
set_option maxRecDepth 65536 in
set_option maxHeartbeats 40000000 in
theorem own_c137 (l : Launch) (Z : State) (a0 : Array Value) (hw : ∀ d ∈ tables_1, d.before a0 Z = true) {p : Program} {e : Env} {s : State} {m : MethodId} {below : List Frame} {meth : Method} {c : Code} (hx : p.tables.exec = Jvm.exec) (hby : c.code = code) (hml : c.maxLocals = 14) (hlk : meth.locks = false) (hret : meth.sig.returnType = ret) (x1 : Int32) (x2 : Int32) (x3 : Int32) (m0 : Addr) (m1 : Addr) (m2 : Addr) (m3 : Addr) (h0 : Heap) (n0 : Nat) (b1 : Addr) (k1 : ClassId) (c0 : Int32) (c1 : Int32) (c2 : Int32) (c3 : Int32) (c4 : Int32) (b7 : Addr) (k7 : ClassId) (t1 : Int32) (t2 : Int32) (t3 : Int32) (t4 : Int32) (b18 : Addr) (k18 : ClassId) {Tj : State} {hj : Heap} {locsj : List Loc}
    (hZ : Z.Warmed39 s.vm) (hown : s.vm.findClass "com/example/emu/emu/TableFormFromPrefixPinLaw" = some m.cls) (Xj : Stand p l e room_1 s m #[(.int x1), (.int x2), (.int x3)] below meth c Tj locsj 3 15) (ej : Tj.heap = hj)
    (E_m2 : Exa Z hj m2 "com/example/emu/emu/TableForm") (S_NEXT_ONE_BASED : Sta Z hj "com/example/emu/emu/TableForm" "NEXT_ONE_BASED" "Lcom/example/emu/emu/TableForm;" (.ref m2)) (E_m3 : Exa Z hj m3 "com/example/emu/emu/TableForm") (S_NEXTVAL : Sta Z hj "com/example/emu/emu/TableForm" "NEXTVAL" "Lcom/example/emu/emu/TableForm;" (.ref m3)) (E_m1 : Exa Z hj m1 "com/example/emu/emu/TableForm") (S_NEXT : Sta Z hj "com/example/emu/emu/TableForm" "NEXT" "Lcom/example/emu/emu/TableForm;" (.ref m1)) (E_m0 : Exa Z hj m0 "com/example/emu/emu/TableForm") (S_PREFIX : Sta Z hj "com/example/emu/emu/TableForm" "PREFIX" "Lcom/example/emu/emu/TableForm;" (.ref m0)) (F_ordinal_m2 : Fld Z hj m2 "java/lang/Enum" "ordinal" "I" (.int 2)) (F_ordinal_m3 : Fld Z hj m3 "java/lang/Enum" "ordinal" "I" (.int 3)) (F_ordinal_m1 : Fld Z hj m1 "java/lang/Enum" "ordinal" "I" (.int 1)) (F_ordinal_m0 : Fld Z hj m0 "java/lang/Enum" "ordinal" "I" (.int 0)) (Zle : n0 ≤ hj.size) (N_ : Fr n0 locsj) (ne_m2_b1 : m2 ≠ b1) (ne_m3_b1 : m3 ≠ b1) (ne_m1_b1 : m1 ≠ b1) (ne_m0_b1 : m0 ≠ b1) (g_b1 : n0 ≤ b1) (V_b1 : Arv Z hj b1 k1 .int (5 : Int32) [(.int c0), (.int c1), (.int c2), (.int c3), (.int c4)] (.int 0)) (ne_m2_b7 : m2 ≠ b7) (ne_m3_b7 : m3 ≠ b7) (ne_m1_b7 : m1 ≠ b7) (ne_m0_b7 : m0 ≠ b7) (ne_b1_b7 : b1 ≠ b7) (g_b7 : n0 ≤ b7) (V_b7 : Arv Z hj b7 k7 .int (5 : Int32) [(.int 0), (.int t1), (.int t2), (.int t3), (.int t4)] (.int 0)) (ne_m2_b18 : m2 ≠ b18) (ne_m3_b18 : m3 ≠ b18) (ne_m1_b18 : m1 ≠ b18) (ne_m0_b18 : m0 ≠ b18) (ne_b1_b18 : b1 ≠ b18) (ne_b7_b18 : b7 ≠ b18) (g_b18 : n0 ≤ b18) (V_b18 : Arv Z hj b18 k18 .int (5 : Int32) [(.int (-1)), (.int 0), (.int t1), (.int t2), (.int t3)] (.int 0)) (e_c0 : c0 = (x1 &&& (3 : Int32))) (e_c1 : c1 = (((x1.toUInt32 >>> ((2 : Int32) &&& 31).toUInt32).toInt32) &&& (3 : Int32))) (e_c2 : c2 = (((x1.toUInt32 >>> ((4 : Int32) &&& 31).toUInt32).toInt32) &&& (3 : Int32))) (e_c3 : c3 = (((x1.toUInt32 >>> ((6 : Int32) &&& 31).toUInt32).toInt32) &&& (3 : Int32))) (e_c4 : c4 = (((x1.toUInt32 >>> ((8 : Int32) &&& 31).toUInt32).toInt32) &&& (3 : Int32))) (e_t1 : t1 = (own_bd1 c0 c1 c2 c3 c4)) (HB1 : own_B1 c0 c1 t1) (hr1 : t1 = 0 ∨ t1 = 1) (e_t2 : t2 = (own_bd2 c0 c1 c2 c3 c4)) (HB2 : own_B2 c0 c1 c2 t2) (hr2 : t2 = 0 ∨ t2 = 1 ∨ t2 = 2) (e_t3 : t3 = (own_bd3 c0 c1 c2 c3 c4)) (HB3 : own_B3 c0 c1 c2 c3 t3) (hr3 : t3 = 0 ∨ t3 = 1 ∨ t3 = 2 ∨ t3 = 3) (e_t4 : t4 = (own_bd4 c0 c1 c2 c3 c4)) (HB4 : own_B4 c0 c1 c2 c3 c4 t4) (hr4 : t4 = 0 ∨ t4 = 1 ∨ t4 = 2 ∨ t4 = 3 ∨ t4 = 4) : own_Goes p.tables e below s (Q0 Z x1 x2 x3 m0 m1 m2 m3 h0 n0) room_1.cells room_1.slots Tj (mkF m 137 #[vI x1, vI x2, vI x3, vR b1, vR b7, vR b18, .unset, .unset, .unset, .unset, .unset, .unset, .unset, .unset] [(.int 5)]) := by
  obtain ⟨T28, h28, k28, X28, e28, E28, A28, st28⟩ := newP Xj hx hZ (hw _ (own_m 0 rfl)) ej (g := (mkF m 137 #[vI x1, vI x2, vI x3, vR b1, vR b7, vR b18, .unset, .unset, .unset, .unset, .unset, .unset, .unset, .unset] [(.int 5)])) rfl (hb hby at_137) rfl (by decide) (cap := 5) (by decide) (by decide) (by decide) (by decide)
  obtain ⟨b28, g28⟩ : ∃ z, z = hj.size := ⟨_, rfl⟩
  rw [← g28] at A28 st28
  have ne_m2_b28 : m2 ≠ b28 := Nat.ne_of_lt (Nat.lt_of_lt_of_eq E_m2.lt g28.symm)
  have ne_m3_b28 : m3 ≠ b28 := Nat.ne_of_lt (Nat.lt_of_lt_of_eq E_m3.lt g28.symm)
  have ne_m1_b28 : m1 ≠ b28 := Nat.ne_of_lt (Nat.lt_of_lt_of_eq E_m1.lt g28.symm)
  have ne_m0_b28 : m0 ≠ b28 := Nat.ne_of_lt (Nat.lt_of_lt_of_eq E_m0.lt g28.symm)
  have ne_b1_b28 : b1 ≠ b28 := Nat.ne_of_lt (Nat.lt_of_lt_of_eq V_b1.lt g28.symm)
  have ne_b7_b28 : b7 ≠ b28 := Nat.ne_of_lt (Nat.lt_of_lt_of_eq V_b7.lt g28.symm)
  have ne_b18_b28 : b18 ≠ b28 := Nat.ne_of_lt (Nat.lt_of_lt_of_eq V_b18.lt g28.symm)
  have g_b28 : n0 ≤ b28 := Nat.le_trans Zle (Nat.le_of_eq g28.symm)
  replace E_m2 := E_m2.ext E28
  replace S_NEXT_ONE_BASED := S_NEXT_ONE_BASED.ext E28
  replace E_m3 := E_m3.ext E28
  replace S_NEXTVAL := S_NEXTVAL.ext E28
  replace E_m1 := E_m1.ext E28
  replace S_NEXT := S_NEXT.ext E28
  replace E_m0 := E_m0.ext E28
  replace S_PREFIX := S_PREFIX.ext E28
  replace F_ordinal_m2 := F_ordinal_m2.ext E28
  replace F_ordinal_m3 := F_ordinal_m3.ext E28
  replace F_ordinal_m1 := F_ordinal_m1.ext E28
  replace F_ordinal_m0 := F_ordinal_m0.ext E28
  replace Zle := Nat.le_trans Zle E28.1
  replace V_b1 := V_b1.ext E28
  replace V_b7 := V_b7.ext E28
  replace V_b18 := V_b18.ext E28
  have V_b28 : Arv Z h28 b28 k28 .int (5 : Int32) [(.int 0), (.int 0), (.int 0), (.int 0), (.int 0)] (.int 0) := (Arv.new A28 (by decide)).pad (pad_rep [] (.int 0) 5)
  refine own_by (T' := T28) (g' := (mkF m 139 #[vI x1, vI x2, vI x3, vR b1, vR b7, vR b18, .unset, .unset, .unset, .unset, .unset, .unset, .unset, .unset] [(.ref b28)])) (fun t k => st28 t k) ?_
  clear st28
  refine own_by (T' := T28) (g' := (mkF m 141 #[vI x1, vI x2, vI x3, vR b1, vR b7, vR b18, vR b28, .unset, .unset, .unset, .unset, .unset, .unset, .unset] [])) (fun t k => XS.astore X28.here hx rfl (hb hby at_139) rfl rfl (l' := #[vI x1, vI x2, vI x3, vR b1, vR b7, vR b18, vR b28, .unset, .unset, .unset, .unset, .unset, .unset, .unset]) rfl k) ?_
  refine own_by (T' := T28) (g' := (mkF m 143 #[vI x1, vI x2, vI x3, vR b1, vR b7, vR b18, vR b28, .unset, .unset, .unset, .unset, .unset, .unset, .unset] [(.ref b28)])) (fun t k => XS.aload X28.here hx rfl (hb hby at_141) rfl rfl k) ?_
  refine own_by (T' := T28) (g' := (mkF m 144 #[vI x1, vI x2, vI x3, vR b1, vR b7, vR b18, vR b28, .unset, .unset, .unset, .unset, .unset, .unset, .unset] [(.int 0), (.ref b28)])) (fun t k => XS.iconst X28.here hx rfl (hb hby at_143) k) ?_
  refine own_by (T' := T28) (g' := (mkF m 145 #[vI x1, vI x2, vI x3, vR b1, vR b7, vR b18, vR b28, .unset, .unset, .unset, .unset, .unset, .unset, .unset] [(.int (-1)), (.int 0), (.ref b28)])) (fun t k => XS.iconst X28.here hx rfl (hb hby at_144) k) ?_
  obtain ⟨cl29, Ar29, q29, S29, N29, Hs29, G29⟩ := id V_b28
  have hin29 : ¬ ((0 : Int32) < 0 ∨ cl29.slots.size ≤ ((0 : Int32)).toNatClampNeg) := inb_of S29 ⟨by decide, by decide⟩
  obtain ⟨T29, h29, X29, e29, W29, st29⟩ := stI X28 hx hZ e28 Ar29 (j := (0 : Int32)) hin29 (g := (mkF m 145 #[vI x1, vI x2, vI x3, vR b1, vR b7, vR b18, vR b28, .unset, .unset, .unset, .unset, .unset, .unset, .unset] [(.int (-1)), (.int 0), (.ref b28)])) rfl rfl (hb hby at_145)
  have V_b28_ : Arv Z h29 b28 k28 .int (5 : Int32) [(.int (-1)), (.int 0), (.int 0), (.int 0), (.int 0)] (.int 0) := Arv.set Ar29 q29 S29 N29 Hs29 G29 rfl W29 0 rfl (Nat.le_of_ble_eq_true rfl)
  replace E_m2 := E_m2.wr W29
  replace S_NEXT_ONE_BASED := S_NEXT_ONE_BASED.wr W29
  replace E_m3 := E_m3.wr W29
  replace S_NEXTVAL := S_NEXTVAL.wr W29
  replace E_m1 := E_m1.wr W29
  replace S_NEXT := S_NEXT.wr W29
  replace E_m0 := E_m0.wr W29
  replace S_PREFIX := S_PREFIX.wr W29
  replace F_ordinal_m2 := F_ordinal_m2.other W29 (Or.inl ne_m2_b28)
  replace F_ordinal_m3 := F_ordinal_m3.other W29 (Or.inl ne_m3_b28)
  replace F_ordinal_m1 := F_ordinal_m1.other W29 (Or.inl ne_m1_b28)
  replace F_ordinal_m0 := F_ordinal_m0.other W29 (Or.inl ne_m0_b28)
  replace Zle := Nat.le_trans Zle (Keep.of_wr W29).1
  replace V_b1 := V_b1.other W29 ne_b1_b28
  replace V_b7 := V_b7.other W29 ne_b7_b28
  replace V_b18 := V_b18.other W29 ne_b18_b28
  replace V_b28 := V_b28_
  clear V_b28_ W29 hin29 G29 Hs29 N29 S29 q29 Ar29
  replace N_ := Fr.snoc X29 N_ g_b28
  refine own_by (T' := T29) (g' := (mkF m 146 #[vI x1, vI x2, vI x3, vR b1, vR b7, vR b18, vR b28, .unset, .unset, .unset, .unset, .unset, .unset, .unset] [])) (fun t k => st29 t k) ?_
  clear st29 X28 e28
  refine own_by (T' := T29) (g' := (mkF m 148 #[vI x1, vI x2, vI x3, vR b1, vR b7, vR b18, vR b28, .unset, .unset, .unset, .unset, .unset, .unset, .unset] [(.ref b28)])) (fun t k => XS.aload X29.here hx rfl (hb hby at_146) rfl rfl k) ?_
  refine own_by (T' := T29) (g' := (mkF m 149 #[vI x1, vI x2, vI x3, vR b1, vR b7, vR b18, vR b28, .unset, .unset, .unset, .unset, .unset, .unset, .unset] [(.int 1), (.ref b28)])) (fun t k => XS.iconst X29.here hx rfl (hb hby at_148) k) ?_
  refine own_by (T' := T29) (g' := (mkF m 150 #[vI x1, vI x2, vI x3, vR b1, vR b7, vR b18, vR b28, .unset, .unset, .unset, .unset, .unset, .unset, .unset] [(.ref b1), (.int 1), (.ref b28)])) (fun t k => XS.aloadN X29.here hx rfl (hb hby at_149) rfl rfl k) ?_
  refine own_by (T' := T29) (g' := (mkF m 152 #[vI x1, vI x2, vI x3, vR b1, vR b7, vR b18, vR b28, .unset, .unset, .unset, .unset, .unset, .unset, .unset] [(.ref b28), (.ref b1), (.int 1), (.ref b28)])) (fun t k => XS.aload X29.here hx rfl (hb hby at_150) rfl rfl k) ?_
  refine own_by (T' := T29) (g' := (mkF m 154 #[vI x1, vI x2, vI x3, vR b1, vR b7, vR b18, vR b28, .unset, .unset, .unset, .unset, .unset, .unset, .unset] [(.ref b18), (.ref b28), (.ref b1), (.int 1), (.ref b28)])) (fun t k => XS.aload X29.here hx rfl (hb hby at_152) rfl rfl k) ?_
  refine own_by (T' := T29) (g' := (mkF m 155 #[vI x1, vI x2, vI x3, vR b1, vR b7, vR b18, vR b28, .unset, .unset, .unset, .unset, .unset, .unset, .unset] [(.int 1), (.ref b18), (.ref b28), (.ref b1), (.int 1), (.ref b28)])) (fun t k => XS.iconst X29.here hx rfl (hb hby at_154) k) ?_
  obtain ⟨_, _, ⟨T30, L30, k30, n30⟩, -, X30, ⟨Lc30, hQ30, l30, y30, z30⟩, st30⟩ := Jvm.LawKit.callS X29 hx (y := (⟨"com/example/emu/emu/TableFormFromPrefixPinLaw", "nextval", "([I[I[II)I"⟩ : MethodName)) hown (mvT hZ (hw _ (own_m 8 rfl))) (mvT hZ (hw _ (own_m 9 rfl))) (mvT hZ (hw _ (own_m 3 rfl))) (mvT hZ (hw _ (own_m 10 rfl))) (by decide) (backOf (W := 2) (rm3_1 l Z a0 hw [] b1 b28 b18 k1 c0 c1 c2 c3 c4 k28 k18 (-1 : Int32) (0 : Int32) (0 : Int32) (0 : Int32) (0 : Int32) (-1 : Int32) (0 : Int32) t1 t2 t3 h29 n0 Zle V_b1 V_b28 V_b18 (rfl)) hZ (hw _ (own_m 10 rfl)) (hw _ (own_m 3 rfl)) (by decide) (by decide)) (g := (mkF m 155 #[vI x1, vI x2, vI x3, vR b1, vR b7, vR b18, vR b28, .unset, .unset, .unset, .unset, .unset, .unset, .unset] [(.int 1), (.ref b18), (.ref b28), (.ref b1), (.int 1), (.ref b28)])) rfl (by rw [hml]; rfl) (argsL := [(.ref b1), (.ref b28), (.ref b18), (.int 1)]) (rest := [(.int 1), (.ref b28)]) (lenOf pd_2 rfl) rfl (own_le rfl) (hb hby at_155) (fun _ _ => ⟨rfl, e29, (by decide : 4 + 0 ≤ _), (by decide : 20 + 0 ≤ _)⟩)
  dsimp only [Pt.U, Pt.locs, Pt.cells, Pt.slots] at X30 l30 y30 z30 st30 hQ30
  subst l30 y30 z30
  obtain ⟨rfl, Nq30, e30⟩ := hQ30
  replace N_ := Fr.app N_ Nq30
  clear Nq30
  refine own_by (T' := T30) (g' := (mkF m 158 #[vI x1, vI x2, vI x3, vR b1, vR b7, vR b18, vR b28, .unset, .unset, .unset, .unset, .unset, .unset, .unset] [(.int (own_nvs c1 (0 : Int32) c0 c1 c2 c3 c4 (-1 : Int32) (0 : Int32) (0 : Int32) (0 : Int32) (0 : Int32))), (.int 1), (.ref b28)])) (fun t k => st30 _ k) ?_
  clear st30 X29 e29
  obtain ⟨u1, e_u1⟩ : ∃ z : Int32, z = (own_nvs c1 (0 : Int32) c0 c1 c2 c3 c4 (-1 : Int32) (0 : Int32) (0 : Int32) (0 : Int32) (0 : Int32)) := ⟨_, rfl⟩
  rw [← e_u1]
  obtain ⟨cl31, Ar31, q31, S31, N31, Hs31, G31⟩ := id V_b28
  have hin31 : ¬ ((1 : Int32) < 0 ∨ cl31.slots.size ≤ ((1 : Int32)).toNatClampNeg) := inb_of S31 ⟨by decide, by decide⟩
  obtain ⟨T31, h31, X31, e31, W31, st31⟩ := stI X30 hx hZ e30 Ar31 (j := (1 : Int32)) hin31 (g := (mkF m 158 #[vI x1, vI x2, vI x3, vR b1, vR b7, vR b18, vR b28, .unset, .unset, .unset, .unset, .unset, .unset, .unset] [(.int u1), (.int 1), (.ref b28)])) rfl rfl (hb hby at_158)
  have V_b28_ : Arv Z h31 b28 k28 .int (5 : Int32) [(.int (-1)), (.int u1), (.int 0), (.int 0), (.int 0)] (.int 0) := Arv.set Ar31 q31 S31 N31 Hs31 G31 rfl W31 1 rfl (Nat.le_of_ble_eq_true rfl)
  replace E_m2 := E_m2.wr W31
  replace S_NEXT_ONE_BASED := S_NEXT_ONE_BASED.wr W31
  replace E_m3 := E_m3.wr W31
  replace S_NEXTVAL := S_NEXTVAL.wr W31
  replace E_m1 := E_m1.wr W31
  replace S_NEXT := S_NEXT.wr W31
  replace E_m0 := E_m0.wr W31
  replace S_PREFIX := S_PREFIX.wr W31
  replace F_ordinal_m2 := F_ordinal_m2.other W31 (Or.inl ne_m2_b28)
  replace F_ordinal_m3 := F_ordinal_m3.other W31 (Or.inl ne_m3_b28)
  replace F_ordinal_m1 := F_ordinal_m1.other W31 (Or.inl ne_m1_b28)
  replace F_ordinal_m0 := F_ordinal_m0.other W31 (Or.inl ne_m0_b28)
  replace Zle := Nat.le_trans Zle (Keep.of_wr W31).1
  replace V_b1 := V_b1.other W31 ne_b1_b28
  replace V_b7 := V_b7.other W31 ne_b7_b28
  replace V_b18 := V_b18.other W31 ne_b18_b28
  replace V_b28 := V_b28_
  clear V_b28_ W31 hin31 G31 Hs31 N31 S31 q31 Ar31
  replace N_ := Fr.snoc X31 N_ g_b28
  refine own_by (T' := T31) (g' := (mkF m 159 #[vI x1, vI x2, vI x3, vR b1, vR b7, vR b18, vR b28, .unset, .unset, .unset, .unset, .unset, .unset, .unset] [])) (fun t k => st31 t k) ?_
  clear st31 X30 e30
  refine own_by (T' := T31) (g' := (mkF m 161 #[vI x1, vI x2, vI x3, vR b1, vR b7, vR b18, vR b28, .unset, .unset, .unset, .unset, .unset, .unset, .unset] [(.ref b28)])) (fun t k => XS.aload X31.here hx rfl (hb hby at_159) rfl rfl k) ?_
  refine own_by (T' := T31) (g' := (mkF m 162 #[vI x1, vI x2, vI x3, vR b1, vR b7, vR b18, vR b28, .unset, .unset, .unset, .unset, .unset, .unset, .unset] [(.int 2), (.ref b28)])) (fun t k => XS.iconst X31.here hx rfl (hb hby at_161) k) ?_
  refine own_by (T' := T31) (g' := (mkF m 163 #[vI x1, vI x2, vI x3, vR b1, vR b7, vR b18, vR b28, .unset, .unset, .unset, .unset, .unset, .unset, .unset] [(.ref b1), (.int 2), (.ref b28)])) (fun t k => XS.aloadN X31.here hx rfl (hb hby at_162) rfl rfl k) ?_
  refine own_by (T' := T31) (g' := (mkF m 165 #[vI x1, vI x2, vI x3, vR b1, vR b7, vR b18, vR b28, .unset, .unset, .unset, .unset, .unset, .unset, .unset] [(.ref b28), (.ref b1), (.int 2), (.ref b28)])) (fun t k => XS.aload X31.here hx rfl (hb hby at_163) rfl rfl k) ?_
  refine own_by (T' := T31) (g' := (mkF m 167 #[vI x1, vI x2, vI x3, vR b1, vR b7, vR b18, vR b28, .unset, .unset, .unset, .unset, .unset, .unset, .unset] [(.ref b18), (.ref b28), (.ref b1), (.int 2), (.ref b28)])) (fun t k => XS.aload X31.here hx rfl (hb hby at_165) rfl rfl k) ?_
  refine own_by (T' := T31) (g' := (mkF m 168 #[vI x1, vI x2, vI x3, vR b1, vR b7, vR b18, vR b28, .unset, .unset, .unset, .unset, .unset, .unset, .unset] [(.int 2), (.ref b18), (.ref b28), (.ref b1), (.int 2), (.ref b28)])) (fun t k => XS.iconst X31.here hx rfl (hb hby at_167) k) ?_
  obtain ⟨_, _, ⟨T32, L32, k32, n32⟩, -, X32, ⟨Lc32, hQ32, l32, y32, z32⟩, st32⟩ := Jvm.LawKit.callS X31 hx (y := (⟨"com/example/emu/emu/TableFormFromPrefixPinLaw", "nextval", "([I[I[II)I"⟩ : MethodName)) hown (mvT hZ (hw _ (own_m 8 rfl))) (mvT hZ (hw _ (own_m 9 rfl))) (mvT hZ (hw _ (own_m 3 rfl))) (mvT hZ (hw _ (own_m 10 rfl))) (by decide) (backOf (W := 2) (rm3_2 l Z a0 hw [] b1 b28 b18 k1 c0 c1 c2 c3 c4 k28 k18 (-1 : Int32) u1 (0 : Int32) (0 : Int32) (0 : Int32) (-1 : Int32) (0 : Int32) t1 t2 t3 h31 n0 Zle V_b1 V_b28 V_b18 (hr1)) hZ (hw _ (own_m 10 rfl)) (hw _ (own_m 3 rfl)) (by decide) (by decide)) (g := (mkF m 168 #[vI x1, vI x2, vI x3, vR b1, vR b7, vR b18, vR b28, .unset, .unset, .unset, .unset, .unset, .unset, .unset] [(.int 2), (.ref b18), (.ref b28), (.ref b1), (.int 2), (.ref b28)])) rfl (by rw [hml]; rfl) (argsL := [(.ref b1), (.ref b28), (.ref b18), (.int 2)]) (rest := [(.int 2), (.ref b28)]) (lenOf pd_2 rfl) rfl (own_le rfl) (hb hby at_168) (fun _ _ => ⟨rfl, e31, (by decide : 4 + 0 ≤ _), (by decide : 20 + 0 ≤ _)⟩)
  dsimp only [Pt.U, Pt.locs, Pt.cells, Pt.slots] at X32 l32 y32 z32 st32 hQ32
  subst l32 y32 z32
  obtain ⟨rfl, Nq32, e32⟩ := hQ32
  replace N_ := Fr.app N_ Nq32
  clear Nq32
  refine own_by (T' := T32) (g' := (mkF m 171 #[vI x1, vI x2, vI x3, vR b1, vR b7, vR b18, vR b28, .unset, .unset, .unset, .unset, .unset, .unset, .unset] [(.int (own_nvs c2 t1 c0 c1 c2 c3 c4 (-1 : Int32) u1 (0 : Int32) (0 : Int32) (0 : Int32))), (.int 2), (.ref b28)])) (fun t k => st32 _ k) ?_
  clear st32 X31 e31
  obtain ⟨u2, e_u2⟩ : ∃ z : Int32, z = (own_nvs c2 t1 c0 c1 c2 c3 c4 (-1 : Int32) u1 (0 : Int32) (0 : Int32) (0 : Int32)) := ⟨_, rfl⟩
  rw [← e_u2]
  obtain ⟨cl33, Ar33, q33, S33, N33, Hs33, G33⟩ := id V_b28
  have hin33 : ¬ ((2 : Int32) < 0 ∨ cl33.slots.size ≤ ((2 : Int32)).toNatClampNeg) := inb_of S33 ⟨by decide, by decide⟩
  obtain ⟨T33, h33, X33, e33, W33, st33⟩ := stI X32 hx hZ e32 Ar33 (j := (2 : Int32)) hin33 (g := (mkF m 171 #[vI x1, vI x2, vI x3, vR b1, vR b7, vR b18, vR b28, .unset, .unset, .unset, .unset, .unset, .unset, .unset] [(.int u2), (.int 2), (.ref b28)])) rfl rfl (hb hby at_171)
  have V_b28_ : Arv Z h33 b28 k28 .int (5 : Int32) [(.int (-1)), (.int u1), (.int u2), (.int 0), (.int 0)] (.int 0) := Arv.set Ar33 q33 S33 N33 Hs33 G33 rfl W33 2 rfl (Nat.le_of_ble_eq_true rfl)
  replace E_m2 := E_m2.wr W33
  replace S_NEXT_ONE_BASED := S_NEXT_ONE_BASED.wr W33
  replace E_m3 := E_m3.wr W33
  replace S_NEXTVAL := S_NEXTVAL.wr W33
  replace E_m1 := E_m1.wr W33
  replace S_NEXT := S_NEXT.wr W33
  replace E_m0 := E_m0.wr W33
  replace S_PREFIX := S_PREFIX.wr W33
  replace F_ordinal_m2 := F_ordinal_m2.other W33 (Or.inl ne_m2_b28)
  replace F_ordinal_m3 := F_ordinal_m3.other W33 (Or.inl ne_m3_b28)
  replace F_ordinal_m1 := F_ordinal_m1.other W33 (Or.inl ne_m1_b28)
  replace F_ordinal_m0 := F_ordinal_m0.other W33 (Or.inl ne_m0_b28)
  replace Zle := Nat.le_trans Zle (Keep.of_wr W33).1
  replace V_b1 := V_b1.other W33 ne_b1_b28
  replace V_b7 := V_b7.other W33 ne_b7_b28
  replace V_b18 := V_b18.other W33 ne_b18_b28
  replace V_b28 := V_b28_
  clear V_b28_ W33 hin33 G33 Hs33 N33 S33 q33 Ar33
  replace N_ := Fr.snoc X33 N_ g_b28
  refine own_by (T' := T33) (g' := (mkF m 172 #[vI x1, vI x2, vI x3, vR b1, vR b7, vR b18, vR b28, .unset, .unset, .unset, .unset, .unset, .unset, .unset] [])) (fun t k => st33 t k) ?_
  clear st33 X32 e32
  refine own_by (T' := T33) (g' := (mkF m 174 #[vI x1, vI x2, vI x3, vR b1, vR b7, vR b18, vR b28, .unset, .unset, .unset, .unset, .unset, .unset, .unset] [(.ref b28)])) (fun t k => XS.aload X33.here hx rfl (hb hby at_172) rfl rfl k) ?_
  refine own_by (T' := T33) (g' := (mkF m 175 #[vI x1, vI x2, vI x3, vR b1, vR b7, vR b18, vR b28, .unset, .unset, .unset, .unset, .unset, .unset, .unset] [(.int 3), (.ref b28)])) (fun t k => XS.iconst X33.here hx rfl (hb hby at_174) k) ?_
  refine own_by (T' := T33) (g' := (mkF m 176 #[vI x1, vI x2, vI x3, vR b1, vR b7, vR b18, vR b28, .unset, .unset, .unset, .unset, .unset, .unset, .unset] [(.ref b1), (.int 3), (.ref b28)])) (fun t k => XS.aloadN X33.here hx rfl (hb hby at_175) rfl rfl k) ?_
  refine own_by (T' := T33) (g' := (mkF m 178 #[vI x1, vI x2, vI x3, vR b1, vR b7, vR b18, vR b28, .unset, .unset, .unset, .unset, .unset, .unset, .unset] [(.ref b28), (.ref b1), (.int 3), (.ref b28)])) (fun t k => XS.aload X33.here hx rfl (hb hby at_176) rfl rfl k) ?_
  refine own_by (T' := T33) (g' := (mkF m 180 #[vI x1, vI x2, vI x3, vR b1, vR b7, vR b18, vR b28, .unset, .unset, .unset, .unset, .unset, .unset, .unset] [(.ref b18), (.ref b28), (.ref b1), (.int 3), (.ref b28)])) (fun t k => XS.aload X33.here hx rfl (hb hby at_178) rfl rfl k) ?_
  refine own_by (T' := T33) (g' := (mkF m 181 #[vI x1, vI x2, vI x3, vR b1, vR b7, vR b18, vR b28, .unset, .unset, .unset, .unset, .unset, .unset, .unset] [(.int 3), (.ref b18), (.ref b28), (.ref b1), (.int 3), (.ref b28)])) (fun t k => XS.iconst X33.here hx rfl (hb hby at_180) k) ?_
  obtain ⟨_, _, ⟨T34, L34, k34, n34⟩, -, X34, ⟨Lc34, hQ34, l34, y34, z34⟩, st34⟩ := Jvm.LawKit.callS X33 hx (y := (⟨"com/example/emu/emu/TableFormFromPrefixPinLaw", "nextval", "([I[I[II)I"⟩ : MethodName)) hown (mvT hZ (hw _ (own_m 8 rfl))) (mvT hZ (hw _ (own_m 9 rfl))) (mvT hZ (hw _ (own_m 3 rfl))) (mvT hZ (hw _ (own_m 10 rfl))) (by decide) (backOf (W := 2) (rm3_3 l Z a0 hw [] b1 b28 b18 k1 c0 c1 c2 c3 c4 k28 k18 (-1 : Int32) u1 u2 (0 : Int32) (0 : Int32) (-1 : Int32) (0 : Int32) t1 t2 t3 h33 n0 Zle V_b1 V_b28 V_b18 (hr2)) hZ (hw _ (own_m 10 rfl)) (hw _ (own_m 3 rfl)) (by decide) (by decide)) (g := (mkF m 181 #[vI x1, vI x2, vI x3, vR b1, vR b7, vR b18, vR b28, .unset, .unset, .unset, .unset, .unset, .unset, .unset] [(.int 3), (.ref b18), (.ref b28), (.ref b1), (.int 3), (.ref b28)])) rfl (by rw [hml]; rfl) (argsL := [(.ref b1), (.ref b28), (.ref b18), (.int 3)]) (rest := [(.int 3), (.ref b28)]) (lenOf pd_2 rfl) rfl (own_le rfl) (hb hby at_181) (fun _ _ => ⟨rfl, e33, (by decide : 4 + 0 ≤ _), (by decide : 20 + 0 ≤ _)⟩)
  dsimp only [Pt.U, Pt.locs, Pt.cells, Pt.slots] at X34 l34 y34 z34 st34 hQ34
  subst l34 y34 z34
  obtain ⟨rfl, Nq34, e34⟩ := hQ34
  replace N_ := Fr.app N_ Nq34
  clear Nq34
  refine own_by (T' := T34) (g' := (mkF m 184 #[vI x1, vI x2, vI x3, vR b1, vR b7, vR b18, vR b28, .unset, .unset, .unset, .unset, .unset, .unset, .unset] [(.int (own_nvs c3 t2 c0 c1 c2 c3 c4 (-1 : Int32) u1 u2 (0 : Int32) (0 : Int32))), (.int 3), (.ref b28)])) (fun t k => st34 _ k) ?_
  clear st34 X33 e33
  obtain ⟨u3, e_u3⟩ : ∃ z : Int32, z = (own_nvs c3 t2 c0 c1 c2 c3 c4 (-1 : Int32) u1 u2 (0 : Int32) (0 : Int32)) := ⟨_, rfl⟩
  rw [← e_u3]
  obtain ⟨cl35, Ar35, q35, S35, N35, Hs35, G35⟩ := id V_b28
  have hin35 : ¬ ((3 : Int32) < 0 ∨ cl35.slots.size ≤ ((3 : Int32)).toNatClampNeg) := inb_of S35 ⟨by decide, by decide⟩
  obtain ⟨T35, h35, X35, e35, W35, st35⟩ := stI X34 hx hZ e34 Ar35 (j := (3 : Int32)) hin35 (g := (mkF m 184 #[vI x1, vI x2, vI x3, vR b1, vR b7, vR b18, vR b28, .unset, .unset, .unset, .unset, .unset, .unset, .unset] [(.int u3), (.int 3), (.ref b28)])) rfl rfl (hb hby at_184)
  have V_b28_ : Arv Z h35 b28 k28 .int (5 : Int32) [(.int (-1)), (.int u1), (.int u2), (.int u3), (.int 0)] (.int 0) := Arv.set Ar35 q35 S35 N35 Hs35 G35 rfl W35 3 rfl (Nat.le_of_ble_eq_true rfl)
  replace E_m2 := E_m2.wr W35
  replace S_NEXT_ONE_BASED := S_NEXT_ONE_BASED.wr W35
  replace E_m3 := E_m3.wr W35
  replace S_NEXTVAL := S_NEXTVAL.wr W35
  replace E_m1 := E_m1.wr W35
  replace S_NEXT := S_NEXT.wr W35
  replace E_m0 := E_m0.wr W35
  replace S_PREFIX := S_PREFIX.wr W35
  replace F_ordinal_m2 := F_ordinal_m2.other W35 (Or.inl ne_m2_b28)
  replace F_ordinal_m3 := F_ordinal_m3.other W35 (Or.inl ne_m3_b28)
  replace F_ordinal_m1 := F_ordinal_m1.other W35 (Or.inl ne_m1_b28)
  replace F_ordinal_m0 := F_ordinal_m0.other W35 (Or.inl ne_m0_b28)
  replace Zle := Nat.le_trans Zle (Keep.of_wr W35).1
  replace V_b1 := V_b1.other W35 ne_b1_b28
  replace V_b7 := V_b7.other W35 ne_b7_b28
  replace V_b18 := V_b18.other W35 ne_b18_b28
  replace V_b28 := V_b28_
  clear V_b28_ W35 hin35 G35 Hs35 N35 S35 q35 Ar35
  replace N_ := Fr.snoc X35 N_ g_b28
  refine own_by (T' := T35) (g' := (mkF m 185 #[vI x1, vI x2, vI x3, vR b1, vR b7, vR b18, vR b28, .unset, .unset, .unset, .unset, .unset, .unset, .unset] [])) (fun t k => st35 t k) ?_
  clear st35 X34 e34
  refine own_by (T' := T35) (g' := (mkF m 187 #[vI x1, vI x2, vI x3, vR b1, vR b7, vR b18, vR b28, .unset, .unset, .unset, .unset, .unset, .unset, .unset] [(.ref b28)])) (fun t k => XS.aload X35.here hx rfl (hb hby at_185) rfl rfl k) ?_
  refine own_by (T' := T35) (g' := (mkF m 188 #[vI x1, vI x2, vI x3, vR b1, vR b7, vR b18, vR b28, .unset, .unset, .unset, .unset, .unset, .unset, .unset] [(.int 4), (.ref b28)])) (fun t k => XS.iconst X35.here hx rfl (hb hby at_187) k) ?_
  refine own_by (T' := T35) (g' := (mkF m 189 #[vI x1, vI x2, vI x3, vR b1, vR b7, vR b18, vR b28, .unset, .unset, .unset, .unset, .unset, .unset, .unset] [(.ref b1), (.int 4), (.ref b28)])) (fun t k => XS.aloadN X35.here hx rfl (hb hby at_188) rfl rfl k) ?_
  refine own_by (T' := T35) (g' := (mkF m 191 #[vI x1, vI x2, vI x3, vR b1, vR b7, vR b18, vR b28, .unset, .unset, .unset, .unset, .unset, .unset, .unset] [(.ref b28), (.ref b1), (.int 4), (.ref b28)])) (fun t k => XS.aload X35.here hx rfl (hb hby at_189) rfl rfl k) ?_
  refine own_by (T' := T35) (g' := (mkF m 193 #[vI x1, vI x2, vI x3, vR b1, vR b7, vR b18, vR b28, .unset, .unset, .unset, .unset, .unset, .unset, .unset] [(.ref b18), (.ref b28), (.ref b1), (.int 4), (.ref b28)])) (fun t k => XS.aload X35.here hx rfl (hb hby at_191) rfl rfl k) ?_
  refine own_by (T' := T35) (g' := (mkF m 194 #[vI x1, vI x2, vI x3, vR b1, vR b7, vR b18, vR b28, .unset, .unset, .unset, .unset, .unset, .unset, .unset] [(.int 4), (.ref b18), (.ref b28), (.ref b1), (.int 4), (.ref b28)])) (fun t k => XS.iconst X35.here hx rfl (hb hby at_193) k) ?_
  obtain ⟨_, _, ⟨T36, L36, k36, n36⟩, -, X36, ⟨Lc36, hQ36, l36, y36, z36⟩, st36⟩ := Jvm.LawKit.callS X35 hx (y := (⟨"com/example/emu/emu/TableFormFromPrefixPinLaw", "nextval", "([I[I[II)I"⟩ : MethodName)) hown (mvT hZ (hw _ (own_m 8 rfl))) (mvT hZ (hw _ (own_m 9 rfl))) (mvT hZ (hw _ (own_m 3 rfl))) (mvT hZ (hw _ (own_m 10 rfl))) (by decide) (backOf (W := 2) (rm3_4 l Z a0 hw [] b1 b28 b18 k1 c0 c1 c2 c3 c4 k28 k18 (-1 : Int32) u1 u2 u3 (0 : Int32) (-1 : Int32) (0 : Int32) t1 t2 t3 h35 n0 Zle V_b1 V_b28 V_b18 (hr3)) hZ (hw _ (own_m 10 rfl)) (hw _ (own_m 3 rfl)) (by decide) (by decide)) (g := (mkF m 194 #[vI x1, vI x2, vI x3, vR b1, vR b7, vR b18, vR b28, .unset, .unset, .unset, .unset, .unset, .unset, .unset] [(.int 4), (.ref b18), (.ref b28), (.ref b1), (.int 4), (.ref b28)])) rfl (by rw [hml]; rfl) (argsL := [(.ref b1), (.ref b28), (.ref b18), (.int 4)]) (rest := [(.int 4), (.ref b28)]) (lenOf pd_2 rfl) rfl (own_le rfl) (hb hby at_194) (fun _ _ => ⟨rfl, e35, (by decide : 4 + 0 ≤ _), (by decide : 20 + 0 ≤ _)⟩)
  dsimp only [Pt.U, Pt.locs, Pt.cells, Pt.slots] at X36 l36 y36 z36 st36 hQ36
  subst l36 y36 z36
  obtain ⟨rfl, Nq36, e36⟩ := hQ36
  replace N_ := Fr.app N_ Nq36
  clear Nq36
  refine own_by (T' := T36) (g' := (mkF m 197 #[vI x1, vI x2, vI x3, vR b1, vR b7, vR b18, vR b28, .unset, .unset, .unset, .unset, .unset, .unset, .unset] [(.int (own_nvs c4 t3 c0 c1 c2 c3 c4 (-1 : Int32) u1 u2 u3 (0 : Int32))), (.int 4), (.ref b28)])) (fun t k => st36 _ k) ?_
  clear st36 X35 e35
  obtain ⟨u4, e_u4⟩ : ∃ z : Int32, z = (own_nvs c4 t3 c0 c1 c2 c3 c4 (-1 : Int32) u1 u2 u3 (0 : Int32)) := ⟨_, rfl⟩
  rw [← e_u4]
  obtain ⟨cl37, Ar37, q37, S37, N37, Hs37, G37⟩ := id V_b28
  have hin37 : ¬ ((4 : Int32) < 0 ∨ cl37.slots.size ≤ ((4 : Int32)).toNatClampNeg) := inb_of S37 ⟨by decide, by decide⟩
  obtain ⟨T37, h37, X37, e37, W37, st37⟩ := stI X36 hx hZ e36 Ar37 (j := (4 : Int32)) hin37 (g := (mkF m 197 #[vI x1, vI x2, vI x3, vR b1, vR b7, vR b18, vR b28, .unset, .unset, .unset, .unset, .unset, .unset, .unset] [(.int u4), (.int 4), (.ref b28)])) rfl rfl (hb hby at_197)
  have V_b28_ : Arv Z h37 b28 k28 .int (5 : Int32) [(.int (-1)), (.int u1), (.int u2), (.int u3), (.int u4)] (.int 0) := Arv.set Ar37 q37 S37 N37 Hs37 G37 rfl W37 4 rfl (Nat.le_of_ble_eq_true rfl)
  replace E_m2 := E_m2.wr W37
  replace S_NEXT_ONE_BASED := S_NEXT_ONE_BASED.wr W37
  replace E_m3 := E_m3.wr W37
  replace S_NEXTVAL := S_NEXTVAL.wr W37
  replace E_m1 := E_m1.wr W37
  replace S_NEXT := S_NEXT.wr W37
  replace E_m0 := E_m0.wr W37
  replace S_PREFIX := S_PREFIX.wr W37
  replace F_ordinal_m2 := F_ordinal_m2.other W37 (Or.inl ne_m2_b28)
  replace F_ordinal_m3 := F_ordinal_m3.other W37 (Or.inl ne_m3_b28)
  replace F_ordinal_m1 := F_ordinal_m1.other W37 (Or.inl ne_m1_b28)
  replace F_ordinal_m0 := F_ordinal_m0.other W37 (Or.inl ne_m0_b28)
  replace Zle := Nat.le_trans Zle (Keep.of_wr W37).1
  replace V_b1 := V_b1.other W37 ne_b1_b28
  replace V_b7 := V_b7.other W37 ne_b7_b28
  replace V_b18 := V_b18.other W37 ne_b18_b28
  replace V_b28 := V_b28_
  clear V_b28_ W37 hin37 G37 Hs37 N37 S37 q37 Ar37
  replace N_ := Fr.snoc X37 N_ g_b28
  refine own_by (T' := T37) (g' := (mkF m 198 #[vI x1, vI x2, vI x3, vR b1, vR b7, vR b18, vR b28, .unset, .unset, .unset, .unset, .unset, .unset, .unset] [])) (fun t k => st37 t k) ?_
  clear st37 X36 e36
  refine own_by (T' := T37) (g' := (mkF m 199 #[vI x1, vI x2, vI x3, vR b1, vR b7, vR b18, vR b28, .unset, .unset, .unset, .unset, .unset, .unset, .unset] [(.int x3)])) (fun t k => XS.iloadN X37.here hx rfl (hb hby at_198) rfl k) ?_
  refine own_by (T' := T37) (g' := (mkF m 200 #[vI x1, vI x2, vI x3, vR b1, vR b7, vR b18, vR b28, .unset, .unset, .unset, .unset, .unset, .unset, .unset] [(.int 3), (.int x3)])) (fun t k => XS.iconst X37.here hx rfl (hb hby at_199) k) ?_
  refine own_by (T' := T37) (g' := (mkF m 201 #[vI x1, vI x2, vI x3, vR b1, vR b7, vR b18, vR b28, .unset, .unset, .unset, .unset, .unset, .unset, .unset] [(.int (x3 &&& (3 : Int32)))])) (fun t k => XS.iand X37.here hx rfl (hb hby at_200) rfl k) ?_
  refine own_by (T' := T37) (g' := (mkF m 203 #[vI x1, vI x2, vI x3, vR b1, vR b7, vR b18, vR b28, vI (x3 &&& (3 : Int32)), .unset, .unset, .unset, .unset, .unset, .unset] [])) (fun t k => XS.istore X37.here hx rfl (hb hby at_201) rfl (l' := #[vI x1, vI x2, vI x3, vR b1, vR b7, vR b18, vR b28, vI (x3 &&& (3 : Int32)), .unset, .unset, .unset, .unset, .unset, .unset]) rfl k) ?_
  obtain ⟨ff, e_ff⟩ : ∃ z : Int32, z = (x3 &&& (3 : Int32)) := ⟨_, rfl⟩
  rw [← e_ff]
  refine own_by (T' := T37) (g' := (mkF m 204 #[vI x1, vI x2, vI x3, vR b1, vR b7, vR b18, vR b28, vI ff, .unset, .unset, .unset, .unset, .unset, .unset] [(.int 5)])) (fun t k => XS.iconst X37.here hx rfl (hb hby at_203) k) ?_
  exact own_c204 l Z a0 hw hx hby hml hlk hret x1 x2 x3 m0 m1 m2 m3 h0 n0  b1 k1 c0 c1 c2 c3 c4 b7 k7 t1 t2 t3 t4 b18 k18 b28 k28 u1 u2 u3 u4 ff hZ hown (X37) e37 E_m2 S_NEXT_ONE_BASED E_m3 S_NEXTVAL E_m1 S_NEXT E_m0 S_PREFIX F_ordinal_m2 F_ordinal_m3 F_ordinal_m1 F_ordinal_m0 Zle N_ ne_m2_b1 ne_m3_b1 ne_m1_b1 ne_m0_b1 g_b1 V_b1 ne_m2_b7 ne_m3_b7 ne_m1_b7 ne_m0_b7 ne_b1_b7 g_b7 V_b7 ne_m2_b18 ne_m3_b18 ne_m1_b18 ne_m0_b18 ne_b1_b18 ne_b7_b18 g_b18 V_b18 ne_m2_b28 ne_m3_b28 ne_m1_b28 ne_m0_b28 ne_b1_b28 ne_b7_b28 ne_b18_b28 g_b28 V_b28 e_c0 e_c1 e_c2 e_c3 e_c4 e_t1 HB1 hr1 e_t2 HB2 hr2 e_t3 HB3 hr3 e_t4 HB4 hr4 e_u1 e_u2 e_u3 e_u4 e_ff
set_option maxRecDepth 65536 in
set_option maxHeartbeats 40000000 in
theorem own_c95 (l : Launch) (Z : State) (a0 : Array Value) (hw : ∀ d ∈ tables_1, d.before a0 Z = true) {p : Program} {e : Env} {s : State} {m : MethodId} {below : List Frame} {meth : Method} {c : Code} (hx : p.tables.exec = Jvm.exec) (hby : c.code = code) (hml : c.maxLocals = 14) (hlk : meth.locks = false) (hret : meth.sig.returnType = ret) (x1 : Int32) (x2 : Int32) (x3 : Int32) (m0 : Addr) (m1 : Addr) (m2 : Addr) (m3 : Addr) (h0 : Heap) (n0 : Nat) (b1 : Addr) (k1 : ClassId) (c0 : Int32) (c1 : Int32) (c2 : Int32) (c3 : Int32) (c4 : Int32) (b7 : Addr) (k7 : ClassId) (t1 : Int32) (t2 : Int32) (t3 : Int32) (t4 : Int32) {Tj : State} {hj : Heap} {locsj : List Loc}
    (hZ : Z.Warmed39 s.vm) (hown : s.vm.findClass "com/example/emu/emu/TableFormFromPrefixPinLaw" = some m.cls) (Xj : Stand p l e room_1 s m #[(.int x1), (.int x2), (.int x3)] below meth c Tj locsj 2 10) (ej : Tj.heap = hj)
    (E_m2 : Exa Z hj m2 "com/example/emu/emu/TableForm") (S_NEXT_ONE_BASED : Sta Z hj "com/example/emu/emu/TableForm" "NEXT_ONE_BASED" "Lcom/example/emu/emu/TableForm;" (.ref m2)) (E_m3 : Exa Z hj m3 "com/example/emu/emu/TableForm") (S_NEXTVAL : Sta Z hj "com/example/emu/emu/TableForm" "NEXTVAL" "Lcom/example/emu/emu/TableForm;" (.ref m3)) (E_m1 : Exa Z hj m1 "com/example/emu/emu/TableForm") (S_NEXT : Sta Z hj "com/example/emu/emu/TableForm" "NEXT" "Lcom/example/emu/emu/TableForm;" (.ref m1)) (E_m0 : Exa Z hj m0 "com/example/emu/emu/TableForm") (S_PREFIX : Sta Z hj "com/example/emu/emu/TableForm" "PREFIX" "Lcom/example/emu/emu/TableForm;" (.ref m0)) (F_ordinal_m2 : Fld Z hj m2 "java/lang/Enum" "ordinal" "I" (.int 2)) (F_ordinal_m3 : Fld Z hj m3 "java/lang/Enum" "ordinal" "I" (.int 3)) (F_ordinal_m1 : Fld Z hj m1 "java/lang/Enum" "ordinal" "I" (.int 1)) (F_ordinal_m0 : Fld Z hj m0 "java/lang/Enum" "ordinal" "I" (.int 0)) (Zle : n0 ≤ hj.size) (N_ : Fr n0 locsj) (ne_m2_b1 : m2 ≠ b1) (ne_m3_b1 : m3 ≠ b1) (ne_m1_b1 : m1 ≠ b1) (ne_m0_b1 : m0 ≠ b1) (g_b1 : n0 ≤ b1) (V_b1 : Arv Z hj b1 k1 .int (5 : Int32) [(.int c0), (.int c1), (.int c2), (.int c3), (.int c4)] (.int 0)) (ne_m2_b7 : m2 ≠ b7) (ne_m3_b7 : m3 ≠ b7) (ne_m1_b7 : m1 ≠ b7) (ne_m0_b7 : m0 ≠ b7) (ne_b1_b7 : b1 ≠ b7) (g_b7 : n0 ≤ b7) (V_b7 : Arv Z hj b7 k7 .int (5 : Int32) [(.int 0), (.int t1), (.int t2), (.int t3), (.int t4)] (.int 0)) (e_c0 : c0 = (x1 &&& (3 : Int32))) (e_c1 : c1 = (((x1.toUInt32 >>> ((2 : Int32) &&& 31).toUInt32).toInt32) &&& (3 : Int32))) (e_c2 : c2 = (((x1.toUInt32 >>> ((4 : Int32) &&& 31).toUInt32).toInt32) &&& (3 : Int32))) (e_c3 : c3 = (((x1.toUInt32 >>> ((6 : Int32) &&& 31).toUInt32).toInt32) &&& (3 : Int32))) (e_c4 : c4 = (((x1.toUInt32 >>> ((8 : Int32) &&& 31).toUInt32).toInt32) &&& (3 : Int32))) (e_t1 : t1 = (own_bd1 c0 c1 c2 c3 c4)) (HB1 : own_B1 c0 c1 t1) (hr1 : t1 = 0 ∨ t1 = 1) (e_t2 : t2 = (own_bd2 c0 c1 c2 c3 c4)) (HB2 : own_B2 c0 c1 c2 t2) (hr2 : t2 = 0 ∨ t2 = 1 ∨ t2 = 2) (e_t3 : t3 = (own_bd3 c0 c1 c2 c3 c4)) (HB3 : own_B3 c0 c1 c2 c3 t3) (hr3 : t3 = 0 ∨ t3 = 1 ∨ t3 = 2 ∨ t3 = 3) (e_t4 : t4 = (own_bd4 c0 c1 c2 c3 c4)) (HB4 : own_B4 c0 c1 c2 c3 c4 t4) (hr4 : t4 = 0 ∨ t4 = 1 ∨ t4 = 2 ∨ t4 = 3 ∨ t4 = 4) : own_Goes p.tables e below s (Q0 Z x1 x2 x3 m0 m1 m2 m3 h0 n0) room_1.cells room_1.slots Tj (mkF m 95 #[vI x1, vI x2, vI x3, vR b1, vR b7, .unset, .unset, .unset, .unset, .unset, .unset, .unset, .unset, .unset] [(.int 5)]) := by
  obtain ⟨T18, h18, k18, X18, e18, E18, A18, st18⟩ := newP Xj hx hZ (hw _ (own_m 0 rfl)) ej (g := (mkF m 95 #[vI x1, vI x2, vI x3, vR b1, vR b7, .unset, .unset, .unset, .unset, .unset, .unset, .unset, .unset, .unset] [(.int 5)])) rfl (hb hby at_95) rfl (by decide) (cap := 5) (by decide) (by decide) (by decide) (by decide)
  obtain ⟨b18, g18⟩ : ∃ z, z = hj.size := ⟨_, rfl⟩
  rw [← g18] at A18 st18
  have ne_m2_b18 : m2 ≠ b18 := Nat.ne_of_lt (Nat.lt_of_lt_of_eq E_m2.lt g18.symm)
  have ne_m3_b18 : m3 ≠ b18 := Nat.ne_of_lt (Nat.lt_of_lt_of_eq E_m3.lt g18.symm)
  have ne_m1_b18 : m1 ≠ b18 := Nat.ne_of_lt (Nat.lt_of_lt_of_eq E_m1.lt g18.symm)
  have ne_m0_b18 : m0 ≠ b18 := Nat.ne_of_lt (Nat.lt_of_lt_of_eq E_m0.lt g18.symm)
  have ne_b1_b18 : b1 ≠ b18 := Nat.ne_of_lt (Nat.lt_of_lt_of_eq V_b1.lt g18.symm)
  have ne_b7_b18 : b7 ≠ b18 := Nat.ne_of_lt (Nat.lt_of_lt_of_eq V_b7.lt g18.symm)
  have g_b18 : n0 ≤ b18 := Nat.le_trans Zle (Nat.le_of_eq g18.symm)
  replace E_m2 := E_m2.ext E18
  replace S_NEXT_ONE_BASED := S_NEXT_ONE_BASED.ext E18
  replace E_m3 := E_m3.ext E18
  replace S_NEXTVAL := S_NEXTVAL.ext E18
  replace E_m1 := E_m1.ext E18
  replace S_NEXT := S_NEXT.ext E18
  replace E_m0 := E_m0.ext E18
  replace S_PREFIX := S_PREFIX.ext E18
  replace F_ordinal_m2 := F_ordinal_m2.ext E18
  replace F_ordinal_m3 := F_ordinal_m3.ext E18
  replace F_ordinal_m1 := F_ordinal_m1.ext E18
  replace F_ordinal_m0 := F_ordinal_m0.ext E18
  replace Zle := Nat.le_trans Zle E18.1
  replace V_b1 := V_b1.ext E18
  replace V_b7 := V_b7.ext E18
  have V_b18 : Arv Z h18 b18 k18 .int (5 : Int32) [(.int 0), (.int 0), (.int 0), (.int 0), (.int 0)] (.int 0) := (Arv.new A18 (by decide)).pad (pad_rep [] (.int 0) 5)
  refine own_by (T' := T18) (g' := (mkF m 97 #[vI x1, vI x2, vI x3, vR b1, vR b7, .unset, .unset, .unset, .unset, .unset, .unset, .unset, .unset, .unset] [(.ref b18)])) (fun t k => st18 t k) ?_
  clear st18
  refine own_by (T' := T18) (g' := (mkF m 99 #[vI x1, vI x2, vI x3, vR b1, vR b7, vR b18, .unset, .unset, .unset, .unset, .unset, .unset, .unset, .unset] [])) (fun t k => XS.astore X18.here hx rfl (hb hby at_97) rfl rfl (l' := #[vI x1, vI x2, vI x3, vR b1, vR b7, vR b18, .unset, .unset, .unset, .unset, .unset, .unset, .unset, .unset]) rfl k) ?_
  refine own_by (T' := T18) (g' := (mkF m 101 #[vI x1, vI x2, vI x3, vR b1, vR b7, vR b18, .unset, .unset, .unset, .unset, .unset, .unset, .unset, .unset] [(.ref b18)])) (fun t k => XS.aload X18.here hx rfl (hb hby at_99) rfl rfl k) ?_
  refine own_by (T' := T18) (g' := (mkF m 102 #[vI x1, vI x2, vI x3, vR b1, vR b7, vR b18, .unset, .unset, .unset, .unset, .unset, .unset, .unset, .unset] [(.int 0), (.ref b18)])) (fun t k => XS.iconst X18.here hx rfl (hb hby at_101) k) ?_
  refine own_by (T' := T18) (g' := (mkF m 103 #[vI x1, vI x2, vI x3, vR b1, vR b7, vR b18, .unset, .unset, .unset, .unset, .unset, .unset, .unset, .unset] [(.int (-1)), (.int 0), (.ref b18)])) (fun t k => XS.iconst X18.here hx rfl (hb hby at_102) k) ?_
  obtain ⟨cl19, Ar19, q19, S19, N19, Hs19, G19⟩ := id V_b18
  have hin19 : ¬ ((0 : Int32) < 0 ∨ cl19.slots.size ≤ ((0 : Int32)).toNatClampNeg) := inb_of S19 ⟨by decide, by decide⟩
  obtain ⟨T19, h19, X19, e19, W19, st19⟩ := stI X18 hx hZ e18 Ar19 (j := (0 : Int32)) hin19 (g := (mkF m 103 #[vI x1, vI x2, vI x3, vR b1, vR b7, vR b18, .unset, .unset, .unset, .unset, .unset, .unset, .unset, .unset] [(.int (-1)), (.int 0), (.ref b18)])) rfl rfl (hb hby at_103)
  have V_b18_ : Arv Z h19 b18 k18 .int (5 : Int32) [(.int (-1)), (.int 0), (.int 0), (.int 0), (.int 0)] (.int 0) := Arv.set Ar19 q19 S19 N19 Hs19 G19 rfl W19 0 rfl (Nat.le_of_ble_eq_true rfl)
  replace E_m2 := E_m2.wr W19
  replace S_NEXT_ONE_BASED := S_NEXT_ONE_BASED.wr W19
  replace E_m3 := E_m3.wr W19
  replace S_NEXTVAL := S_NEXTVAL.wr W19
  replace E_m1 := E_m1.wr W19
  replace S_NEXT := S_NEXT.wr W19
  replace E_m0 := E_m0.wr W19
  replace S_PREFIX := S_PREFIX.wr W19
  replace F_ordinal_m2 := F_ordinal_m2.other W19 (Or.inl ne_m2_b18)
  replace F_ordinal_m3 := F_ordinal_m3.other W19 (Or.inl ne_m3_b18)
  replace F_ordinal_m1 := F_ordinal_m1.other W19 (Or.inl ne_m1_b18)
  replace F_ordinal_m0 := F_ordinal_m0.other W19 (Or.inl ne_m0_b18)
  replace Zle := Nat.le_trans Zle (Keep.of_wr W19).1
  replace V_b1 := V_b1.other W19 ne_b1_b18
  replace V_b7 := V_b7.other W19 ne_b7_b18
  replace V_b18 := V_b18_
  clear V_b18_ W19 hin19 G19 Hs19 N19 S19 q19 Ar19
  replace N_ := Fr.snoc X19 N_ g_b18
  refine own_by (T' := T19) (g' := (mkF m 104 #[vI x1, vI x2, vI x3, vR b1, vR b7, vR b18, .unset, .unset, .unset, .unset, .unset, .unset, .unset, .unset] [])) (fun t k => st19 t k) ?_
  clear st19 X18 e18
  refine own_by (T' := T19) (g' := (mkF m 106 #[vI x1, vI x2, vI x3, vR b1, vR b7, vR b18, .unset, .unset, .unset, .unset, .unset, .unset, .unset, .unset] [(.ref b18)])) (fun t k => XS.aload X19.here hx rfl (hb hby at_104) rfl rfl k) ?_
  refine own_by (T' := T19) (g' := (mkF m 107 #[vI x1, vI x2, vI x3, vR b1, vR b7, vR b18, .unset, .unset, .unset, .unset, .unset, .unset, .unset, .unset] [(.int 1), (.ref b18)])) (fun t k => XS.iconst X19.here hx rfl (hb hby at_106) k) ?_
  refine own_by (T' := T19) (g' := (mkF m 109 #[vI x1, vI x2, vI x3, vR b1, vR b7, vR b18, .unset, .unset, .unset, .unset, .unset, .unset, .unset, .unset] [(.ref b7), (.int 1), (.ref b18)])) (fun t k => XS.aload X19.here hx rfl (hb hby at_107) rfl rfl k) ?_
  refine own_by (T' := T19) (g' := (mkF m 110 #[vI x1, vI x2, vI x3, vR b1, vR b7, vR b18, .unset, .unset, .unset, .unset, .unset, .unset, .unset, .unset] [(.int 0), (.ref b7), (.int 1), (.ref b18)])) (fun t k => XS.iconst X19.here hx rfl (hb hby at_109) k) ?_
  obtain ⟨cl20, Ar20, q20, S20, N20, Hs20, G20⟩ := id V_b7
  have hin20 : ¬ ((0 : Int32) < 0 ∨ cl20.slots.size ≤ ((0 : Int32)).toNatClampNeg) := inb_of S20 ⟨by decide, by decide⟩
  have hat20 : cl20.slots[((0 : Int32)).toNatClampNeg]? = some (.int 0) := Hs20.at hin20 rfl
  refine own_by (T' := T19) (g' := (mkF m 111 #[vI x1, vI x2, vI x3, vR b1, vR b7, vR b18, .unset, .unset, .unset, .unset, .unset, .unset, .unset, .unset] [(.int 0), (.int 1), (.ref b18)])) (fun t k => X19.iaload hx (j := (0 : Int32)) (v := (.int 0)) (by rw [e19]; exact Ar20.1) (State.isArrayOf_alike hZ.alike Ar20.2.1) Ar20.2.2 hin20 hat20 (g := (mkF m 110 #[vI x1, vI x2, vI x3, vR b1, vR b7, vR b18, .unset, .unset, .unset, .unset, .unset, .unset, .unset, .unset] [(.int 0), (.ref b7), (.int 1), (.ref b18)])) rfl rfl (hb hby at_110) _ k) ?_
  clear hat20 hin20 G20 Hs20 N20 S20 q20 Ar20 cl20
  obtain ⟨cl21, Ar21, q21, S21, N21, Hs21, G21⟩ := id V_b18
  have hin21 : ¬ ((1 : Int32) < 0 ∨ cl21.slots.size ≤ ((1 : Int32)).toNatClampNeg) := inb_of S21 ⟨by decide, by decide⟩
  obtain ⟨T21, h21, X21, e21, W21, st21⟩ := stI X19 hx hZ e19 Ar21 (j := (1 : Int32)) hin21 (g := (mkF m 111 #[vI x1, vI x2, vI x3, vR b1, vR b7, vR b18, .unset, .unset, .unset, .unset, .unset, .unset, .unset, .unset] [(.int 0), (.int 1), (.ref b18)])) rfl rfl (hb hby at_111)
  have V_b18_ : Arv Z h21 b18 k18 .int (5 : Int32) [(.int (-1)), (.int 0), (.int 0), (.int 0), (.int 0)] (.int 0) := Arv.set Ar21 q21 S21 N21 Hs21 G21 rfl W21 1 rfl (Nat.le_of_ble_eq_true rfl)
  replace E_m2 := E_m2.wr W21
  replace S_NEXT_ONE_BASED := S_NEXT_ONE_BASED.wr W21
  replace E_m3 := E_m3.wr W21
  replace S_NEXTVAL := S_NEXTVAL.wr W21
  replace E_m1 := E_m1.wr W21
  replace S_NEXT := S_NEXT.wr W21
  replace E_m0 := E_m0.wr W21
  replace S_PREFIX := S_PREFIX.wr W21
  replace F_ordinal_m2 := F_ordinal_m2.other W21 (Or.inl ne_m2_b18)
  replace F_ordinal_m3 := F_ordinal_m3.other W21 (Or.inl ne_m3_b18)
  replace F_ordinal_m1 := F_ordinal_m1.other W21 (Or.inl ne_m1_b18)
  replace F_ordinal_m0 := F_ordinal_m0.other W21 (Or.inl ne_m0_b18)
  replace Zle := Nat.le_trans Zle (Keep.of_wr W21).1
  replace V_b1 := V_b1.other W21 ne_b1_b18
  replace V_b7 := V_b7.other W21 ne_b7_b18
  replace V_b18 := V_b18_
  clear V_b18_ W21 hin21 G21 Hs21 N21 S21 q21 Ar21
  replace N_ := Fr.snoc X21 N_ g_b18
  refine own_by (T' := T21) (g' := (mkF m 112 #[vI x1, vI x2, vI x3, vR b1, vR b7, vR b18, .unset, .unset, .unset, .unset, .unset, .unset, .unset, .unset] [])) (fun t k => st21 t k) ?_
  clear st21 X19 e19
  refine own_by (T' := T21) (g' := (mkF m 114 #[vI x1, vI x2, vI x3, vR b1, vR b7, vR b18, .unset, .unset, .unset, .unset, .unset, .unset, .unset, .unset] [(.ref b18)])) (fun t k => XS.aload X21.here hx rfl (hb hby at_112) rfl rfl k) ?_
  refine own_by (T' := T21) (g' := (mkF m 115 #[vI x1, vI x2, vI x3, vR b1, vR b7, vR b18, .unset, .unset, .unset, .unset, .unset, .unset, .unset, .unset] [(.int 2), (.ref b18)])) (fun t k => XS.iconst X21.here hx rfl (hb hby at_114) k) ?_
  refine own_by (T' := T21) (g' := (mkF m 117 #[vI x1, vI x2, vI x3, vR b1, vR b7, vR b18, .unset, .unset, .unset, .unset, .unset, .unset, .unset, .unset] [(.ref b7), (.int 2), (.ref b18)])) (fun t k => XS.aload X21.here hx rfl (hb hby at_115) rfl rfl k) ?_
  refine own_by (T' := T21) (g' := (mkF m 118 #[vI x1, vI x2, vI x3, vR b1, vR b7, vR b18, .unset, .unset, .unset, .unset, .unset, .unset, .unset, .unset] [(.int 1), (.ref b7), (.int 2), (.ref b18)])) (fun t k => XS.iconst X21.here hx rfl (hb hby at_117) k) ?_
  obtain ⟨cl22, Ar22, q22, S22, N22, Hs22, G22⟩ := id V_b7
  have hin22 : ¬ ((1 : Int32) < 0 ∨ cl22.slots.size ≤ ((1 : Int32)).toNatClampNeg) := inb_of S22 ⟨by decide, by decide⟩
  have hat22 : cl22.slots[((1 : Int32)).toNatClampNeg]? = some (.int t1) := Hs22.at hin22 rfl
  refine own_by (T' := T21) (g' := (mkF m 119 #[vI x1, vI x2, vI x3, vR b1, vR b7, vR b18, .unset, .unset, .unset, .unset, .unset, .unset, .unset, .unset] [(.int t1), (.int 2), (.ref b18)])) (fun t k => X21.iaload hx (j := (1 : Int32)) (v := (.int t1)) (by rw [e21]; exact Ar22.1) (State.isArrayOf_alike hZ.alike Ar22.2.1) Ar22.2.2 hin22 hat22 (g := (mkF m 118 #[vI x1, vI x2, vI x3, vR b1, vR b7, vR b18, .unset, .unset, .unset, .unset, .unset, .unset, .unset, .unset] [(.int 1), (.ref b7), (.int 2), (.ref b18)])) rfl rfl (hb hby at_118) _ k) ?_
  clear hat22 hin22 G22 Hs22 N22 S22 q22 Ar22 cl22
  obtain ⟨cl23, Ar23, q23, S23, N23, Hs23, G23⟩ := id V_b18
  have hin23 : ¬ ((2 : Int32) < 0 ∨ cl23.slots.size ≤ ((2 : Int32)).toNatClampNeg) := inb_of S23 ⟨by decide, by decide⟩
  obtain ⟨T23, h23, X23, e23, W23, st23⟩ := stI X21 hx hZ e21 Ar23 (j := (2 : Int32)) hin23 (g := (mkF m 119 #[vI x1, vI x2, vI x3, vR b1, vR b7, vR b18, .unset, .unset, .unset, .unset, .unset, .unset, .unset, .unset] [(.int t1), (.int 2), (.ref b18)])) rfl rfl (hb hby at_119)
  have V_b18_ : Arv Z h23 b18 k18 .int (5 : Int32) [(.int (-1)), (.int 0), (.int t1), (.int 0), (.int 0)] (.int 0) := Arv.set Ar23 q23 S23 N23 Hs23 G23 rfl W23 2 rfl (Nat.le_of_ble_eq_true rfl)
  replace E_m2 := E_m2.wr W23
  replace S_NEXT_ONE_BASED := S_NEXT_ONE_BASED.wr W23
  replace E_m3 := E_m3.wr W23
  replace S_NEXTVAL := S_NEXTVAL.wr W23
  replace E_m1 := E_m1.wr W23
  replace S_NEXT := S_NEXT.wr W23
  replace E_m0 := E_m0.wr W23
  replace S_PREFIX := S_PREFIX.wr W23
  replace F_ordinal_m2 := F_ordinal_m2.other W23 (Or.inl ne_m2_b18)
  replace F_ordinal_m3 := F_ordinal_m3.other W23 (Or.inl ne_m3_b18)
  replace F_ordinal_m1 := F_ordinal_m1.other W23 (Or.inl ne_m1_b18)
  replace F_ordinal_m0 := F_ordinal_m0.other W23 (Or.inl ne_m0_b18)
  replace Zle := Nat.le_trans Zle (Keep.of_wr W23).1
  replace V_b1 := V_b1.other W23 ne_b1_b18
  replace V_b7 := V_b7.other W23 ne_b7_b18
  replace V_b18 := V_b18_
  clear V_b18_ W23 hin23 G23 Hs23 N23 S23 q23 Ar23
  replace N_ := Fr.snoc X23 N_ g_b18
  refine own_by (T' := T23) (g' := (mkF m 120 #[vI x1, vI x2, vI x3, vR b1, vR b7, vR b18, .unset, .unset, .unset, .unset, .unset, .unset, .unset, .unset] [])) (fun t k => st23 t k) ?_
  clear st23 X21 e21
  refine own_by (T' := T23) (g' := (mkF m 122 #[vI x1, vI x2, vI x3, vR b1, vR b7, vR b18, .unset, .unset, .unset, .unset, .unset, .unset, .unset, .unset] [(.ref b18)])) (fun t k => XS.aload X23.here hx rfl (hb hby at_120) rfl rfl k) ?_
  refine own_by (T' := T23) (g' := (mkF m 123 #[vI x1, vI x2, vI x3, vR b1, vR b7, vR b18, .unset, .unset, .unset, .unset, .unset, .unset, .unset, .unset] [(.int 3), (.ref b18)])) (fun t k => XS.iconst X23.here hx rfl (hb hby at_122) k) ?_
  refine own_by (T' := T23) (g' := (mkF m 125 #[vI x1, vI x2, vI x3, vR b1, vR b7, vR b18, .unset, .unset, .unset, .unset, .unset, .unset, .unset, .unset] [(.ref b7), (.int 3), (.ref b18)])) (fun t k => XS.aload X23.here hx rfl (hb hby at_123) rfl rfl k) ?_
  refine own_by (T' := T23) (g' := (mkF m 126 #[vI x1, vI x2, vI x3, vR b1, vR b7, vR b18, .unset, .unset, .unset, .unset, .unset, .unset, .unset, .unset] [(.int 2), (.ref b7), (.int 3), (.ref b18)])) (fun t k => XS.iconst X23.here hx rfl (hb hby at_125) k) ?_
  obtain ⟨cl24, Ar24, q24, S24, N24, Hs24, G24⟩ := id V_b7
  have hin24 : ¬ ((2 : Int32) < 0 ∨ cl24.slots.size ≤ ((2 : Int32)).toNatClampNeg) := inb_of S24 ⟨by decide, by decide⟩
  have hat24 : cl24.slots[((2 : Int32)).toNatClampNeg]? = some (.int t2) := Hs24.at hin24 rfl
  refine own_by (T' := T23) (g' := (mkF m 127 #[vI x1, vI x2, vI x3, vR b1, vR b7, vR b18, .unset, .unset, .unset, .unset, .unset, .unset, .unset, .unset] [(.int t2), (.int 3), (.ref b18)])) (fun t k => X23.iaload hx (j := (2 : Int32)) (v := (.int t2)) (by rw [e23]; exact Ar24.1) (State.isArrayOf_alike hZ.alike Ar24.2.1) Ar24.2.2 hin24 hat24 (g := (mkF m 126 #[vI x1, vI x2, vI x3, vR b1, vR b7, vR b18, .unset, .unset, .unset, .unset, .unset, .unset, .unset, .unset] [(.int 2), (.ref b7), (.int 3), (.ref b18)])) rfl rfl (hb hby at_126) _ k) ?_
  clear hat24 hin24 G24 Hs24 N24 S24 q24 Ar24 cl24
  obtain ⟨cl25, Ar25, q25, S25, N25, Hs25, G25⟩ := id V_b18
  have hin25 : ¬ ((3 : Int32) < 0 ∨ cl25.slots.size ≤ ((3 : Int32)).toNatClampNeg) := inb_of S25 ⟨by decide, by decide⟩
  obtain ⟨T25, h25, X25, e25, W25, st25⟩ := stI X23 hx hZ e23 Ar25 (j := (3 : Int32)) hin25 (g := (mkF m 127 #[vI x1, vI x2, vI x3, vR b1, vR b7, vR b18, .unset, .unset, .unset, .unset, .unset, .unset, .unset, .unset] [(.int t2), (.int 3), (.ref b18)])) rfl rfl (hb hby at_127)
  have V_b18_ : Arv Z h25 b18 k18 .int (5 : Int32) [(.int (-1)), (.int 0), (.int t1), (.int t2), (.int 0)] (.int 0) := Arv.set Ar25 q25 S25 N25 Hs25 G25 rfl W25 3 rfl (Nat.le_of_ble_eq_true rfl)
  replace E_m2 := E_m2.wr W25
  replace S_NEXT_ONE_BASED := S_NEXT_ONE_BASED.wr W25
  replace E_m3 := E_m3.wr W25
  replace S_NEXTVAL := S_NEXTVAL.wr W25
  replace E_m1 := E_m1.wr W25
  replace S_NEXT := S_NEXT.wr W25
  replace E_m0 := E_m0.wr W25
  replace S_PREFIX := S_PREFIX.wr W25
  replace F_ordinal_m2 := F_ordinal_m2.other W25 (Or.inl ne_m2_b18)
  replace F_ordinal_m3 := F_ordinal_m3.other W25 (Or.inl ne_m3_b18)
  replace F_ordinal_m1 := F_ordinal_m1.other W25 (Or.inl ne_m1_b18)
  replace F_ordinal_m0 := F_ordinal_m0.other W25 (Or.inl ne_m0_b18)
  replace Zle := Nat.le_trans Zle (Keep.of_wr W25).1
  replace V_b1 := V_b1.other W25 ne_b1_b18
  replace V_b7 := V_b7.other W25 ne_b7_b18
  replace V_b18 := V_b18_
  clear V_b18_ W25 hin25 G25 Hs25 N25 S25 q25 Ar25
  replace N_ := Fr.snoc X25 N_ g_b18
  refine own_by (T' := T25) (g' := (mkF m 128 #[vI x1, vI x2, vI x3, vR b1, vR b7, vR b18, .unset, .unset, .unset, .unset, .unset, .unset, .unset, .unset] [])) (fun t k => st25 t k) ?_
  clear st25 X23 e23
  refine own_by (T' := T25) (g' := (mkF m 130 #[vI x1, vI x2, vI x3, vR b1, vR b7, vR b18, .unset, .unset, .unset, .unset, .unset, .unset, .unset, .unset] [(.ref b18)])) (fun t k => XS.aload X25.here hx rfl (hb hby at_128) rfl rfl k) ?_
  refine own_by (T' := T25) (g' := (mkF m 131 #[vI x1, vI x2, vI x3, vR b1, vR b7, vR b18, .unset, .unset, .unset, .unset, .unset, .unset, .unset, .unset] [(.int 4), (.ref b18)])) (fun t k => XS.iconst X25.here hx rfl (hb hby at_130) k) ?_
  refine own_by (T' := T25) (g' := (mkF m 133 #[vI x1, vI x2, vI x3, vR b1, vR b7, vR b18, .unset, .unset, .unset, .unset, .unset, .unset, .unset, .unset] [(.ref b7), (.int 4), (.ref b18)])) (fun t k => XS.aload X25.here hx rfl (hb hby at_131) rfl rfl k) ?_
  refine own_by (T' := T25) (g' := (mkF m 134 #[vI x1, vI x2, vI x3, vR b1, vR b7, vR b18, .unset, .unset, .unset, .unset, .unset, .unset, .unset, .unset] [(.int 3), (.ref b7), (.int 4), (.ref b18)])) (fun t k => XS.iconst X25.here hx rfl (hb hby at_133) k) ?_
  obtain ⟨cl26, Ar26, q26, S26, N26, Hs26, G26⟩ := id V_b7
  have hin26 : ¬ ((3 : Int32) < 0 ∨ cl26.slots.size ≤ ((3 : Int32)).toNatClampNeg) := inb_of S26 ⟨by decide, by decide⟩
  have hat26 : cl26.slots[((3 : Int32)).toNatClampNeg]? = some (.int t3) := Hs26.at hin26 rfl
  refine own_by (T' := T25) (g' := (mkF m 135 #[vI x1, vI x2, vI x3, vR b1, vR b7, vR b18, .unset, .unset, .unset, .unset, .unset, .unset, .unset, .unset] [(.int t3), (.int 4), (.ref b18)])) (fun t k => X25.iaload hx (j := (3 : Int32)) (v := (.int t3)) (by rw [e25]; exact Ar26.1) (State.isArrayOf_alike hZ.alike Ar26.2.1) Ar26.2.2 hin26 hat26 (g := (mkF m 134 #[vI x1, vI x2, vI x3, vR b1, vR b7, vR b18, .unset, .unset, .unset, .unset, .unset, .unset, .unset, .unset] [(.int 3), (.ref b7), (.int 4), (.ref b18)])) rfl rfl (hb hby at_134) _ k) ?_
  clear hat26 hin26 G26 Hs26 N26 S26 q26 Ar26 cl26
  obtain ⟨cl27, Ar27, q27, S27, N27, Hs27, G27⟩ := id V_b18
  have hin27 : ¬ ((4 : Int32) < 0 ∨ cl27.slots.size ≤ ((4 : Int32)).toNatClampNeg) := inb_of S27 ⟨by decide, by decide⟩
  obtain ⟨T27, h27, X27, e27, W27, st27⟩ := stI X25 hx hZ e25 Ar27 (j := (4 : Int32)) hin27 (g := (mkF m 135 #[vI x1, vI x2, vI x3, vR b1, vR b7, vR b18, .unset, .unset, .unset, .unset, .unset, .unset, .unset, .unset] [(.int t3), (.int 4), (.ref b18)])) rfl rfl (hb hby at_135)
  have V_b18_ : Arv Z h27 b18 k18 .int (5 : Int32) [(.int (-1)), (.int 0), (.int t1), (.int t2), (.int t3)] (.int 0) := Arv.set Ar27 q27 S27 N27 Hs27 G27 rfl W27 4 rfl (Nat.le_of_ble_eq_true rfl)
  replace E_m2 := E_m2.wr W27
  replace S_NEXT_ONE_BASED := S_NEXT_ONE_BASED.wr W27
  replace E_m3 := E_m3.wr W27
  replace S_NEXTVAL := S_NEXTVAL.wr W27
  replace E_m1 := E_m1.wr W27
  replace S_NEXT := S_NEXT.wr W27
  replace E_m0 := E_m0.wr W27
  replace S_PREFIX := S_PREFIX.wr W27
  replace F_ordinal_m2 := F_ordinal_m2.other W27 (Or.inl ne_m2_b18)
  replace F_ordinal_m3 := F_ordinal_m3.other W27 (Or.inl ne_m3_b18)
  replace F_ordinal_m1 := F_ordinal_m1.other W27 (Or.inl ne_m1_b18)
  replace F_ordinal_m0 := F_ordinal_m0.other W27 (Or.inl ne_m0_b18)
  replace Zle := Nat.le_trans Zle (Keep.of_wr W27).1
  replace V_b1 := V_b1.other W27 ne_b1_b18
  replace V_b7 := V_b7.other W27 ne_b7_b18
  replace V_b18 := V_b18_
  clear V_b18_ W27 hin27 G27 Hs27 N27 S27 q27 Ar27
  replace N_ := Fr.snoc X27 N_ g_b18
  refine own_by (T' := T27) (g' := (mkF m 136 #[vI x1, vI x2, vI x3, vR b1, vR b7, vR b18, .unset, .unset, .unset, .unset, .unset, .unset, .unset, .unset] [])) (fun t k => st27 t k) ?_
  clear st27 X25 e25
  refine own_by (T' := T27) (g' := (mkF m 137 #[vI x1, vI x2, vI x3, vR b1, vR b7, vR b18, .unset, .unset, .unset, .unset, .unset, .unset, .unset, .unset] [(.int 5)])) (fun t k => XS.iconst X27.here hx rfl (hb hby at_136) k) ?_
  exact own_c137 l Z a0 hw hx hby hml hlk hret x1 x2 x3 m0 m1 m2 m3 h0 n0  b1 k1 c0 c1 c2 c3 c4 b7 k7 t1 t2 t3 t4 b18 k18 hZ hown (X27) e27 E_m2 S_NEXT_ONE_BASED E_m3 S_NEXTVAL E_m1 S_NEXT E_m0 S_PREFIX F_ordinal_m2 F_ordinal_m3 F_ordinal_m1 F_ordinal_m0 Zle N_ ne_m2_b1 ne_m3_b1 ne_m1_b1 ne_m0_b1 g_b1 V_b1 ne_m2_b7 ne_m3_b7 ne_m1_b7 ne_m0_b7 ne_b1_b7 g_b7 V_b7 ne_m2_b18 ne_m3_b18 ne_m1_b18 ne_m0_b18 ne_b1_b18 ne_b7_b18 g_b18 V_b18 e_c0 e_c1 e_c2 e_c3 e_c4 e_t1 HB1 hr1 e_t2 HB2 hr2 e_t3 HB3 hr3 e_t4 HB4 hr4
set_option maxRecDepth 65536 in
set_option maxHeartbeats 40000000 in
theorem own_c45 (l : Launch) (Z : State) (a0 : Array Value) (hw : ∀ d ∈ tables_1, d.before a0 Z = true) {p : Program} {e : Env} {s : State} {m : MethodId} {below : List Frame} {meth : Method} {c : Code} (hx : p.tables.exec = Jvm.exec) (hby : c.code = code) (hml : c.maxLocals = 14) (hlk : meth.locks = false) (hret : meth.sig.returnType = ret) (x1 : Int32) (x2 : Int32) (x3 : Int32) (m0 : Addr) (m1 : Addr) (m2 : Addr) (m3 : Addr) (h0 : Heap) (n0 : Nat) (b1 : Addr) (k1 : ClassId) (c0 : Int32) (c1 : Int32) (c2 : Int32) (c3 : Int32) (c4 : Int32) {Tj : State} {hj : Heap} {locsj : List Loc}
    (hZ : Z.Warmed39 s.vm) (hown : s.vm.findClass "com/example/emu/emu/TableFormFromPrefixPinLaw" = some m.cls) (Xj : Stand p l e room_1 s m #[(.int x1), (.int x2), (.int x3)] below meth c Tj locsj 1 5) (ej : Tj.heap = hj)
    (E_m2 : Exa Z hj m2 "com/example/emu/emu/TableForm") (S_NEXT_ONE_BASED : Sta Z hj "com/example/emu/emu/TableForm" "NEXT_ONE_BASED" "Lcom/example/emu/emu/TableForm;" (.ref m2)) (E_m3 : Exa Z hj m3 "com/example/emu/emu/TableForm") (S_NEXTVAL : Sta Z hj "com/example/emu/emu/TableForm" "NEXTVAL" "Lcom/example/emu/emu/TableForm;" (.ref m3)) (E_m1 : Exa Z hj m1 "com/example/emu/emu/TableForm") (S_NEXT : Sta Z hj "com/example/emu/emu/TableForm" "NEXT" "Lcom/example/emu/emu/TableForm;" (.ref m1)) (E_m0 : Exa Z hj m0 "com/example/emu/emu/TableForm") (S_PREFIX : Sta Z hj "com/example/emu/emu/TableForm" "PREFIX" "Lcom/example/emu/emu/TableForm;" (.ref m0)) (F_ordinal_m2 : Fld Z hj m2 "java/lang/Enum" "ordinal" "I" (.int 2)) (F_ordinal_m3 : Fld Z hj m3 "java/lang/Enum" "ordinal" "I" (.int 3)) (F_ordinal_m1 : Fld Z hj m1 "java/lang/Enum" "ordinal" "I" (.int 1)) (F_ordinal_m0 : Fld Z hj m0 "java/lang/Enum" "ordinal" "I" (.int 0)) (Zle : n0 ≤ hj.size) (N_ : Fr n0 locsj) (ne_m2_b1 : m2 ≠ b1) (ne_m3_b1 : m3 ≠ b1) (ne_m1_b1 : m1 ≠ b1) (ne_m0_b1 : m0 ≠ b1) (g_b1 : n0 ≤ b1) (V_b1 : Arv Z hj b1 k1 .int (5 : Int32) [(.int c0), (.int c1), (.int c2), (.int c3), (.int c4)] (.int 0)) (e_c0 : c0 = (x1 &&& (3 : Int32))) (e_c1 : c1 = (((x1.toUInt32 >>> ((2 : Int32) &&& 31).toUInt32).toInt32) &&& (3 : Int32))) (e_c2 : c2 = (((x1.toUInt32 >>> ((4 : Int32) &&& 31).toUInt32).toInt32) &&& (3 : Int32))) (e_c3 : c3 = (((x1.toUInt32 >>> ((6 : Int32) &&& 31).toUInt32).toInt32) &&& (3 : Int32))) (e_c4 : c4 = (((x1.toUInt32 >>> ((8 : Int32) &&& 31).toUInt32).toInt32) &&& (3 : Int32))) : own_Goes p.tables e below s (Q0 Z x1 x2 x3 m0 m1 m2 m3 h0 n0) room_1.cells room_1.slots Tj (mkF m 45 #[vI x1, vI x2, vI x3, vR b1, .unset, .unset, .unset, .unset, .unset, .unset, .unset, .unset, .unset, .unset] [(.int 5)]) := by
  obtain ⟨T7, h7, k7, X7, e7, E7, A7, st7⟩ := newP Xj hx hZ (hw _ (own_m 0 rfl)) ej (g := (mkF m 45 #[vI x1, vI x2, vI x3, vR b1, .unset, .unset, .unset, .unset, .unset, .unset, .unset, .unset, .unset, .unset] [(.int 5)])) rfl (hb hby at_45) rfl (by decide) (cap := 5) (by decide) (by decide) (by decide) (by decide)
  obtain ⟨b7, g7⟩ : ∃ z, z = hj.size := ⟨_, rfl⟩
  rw [← g7] at A7 st7
  have ne_m2_b7 : m2 ≠ b7 := Nat.ne_of_lt (Nat.lt_of_lt_of_eq E_m2.lt g7.symm)
  have ne_m3_b7 : m3 ≠ b7 := Nat.ne_of_lt (Nat.lt_of_lt_of_eq E_m3.lt g7.symm)
  have ne_m1_b7 : m1 ≠ b7 := Nat.ne_of_lt (Nat.lt_of_lt_of_eq E_m1.lt g7.symm)
  have ne_m0_b7 : m0 ≠ b7 := Nat.ne_of_lt (Nat.lt_of_lt_of_eq E_m0.lt g7.symm)
  have ne_b1_b7 : b1 ≠ b7 := Nat.ne_of_lt (Nat.lt_of_lt_of_eq V_b1.lt g7.symm)
  have g_b7 : n0 ≤ b7 := Nat.le_trans Zle (Nat.le_of_eq g7.symm)
  replace E_m2 := E_m2.ext E7
  replace S_NEXT_ONE_BASED := S_NEXT_ONE_BASED.ext E7
  replace E_m3 := E_m3.ext E7
  replace S_NEXTVAL := S_NEXTVAL.ext E7
  replace E_m1 := E_m1.ext E7
  replace S_NEXT := S_NEXT.ext E7
  replace E_m0 := E_m0.ext E7
  replace S_PREFIX := S_PREFIX.ext E7
  replace F_ordinal_m2 := F_ordinal_m2.ext E7
  replace F_ordinal_m3 := F_ordinal_m3.ext E7
  replace F_ordinal_m1 := F_ordinal_m1.ext E7
  replace F_ordinal_m0 := F_ordinal_m0.ext E7
  replace Zle := Nat.le_trans Zle E7.1
  replace V_b1 := V_b1.ext E7
  have V_b7 : Arv Z h7 b7 k7 .int (5 : Int32) [(.int 0), (.int 0), (.int 0), (.int 0), (.int 0)] (.int 0) := (Arv.new A7 (by decide)).pad (pad_rep [] (.int 0) 5)
  refine own_by (T' := T7) (g' := (mkF m 47 #[vI x1, vI x2, vI x3, vR b1, .unset, .unset, .unset, .unset, .unset, .unset, .unset, .unset, .unset, .unset] [(.ref b7)])) (fun t k => st7 t k) ?_
  clear st7
  refine own_by (T' := T7) (g' := (mkF m 49 #[vI x1, vI x2, vI x3, vR b1, vR b7, .unset, .unset, .unset, .unset, .unset, .unset, .unset, .unset, .unset] [])) (fun t k => XS.astore X7.here hx rfl (hb hby at_47) rfl rfl (l' := #[vI x1, vI x2, vI x3, vR b1, vR b7, .unset, .unset, .unset, .unset, .unset, .unset, .unset, .unset, .unset]) rfl k) ?_
  refine own_by (T' := T7) (g' := (mkF m 51 #[vI x1, vI x2, vI x3, vR b1, vR b7, .unset, .unset, .unset, .unset, .unset, .unset, .unset, .unset, .unset] [(.ref b7)])) (fun t k => XS.aload X7.here hx rfl (hb hby at_49) rfl rfl k) ?_
  refine own_by (T' := T7) (g' := (mkF m 52 #[vI x1, vI x2, vI x3, vR b1, vR b7, .unset, .unset, .unset, .unset, .unset, .unset, .unset, .unset, .unset] [(.int 0), (.ref b7)])) (fun t k => XS.iconst X7.here hx rfl (hb hby at_51) k) ?_
  refine own_by (T' := T7) (g' := (mkF m 53 #[vI x1, vI x2, vI x3, vR b1, vR b7, .unset, .unset, .unset, .unset, .unset, .unset, .unset, .unset, .unset] [(.ref b1), (.int 0), (.ref b7)])) (fun t k => XS.aloadN X7.here hx rfl (hb hby at_52) rfl rfl k) ?_
  refine own_by (T' := T7) (g' := (mkF m 54 #[vI x1, vI x2, vI x3, vR b1, vR b7, .unset, .unset, .unset, .unset, .unset, .unset, .unset, .unset, .unset] [(.int 0), (.ref b1), (.int 0), (.ref b7)])) (fun t k => XS.iconst X7.here hx rfl (hb hby at_53) k) ?_
  obtain ⟨_, _, ⟨T8, L8, k8, n8⟩, -, X8, ⟨Lc8, hQ8, l8, y8, z8⟩, st8⟩ := Jvm.LawKit.callS X7 hx (y := (⟨"com/example/emu/emu/TableFormFromPrefixPinLaw", "border", "([II)I"⟩ : MethodName)) hown (mvT hZ (hw _ (own_m 1 rfl))) (mvT hZ (hw _ (own_m 2 rfl))) (mvT hZ (hw _ (own_m 3 rfl))) (mvT hZ (hw _ (own_m 4 rfl))) (by decide) (backOf (W := 2) (rm1_0 l Z a0 hw [] b1 k1 c0 c1 c2 c3 c4 h7 n0 Zle V_b1) hZ (hw _ (own_m 4 rfl)) (hw _ (own_m 3 rfl)) (by decide) (by decide)) (g := (mkF m 54 #[vI x1, vI x2, vI x3, vR b1, vR b7, .unset, .unset, .unset, .unset, .unset, .unset, .unset, .unset, .unset] [(.int 0), (.ref b1), (.int 0), (.ref b7)])) rfl (by rw [hml]; rfl) (argsL := [(.ref b1), (.int 0)]) (rest := [(.int 0), (.ref b7)]) (lenOf pd_0 rfl) rfl (own_le rfl) (hb hby at_54) (fun _ _ => ⟨rfl, e7, (by decide : 2 + 0 ≤ _), (by decide : 10 + 0 ≤ _)⟩)
  dsimp only [Pt.U, Pt.locs, Pt.cells, Pt.slots] at X8 l8 y8 z8 st8 hQ8
  subst l8 y8 z8
  obtain ⟨rfl, Nq8, e8⟩ := hQ8
  replace N_ := Fr.app N_ Nq8
  clear Nq8
  refine own_by (T' := T8) (g' := (mkF m 57 #[vI x1, vI x2, vI x3, vR b1, vR b7, .unset, .unset, .unset, .unset, .unset, .unset, .unset, .unset, .unset] [(.int (own_bd0 c0 c1 c2 c3 c4)), (.int 0), (.ref b7)])) (fun t k => st8 _ k) ?_
  clear st8 X7 e7
  rw [show (own_bd0 c0 c1 c2 c3 c4) = (0 : Int32) from rfl]
  obtain ⟨cl9, Ar9, q9, S9, N9, Hs9, G9⟩ := id V_b7
  have hin9 : ¬ ((0 : Int32) < 0 ∨ cl9.slots.size ≤ ((0 : Int32)).toNatClampNeg) := inb_of S9 ⟨by decide, by decide⟩
  obtain ⟨T9, h9, X9, e9, W9, st9⟩ := stI X8 hx hZ e8 Ar9 (j := (0 : Int32)) hin9 (g := (mkF m 57 #[vI x1, vI x2, vI x3, vR b1, vR b7, .unset, .unset, .unset, .unset, .unset, .unset, .unset, .unset, .unset] [(.int 0), (.int 0), (.ref b7)])) rfl rfl (hb hby at_57)
  have V_b7_ : Arv Z h9 b7 k7 .int (5 : Int32) [(.int 0), (.int 0), (.int 0), (.int 0), (.int 0)] (.int 0) := Arv.set Ar9 q9 S9 N9 Hs9 G9 rfl W9 0 rfl (Nat.le_of_ble_eq_true rfl)
  replace E_m2 := E_m2.wr W9
  replace S_NEXT_ONE_BASED := S_NEXT_ONE_BASED.wr W9
  replace E_m3 := E_m3.wr W9
  replace S_NEXTVAL := S_NEXTVAL.wr W9
  replace E_m1 := E_m1.wr W9
  replace S_NEXT := S_NEXT.wr W9
  replace E_m0 := E_m0.wr W9
  replace S_PREFIX := S_PREFIX.wr W9
  replace F_ordinal_m2 := F_ordinal_m2.other W9 (Or.inl ne_m2_b7)
  replace F_ordinal_m3 := F_ordinal_m3.other W9 (Or.inl ne_m3_b7)
  replace F_ordinal_m1 := F_ordinal_m1.other W9 (Or.inl ne_m1_b7)
  replace F_ordinal_m0 := F_ordinal_m0.other W9 (Or.inl ne_m0_b7)
  replace Zle := Nat.le_trans Zle (Keep.of_wr W9).1
  replace V_b1 := V_b1.other W9 ne_b1_b7
  replace V_b7 := V_b7_
  clear V_b7_ W9 hin9 G9 Hs9 N9 S9 q9 Ar9
  replace N_ := Fr.snoc X9 N_ g_b7
  refine own_by (T' := T9) (g' := (mkF m 58 #[vI x1, vI x2, vI x3, vR b1, vR b7, .unset, .unset, .unset, .unset, .unset, .unset, .unset, .unset, .unset] [])) (fun t k => st9 t k) ?_
  clear st9 X8 e8
  refine own_by (T' := T9) (g' := (mkF m 60 #[vI x1, vI x2, vI x3, vR b1, vR b7, .unset, .unset, .unset, .unset, .unset, .unset, .unset, .unset, .unset] [(.ref b7)])) (fun t k => XS.aload X9.here hx rfl (hb hby at_58) rfl rfl k) ?_
  refine own_by (T' := T9) (g' := (mkF m 61 #[vI x1, vI x2, vI x3, vR b1, vR b7, .unset, .unset, .unset, .unset, .unset, .unset, .unset, .unset, .unset] [(.int 1), (.ref b7)])) (fun t k => XS.iconst X9.here hx rfl (hb hby at_60) k) ?_
  refine own_by (T' := T9) (g' := (mkF m 62 #[vI x1, vI x2, vI x3, vR b1, vR b7, .unset, .unset, .unset, .unset, .unset, .unset, .unset, .unset, .unset] [(.ref b1), (.int 1), (.ref b7)])) (fun t k => XS.aloadN X9.here hx rfl (hb hby at_61) rfl rfl k) ?_
  refine own_by (T' := T9) (g' := (mkF m 63 #[vI x1, vI x2, vI x3, vR b1, vR b7, .unset, .unset, .unset, .unset, .unset, .unset, .unset, .unset, .unset] [(.int 1), (.ref b1), (.int 1), (.ref b7)])) (fun t k => XS.iconst X9.here hx rfl (hb hby at_62) k) ?_
  obtain ⟨_, _, ⟨T10, L10, k10, n10⟩, -, X10, ⟨Lc10, hQ10, l10, y10, z10⟩, st10⟩ := Jvm.LawKit.callS X9 hx (y := (⟨"com/example/emu/emu/TableFormFromPrefixPinLaw", "border", "([II)I"⟩ : MethodName)) hown (mvT hZ (hw _ (own_m 1 rfl))) (mvT hZ (hw _ (own_m 2 rfl))) (mvT hZ (hw _ (own_m 3 rfl))) (mvT hZ (hw _ (own_m 4 rfl))) (by decide) (backOf (W := 2) (rm1_1 l Z a0 hw [] b1 k1 c0 c1 c2 c3 c4 h9 n0 Zle V_b1) hZ (hw _ (own_m 4 rfl)) (hw _ (own_m 3 rfl)) (by decide) (by decide)) (g := (mkF m 63 #[vI x1, vI x2, vI x3, vR b1, vR b7, .unset, .unset, .unset, .unset, .unset, .unset, .unset, .unset, .unset] [(.int 1), (.ref b1), (.int 1), (.ref b7)])) rfl (by rw [hml]; rfl) (argsL := [(.ref b1), (.int 1)]) (rest := [(.int 1), (.ref b7)]) (lenOf pd_0 rfl) rfl (own_le rfl) (hb hby at_63) (fun _ _ => ⟨rfl, e9, (by decide : 2 + 0 ≤ _), (by decide : 10 + 0 ≤ _)⟩)
  dsimp only [Pt.U, Pt.locs, Pt.cells, Pt.slots] at X10 l10 y10 z10 st10 hQ10
  subst l10 y10 z10
  obtain ⟨rfl, Nq10, e10⟩ := hQ10
  replace N_ := Fr.app N_ Nq10
  clear Nq10
  refine own_by (T' := T10) (g' := (mkF m 66 #[vI x1, vI x2, vI x3, vR b1, vR b7, .unset, .unset, .unset, .unset, .unset, .unset, .unset, .unset, .unset] [(.int (own_bd1 c0 c1 c2 c3 c4)), (.int 1), (.ref b7)])) (fun t k => st10 _ k) ?_
  clear st10 X9 e9
  obtain ⟨t1, e_t1⟩ : ∃ z : Int32, z = (own_bd1 c0 c1 c2 c3 c4) := ⟨_, rfl⟩
  rw [← e_t1]
  have HB1 := own_hasB1 c0 c1 c2 c3 c4
  rw [← e_t1] at HB1
  have hr1 := own_rg1 HB1
  obtain ⟨cl11, Ar11, q11, S11, N11, Hs11, G11⟩ := id V_b7
  have hin11 : ¬ ((1 : Int32) < 0 ∨ cl11.slots.size ≤ ((1 : Int32)).toNatClampNeg) := inb_of S11 ⟨by decide, by decide⟩
  obtain ⟨T11, h11, X11, e11, W11, st11⟩ := stI X10 hx hZ e10 Ar11 (j := (1 : Int32)) hin11 (g := (mkF m 66 #[vI x1, vI x2, vI x3, vR b1, vR b7, .unset, .unset, .unset, .unset, .unset, .unset, .unset, .unset, .unset] [(.int t1), (.int 1), (.ref b7)])) rfl rfl (hb hby at_66)
  have V_b7_ : Arv Z h11 b7 k7 .int (5 : Int32) [(.int 0), (.int t1), (.int 0), (.int 0), (.int 0)] (.int 0) := Arv.set Ar11 q11 S11 N11 Hs11 G11 rfl W11 1 rfl (Nat.le_of_ble_eq_true rfl)
  replace E_m2 := E_m2.wr W11
  replace S_NEXT_ONE_BASED := S_NEXT_ONE_BASED.wr W11
  replace E_m3 := E_m3.wr W11
  replace S_NEXTVAL := S_NEXTVAL.wr W11
  replace E_m1 := E_m1.wr W11
  replace S_NEXT := S_NEXT.wr W11
  replace E_m0 := E_m0.wr W11
  replace S_PREFIX := S_PREFIX.wr W11
  replace F_ordinal_m2 := F_ordinal_m2.other W11 (Or.inl ne_m2_b7)
  replace F_ordinal_m3 := F_ordinal_m3.other W11 (Or.inl ne_m3_b7)
  replace F_ordinal_m1 := F_ordinal_m1.other W11 (Or.inl ne_m1_b7)
  replace F_ordinal_m0 := F_ordinal_m0.other W11 (Or.inl ne_m0_b7)
  replace Zle := Nat.le_trans Zle (Keep.of_wr W11).1
  replace V_b1 := V_b1.other W11 ne_b1_b7
  replace V_b7 := V_b7_
  clear V_b7_ W11 hin11 G11 Hs11 N11 S11 q11 Ar11
  replace N_ := Fr.snoc X11 N_ g_b7
  refine own_by (T' := T11) (g' := (mkF m 67 #[vI x1, vI x2, vI x3, vR b1, vR b7, .unset, .unset, .unset, .unset, .unset, .unset, .unset, .unset, .unset] [])) (fun t k => st11 t k) ?_
  clear st11 X10 e10
  refine own_by (T' := T11) (g' := (mkF m 69 #[vI x1, vI x2, vI x3, vR b1, vR b7, .unset, .unset, .unset, .unset, .unset, .unset, .unset, .unset, .unset] [(.ref b7)])) (fun t k => XS.aload X11.here hx rfl (hb hby at_67) rfl rfl k) ?_
  refine own_by (T' := T11) (g' := (mkF m 70 #[vI x1, vI x2, vI x3, vR b1, vR b7, .unset, .unset, .unset, .unset, .unset, .unset, .unset, .unset, .unset] [(.int 2), (.ref b7)])) (fun t k => XS.iconst X11.here hx rfl (hb hby at_69) k) ?_
  refine own_by (T' := T11) (g' := (mkF m 71 #[vI x1, vI x2, vI x3, vR b1, vR b7, .unset, .unset, .unset, .unset, .unset, .unset, .unset, .unset, .unset] [(.ref b1), (.int 2), (.ref b7)])) (fun t k => XS.aloadN X11.here hx rfl (hb hby at_70) rfl rfl k) ?_
  refine own_by (T' := T11) (g' := (mkF m 72 #[vI x1, vI x2, vI x3, vR b1, vR b7, .unset, .unset, .unset, .unset, .unset, .unset, .unset, .unset, .unset] [(.int 2), (.ref b1), (.int 2), (.ref b7)])) (fun t k => XS.iconst X11.here hx rfl (hb hby at_71) k) ?_
  obtain ⟨_, _, ⟨T12, L12, k12, n12⟩, -, X12, ⟨Lc12, hQ12, l12, y12, z12⟩, st12⟩ := Jvm.LawKit.callS X11 hx (y := (⟨"com/example/emu/emu/TableFormFromPrefixPinLaw", "border", "([II)I"⟩ : MethodName)) hown (mvT hZ (hw _ (own_m 1 rfl))) (mvT hZ (hw _ (own_m 2 rfl))) (mvT hZ (hw _ (own_m 3 rfl))) (mvT hZ (hw _ (own_m 4 rfl))) (by decide) (backOf (W := 2) (rm1_2 l Z a0 hw [] b1 k1 c0 c1 c2 c3 c4 h11 n0 Zle V_b1) hZ (hw _ (own_m 4 rfl)) (hw _ (own_m 3 rfl)) (by decide) (by decide)) (g := (mkF m 72 #[vI x1, vI x2, vI x3, vR b1, vR b7, .unset, .unset, .unset, .unset, .unset, .unset, .unset, .unset, .unset] [(.int 2), (.ref b1), (.int 2), (.ref b7)])) rfl (by rw [hml]; rfl) (argsL := [(.ref b1), (.int 2)]) (rest := [(.int 2), (.ref b7)]) (lenOf pd_0 rfl) rfl (own_le rfl) (hb hby at_72) (fun _ _ => ⟨rfl, e11, (by decide : 2 + 0 ≤ _), (by decide : 10 + 0 ≤ _)⟩)
  dsimp only [Pt.U, Pt.locs, Pt.cells, Pt.slots] at X12 l12 y12 z12 st12 hQ12
  subst l12 y12 z12
  obtain ⟨rfl, Nq12, e12⟩ := hQ12
  replace N_ := Fr.app N_ Nq12
  clear Nq12
  refine own_by (T' := T12) (g' := (mkF m 75 #[vI x1, vI x2, vI x3, vR b1, vR b7, .unset, .unset, .unset, .unset, .unset, .unset, .unset, .unset, .unset] [(.int (own_bd2 c0 c1 c2 c3 c4)), (.int 2), (.ref b7)])) (fun t k => st12 _ k) ?_
  clear st12 X11 e11
  obtain ⟨t2, e_t2⟩ : ∃ z : Int32, z = (own_bd2 c0 c1 c2 c3 c4) := ⟨_, rfl⟩
  rw [← e_t2]
  have HB2 := own_hasB2 c0 c1 c2 c3 c4
  rw [← e_t2] at HB2
  have hr2 := own_rg2 HB2
  obtain ⟨cl13, Ar13, q13, S13, N13, Hs13, G13⟩ := id V_b7
  have hin13 : ¬ ((2 : Int32) < 0 ∨ cl13.slots.size ≤ ((2 : Int32)).toNatClampNeg) := inb_of S13 ⟨by decide, by decide⟩
  obtain ⟨T13, h13, X13, e13, W13, st13⟩ := stI X12 hx hZ e12 Ar13 (j := (2 : Int32)) hin13 (g := (mkF m 75 #[vI x1, vI x2, vI x3, vR b1, vR b7, .unset, .unset, .unset, .unset, .unset, .unset, .unset, .unset, .unset] [(.int t2), (.int 2), (.ref b7)])) rfl rfl (hb hby at_75)
  have V_b7_ : Arv Z h13 b7 k7 .int (5 : Int32) [(.int 0), (.int t1), (.int t2), (.int 0), (.int 0)] (.int 0) := Arv.set Ar13 q13 S13 N13 Hs13 G13 rfl W13 2 rfl (Nat.le_of_ble_eq_true rfl)
  replace E_m2 := E_m2.wr W13
  replace S_NEXT_ONE_BASED := S_NEXT_ONE_BASED.wr W13
  replace E_m3 := E_m3.wr W13
  replace S_NEXTVAL := S_NEXTVAL.wr W13
  replace E_m1 := E_m1.wr W13
  replace S_NEXT := S_NEXT.wr W13
  replace E_m0 := E_m0.wr W13
  replace S_PREFIX := S_PREFIX.wr W13
  replace F_ordinal_m2 := F_ordinal_m2.other W13 (Or.inl ne_m2_b7)
  replace F_ordinal_m3 := F_ordinal_m3.other W13 (Or.inl ne_m3_b7)
  replace F_ordinal_m1 := F_ordinal_m1.other W13 (Or.inl ne_m1_b7)
  replace F_ordinal_m0 := F_ordinal_m0.other W13 (Or.inl ne_m0_b7)
  replace Zle := Nat.le_trans Zle (Keep.of_wr W13).1
  replace V_b1 := V_b1.other W13 ne_b1_b7
  replace V_b7 := V_b7_
  clear V_b7_ W13 hin13 G13 Hs13 N13 S13 q13 Ar13
  replace N_ := Fr.snoc X13 N_ g_b7
  refine own_by (T' := T13) (g' := (mkF m 76 #[vI x1, vI x2, vI x3, vR b1, vR b7, .unset, .unset, .unset, .unset, .unset, .unset, .unset, .unset, .unset] [])) (fun t k => st13 t k) ?_
  clear st13 X12 e12
  refine own_by (T' := T13) (g' := (mkF m 78 #[vI x1, vI x2, vI x3, vR b1, vR b7, .unset, .unset, .unset, .unset, .unset, .unset, .unset, .unset, .unset] [(.ref b7)])) (fun t k => XS.aload X13.here hx rfl (hb hby at_76) rfl rfl k) ?_
  refine own_by (T' := T13) (g' := (mkF m 79 #[vI x1, vI x2, vI x3, vR b1, vR b7, .unset, .unset, .unset, .unset, .unset, .unset, .unset, .unset, .unset] [(.int 3), (.ref b7)])) (fun t k => XS.iconst X13.here hx rfl (hb hby at_78) k) ?_
  refine own_by (T' := T13) (g' := (mkF m 80 #[vI x1, vI x2, vI x3, vR b1, vR b7, .unset, .unset, .unset, .unset, .unset, .unset, .unset, .unset, .unset] [(.ref b1), (.int 3), (.ref b7)])) (fun t k => XS.aloadN X13.here hx rfl (hb hby at_79) rfl rfl k) ?_
  refine own_by (T' := T13) (g' := (mkF m 81 #[vI x1, vI x2, vI x3, vR b1, vR b7, .unset, .unset, .unset, .unset, .unset, .unset, .unset, .unset, .unset] [(.int 3), (.ref b1), (.int 3), (.ref b7)])) (fun t k => XS.iconst X13.here hx rfl (hb hby at_80) k) ?_
  obtain ⟨_, _, ⟨T14, L14, k14, n14⟩, -, X14, ⟨Lc14, hQ14, l14, y14, z14⟩, st14⟩ := Jvm.LawKit.callS X13 hx (y := (⟨"com/example/emu/emu/TableFormFromPrefixPinLaw", "border", "([II)I"⟩ : MethodName)) hown (mvT hZ (hw _ (own_m 1 rfl))) (mvT hZ (hw _ (own_m 2 rfl))) (mvT hZ (hw _ (own_m 3 rfl))) (mvT hZ (hw _ (own_m 4 rfl))) (by decide) (backOf (W := 2) (rm1_3 l Z a0 hw [] b1 k1 c0 c1 c2 c3 c4 h13 n0 Zle V_b1) hZ (hw _ (own_m 4 rfl)) (hw _ (own_m 3 rfl)) (by decide) (by decide)) (g := (mkF m 81 #[vI x1, vI x2, vI x3, vR b1, vR b7, .unset, .unset, .unset, .unset, .unset, .unset, .unset, .unset, .unset] [(.int 3), (.ref b1), (.int 3), (.ref b7)])) rfl (by rw [hml]; rfl) (argsL := [(.ref b1), (.int 3)]) (rest := [(.int 3), (.ref b7)]) (lenOf pd_0 rfl) rfl (own_le rfl) (hb hby at_81) (fun _ _ => ⟨rfl, e13, (by decide : 2 + 0 ≤ _), (by decide : 10 + 0 ≤ _)⟩)
  dsimp only [Pt.U, Pt.locs, Pt.cells, Pt.slots] at X14 l14 y14 z14 st14 hQ14
  subst l14 y14 z14
  obtain ⟨rfl, Nq14, e14⟩ := hQ14
  replace N_ := Fr.app N_ Nq14
  clear Nq14
  refine own_by (T' := T14) (g' := (mkF m 84 #[vI x1, vI x2, vI x3, vR b1, vR b7, .unset, .unset, .unset, .unset, .unset, .unset, .unset, .unset, .unset] [(.int (own_bd3 c0 c1 c2 c3 c4)), (.int 3), (.ref b7)])) (fun t k => st14 _ k) ?_
  clear st14 X13 e13
  obtain ⟨t3, e_t3⟩ : ∃ z : Int32, z = (own_bd3 c0 c1 c2 c3 c4) := ⟨_, rfl⟩
  rw [← e_t3]
  have HB3 := own_hasB3 c0 c1 c2 c3 c4
  rw [← e_t3] at HB3
  have hr3 := own_rg3 HB3
  obtain ⟨cl15, Ar15, q15, S15, N15, Hs15, G15⟩ := id V_b7
  have hin15 : ¬ ((3 : Int32) < 0 ∨ cl15.slots.size ≤ ((3 : Int32)).toNatClampNeg) := inb_of S15 ⟨by decide, by decide⟩
  obtain ⟨T15, h15, X15, e15, W15, st15⟩ := stI X14 hx hZ e14 Ar15 (j := (3 : Int32)) hin15 (g := (mkF m 84 #[vI x1, vI x2, vI x3, vR b1, vR b7, .unset, .unset, .unset, .unset, .unset, .unset, .unset, .unset, .unset] [(.int t3), (.int 3), (.ref b7)])) rfl rfl (hb hby at_84)
  have V_b7_ : Arv Z h15 b7 k7 .int (5 : Int32) [(.int 0), (.int t1), (.int t2), (.int t3), (.int 0)] (.int 0) := Arv.set Ar15 q15 S15 N15 Hs15 G15 rfl W15 3 rfl (Nat.le_of_ble_eq_true rfl)
  replace E_m2 := E_m2.wr W15
  replace S_NEXT_ONE_BASED := S_NEXT_ONE_BASED.wr W15
  replace E_m3 := E_m3.wr W15
  replace S_NEXTVAL := S_NEXTVAL.wr W15
  replace E_m1 := E_m1.wr W15
  replace S_NEXT := S_NEXT.wr W15
  replace E_m0 := E_m0.wr W15
  replace S_PREFIX := S_PREFIX.wr W15
  replace F_ordinal_m2 := F_ordinal_m2.other W15 (Or.inl ne_m2_b7)
  replace F_ordinal_m3 := F_ordinal_m3.other W15 (Or.inl ne_m3_b7)
  replace F_ordinal_m1 := F_ordinal_m1.other W15 (Or.inl ne_m1_b7)
  replace F_ordinal_m0 := F_ordinal_m0.other W15 (Or.inl ne_m0_b7)
  replace Zle := Nat.le_trans Zle (Keep.of_wr W15).1
  replace V_b1 := V_b1.other W15 ne_b1_b7
  replace V_b7 := V_b7_
  clear V_b7_ W15 hin15 G15 Hs15 N15 S15 q15 Ar15
  replace N_ := Fr.snoc X15 N_ g_b7
  refine own_by (T' := T15) (g' := (mkF m 85 #[vI x1, vI x2, vI x3, vR b1, vR b7, .unset, .unset, .unset, .unset, .unset, .unset, .unset, .unset, .unset] [])) (fun t k => st15 t k) ?_
  clear st15 X14 e14
  refine own_by (T' := T15) (g' := (mkF m 87 #[vI x1, vI x2, vI x3, vR b1, vR b7, .unset, .unset, .unset, .unset, .unset, .unset, .unset, .unset, .unset] [(.ref b7)])) (fun t k => XS.aload X15.here hx rfl (hb hby at_85) rfl rfl k) ?_
  refine own_by (T' := T15) (g' := (mkF m 88 #[vI x1, vI x2, vI x3, vR b1, vR b7, .unset, .unset, .unset, .unset, .unset, .unset, .unset, .unset, .unset] [(.int 4), (.ref b7)])) (fun t k => XS.iconst X15.here hx rfl (hb hby at_87) k) ?_
  refine own_by (T' := T15) (g' := (mkF m 89 #[vI x1, vI x2, vI x3, vR b1, vR b7, .unset, .unset, .unset, .unset, .unset, .unset, .unset, .unset, .unset] [(.ref b1), (.int 4), (.ref b7)])) (fun t k => XS.aloadN X15.here hx rfl (hb hby at_88) rfl rfl k) ?_
  refine own_by (T' := T15) (g' := (mkF m 90 #[vI x1, vI x2, vI x3, vR b1, vR b7, .unset, .unset, .unset, .unset, .unset, .unset, .unset, .unset, .unset] [(.int 4), (.ref b1), (.int 4), (.ref b7)])) (fun t k => XS.iconst X15.here hx rfl (hb hby at_89) k) ?_
  obtain ⟨_, _, ⟨T16, L16, k16, n16⟩, -, X16, ⟨Lc16, hQ16, l16, y16, z16⟩, st16⟩ := Jvm.LawKit.callS X15 hx (y := (⟨"com/example/emu/emu/TableFormFromPrefixPinLaw", "border", "([II)I"⟩ : MethodName)) hown (mvT hZ (hw _ (own_m 1 rfl))) (mvT hZ (hw _ (own_m 2 rfl))) (mvT hZ (hw _ (own_m 3 rfl))) (mvT hZ (hw _ (own_m 4 rfl))) (by decide) (backOf (W := 2) (rm1_4 l Z a0 hw [] b1 k1 c0 c1 c2 c3 c4 h15 n0 Zle V_b1) hZ (hw _ (own_m 4 rfl)) (hw _ (own_m 3 rfl)) (by decide) (by decide)) (g := (mkF m 90 #[vI x1, vI x2, vI x3, vR b1, vR b7, .unset, .unset, .unset, .unset, .unset, .unset, .unset, .unset, .unset] [(.int 4), (.ref b1), (.int 4), (.ref b7)])) rfl (by rw [hml]; rfl) (argsL := [(.ref b1), (.int 4)]) (rest := [(.int 4), (.ref b7)]) (lenOf pd_0 rfl) rfl (own_le rfl) (hb hby at_90) (fun _ _ => ⟨rfl, e15, (by decide : 2 + 0 ≤ _), (by decide : 10 + 0 ≤ _)⟩)
  dsimp only [Pt.U, Pt.locs, Pt.cells, Pt.slots] at X16 l16 y16 z16 st16 hQ16
  subst l16 y16 z16
  obtain ⟨rfl, Nq16, e16⟩ := hQ16
  replace N_ := Fr.app N_ Nq16
  clear Nq16
  refine own_by (T' := T16) (g' := (mkF m 93 #[vI x1, vI x2, vI x3, vR b1, vR b7, .unset, .unset, .unset, .unset, .unset, .unset, .unset, .unset, .unset] [(.int (own_bd4 c0 c1 c2 c3 c4)), (.int 4), (.ref b7)])) (fun t k => st16 _ k) ?_
  clear st16 X15 e15
  obtain ⟨t4, e_t4⟩ : ∃ z : Int32, z = (own_bd4 c0 c1 c2 c3 c4) := ⟨_, rfl⟩
  rw [← e_t4]
  have HB4 := own_hasB4 c0 c1 c2 c3 c4
  rw [← e_t4] at HB4
  have hr4 := own_rg4 HB4
  obtain ⟨cl17, Ar17, q17, S17, N17, Hs17, G17⟩ := id V_b7
  have hin17 : ¬ ((4 : Int32) < 0 ∨ cl17.slots.size ≤ ((4 : Int32)).toNatClampNeg) := inb_of S17 ⟨by decide, by decide⟩
  obtain ⟨T17, h17, X17, e17, W17, st17⟩ := stI X16 hx hZ e16 Ar17 (j := (4 : Int32)) hin17 (g := (mkF m 93 #[vI x1, vI x2, vI x3, vR b1, vR b7, .unset, .unset, .unset, .unset, .unset, .unset, .unset, .unset, .unset] [(.int t4), (.int 4), (.ref b7)])) rfl rfl (hb hby at_93)
  have V_b7_ : Arv Z h17 b7 k7 .int (5 : Int32) [(.int 0), (.int t1), (.int t2), (.int t3), (.int t4)] (.int 0) := Arv.set Ar17 q17 S17 N17 Hs17 G17 rfl W17 4 rfl (Nat.le_of_ble_eq_true rfl)
  replace E_m2 := E_m2.wr W17
  replace S_NEXT_ONE_BASED := S_NEXT_ONE_BASED.wr W17
  replace E_m3 := E_m3.wr W17
  replace S_NEXTVAL := S_NEXTVAL.wr W17
  replace E_m1 := E_m1.wr W17
  replace S_NEXT := S_NEXT.wr W17
  replace E_m0 := E_m0.wr W17
  replace S_PREFIX := S_PREFIX.wr W17
  replace F_ordinal_m2 := F_ordinal_m2.other W17 (Or.inl ne_m2_b7)
  replace F_ordinal_m3 := F_ordinal_m3.other W17 (Or.inl ne_m3_b7)
  replace F_ordinal_m1 := F_ordinal_m1.other W17 (Or.inl ne_m1_b7)
  replace F_ordinal_m0 := F_ordinal_m0.other W17 (Or.inl ne_m0_b7)
  replace Zle := Nat.le_trans Zle (Keep.of_wr W17).1
  replace V_b1 := V_b1.other W17 ne_b1_b7
  replace V_b7 := V_b7_
  clear V_b7_ W17 hin17 G17 Hs17 N17 S17 q17 Ar17
  replace N_ := Fr.snoc X17 N_ g_b7
  refine own_by (T' := T17) (g' := (mkF m 94 #[vI x1, vI x2, vI x3, vR b1, vR b7, .unset, .unset, .unset, .unset, .unset, .unset, .unset, .unset, .unset] [])) (fun t k => st17 t k) ?_
  clear st17 X16 e16
  refine own_by (T' := T17) (g' := (mkF m 95 #[vI x1, vI x2, vI x3, vR b1, vR b7, .unset, .unset, .unset, .unset, .unset, .unset, .unset, .unset, .unset] [(.int 5)])) (fun t k => XS.iconst X17.here hx rfl (hb hby at_94) k) ?_
  exact own_c95 l Z a0 hw hx hby hml hlk hret x1 x2 x3 m0 m1 m2 m3 h0 n0  b1 k1 c0 c1 c2 c3 c4 b7 k7 t1 t2 t3 t4 hZ hown (X17) e17 E_m2 S_NEXT_ONE_BASED E_m3 S_NEXTVAL E_m1 S_NEXT E_m0 S_PREFIX F_ordinal_m2 F_ordinal_m3 F_ordinal_m1 F_ordinal_m0 Zle N_ ne_m2_b1 ne_m3_b1 ne_m1_b1 ne_m0_b1 g_b1 V_b1 ne_m2_b7 ne_m3_b7 ne_m1_b7 ne_m0_b7 ne_b1_b7 g_b7 V_b7 e_c0 e_c1 e_c2 e_c3 e_c4 e_t1 HB1 hr1 e_t2 HB2 hr2 e_t3 HB3 hr3 e_t4 HB4 hr4
set_option maxRecDepth 65536 in
set_option maxHeartbeats 40000000 in
theorem rm0 (l : Launch) (Z : State) (a0 : Array Value) (hw : ∀ d ∈ tables_1, d.before a0 Z = true) (ws : List Jvm.Cond) (x1 : Int32) (x2 : Int32) (x3 : Int32) (m0 : Addr) (m1 : Addr) (m2 : Addr) (m3 : Addr) (h0 : Heap) (n0 : Nat) (Zle : n0 ≤ h0.size) (E_m2 : Exa Z h0 m2 "com/example/emu/emu/TableForm") (S_NEXT_ONE_BASED : Sta Z h0 "com/example/emu/emu/TableForm" "NEXT_ONE_BASED" "Lcom/example/emu/emu/TableForm;" (.ref m2)) (E_m3 : Exa Z h0 m3 "com/example/emu/emu/TableForm") (S_NEXTVAL : Sta Z h0 "com/example/emu/emu/TableForm" "NEXTVAL" "Lcom/example/emu/emu/TableForm;" (.ref m3)) (E_m1 : Exa Z h0 m1 "com/example/emu/emu/TableForm") (S_NEXT : Sta Z h0 "com/example/emu/emu/TableForm" "NEXT" "Lcom/example/emu/emu/TableForm;" (.ref m1)) (E_m0 : Exa Z h0 m0 "com/example/emu/emu/TableForm") (S_PREFIX : Sta Z h0 "com/example/emu/emu/TableForm" "PREFIX" "Lcom/example/emu/emu/TableForm;" (.ref m0)) (F_ordinal_m2 : Fld Z h0 m2 "java/lang/Enum" "ordinal" "I" (.int 2)) (F_ordinal_m3 : Fld Z h0 m3 "java/lang/Enum" "ordinal" "I" (.int 3)) (F_ordinal_m1 : Fld Z h0 m1 "java/lang/Enum" "ordinal" "I" (.int 1)) (F_ordinal_m0 : Fld Z h0 m0 "java/lang/Enum" "ordinal" "I" (.int 0)) :
    MetFree l x (head1 (Jvm.Cond.code x code maxLocals ret :: ws) room_1) (fun a U => a = #[(.int x1), (.int x2), (.int x3)] ∧ Z.Warmed39 U.vm ∧ U.heap = h0) (fun _ _ _ _ _ => True) (fun _ U o U' => ∃ v L, o = .returned v ∧ Q0 Z x1 x2 x3 m0 m1 m2 m3 h0 n0 v U'.heap L ∧ FrameEnd U o U' L room_1.cells room_1.slots) := by
  refine MetFree.of_bodySF (plainFor_of_name pn_com_example_emu_emu_TableFormFromPrefixPinLaw) hisR ?_
  intro p e s m args below meth c s₁ Bd hml0 hP hK
  obtain ⟨rfl, hZ, hh⟩ := hP
  have hx := Bd.exec
  have hby := Bd.bytes
  have hml : c.maxLocals = 14 := hml0
  have hown : s.vm.findClass "com/example/emu/emu/TableFormFromPrefixPinLaw" = some m.cls := findClass_of_methodNamed Bd.named
  have hnm := (name_of_methodNamed Bd.named Bd.method).1
  have X0 : Stand p l e room_1 s m #[(.int x1), (.int x2), (.int x3)] below meth c s₁ [] 0 0 := Stand.of_body Bd
  have e0 : s₁.heap = h0 := by rw [← hh, Bd.state]; rfl
  have N_ := Fr.nil n0
  show own_Goes p.tables e below s (Q0 Z x1 x2 x3 m0 m1 m2 m3 h0 n0) room_1.cells room_1.slots s₁ (entryFrame m #[(.int x1), (.int x2), (.int x3)] maxLocals)
  refine own_by (T' := s₁) (g' := (mkF m 0 #[vI x1, vI x2, vI x3, .unset, .unset, .unset, .unset, .unset, .unset, .unset, .unset, .unset, .unset, .unset] [])) (fun t k => castTop (ef_0 m x1 x2 x3) k) ?_
  refine own_by (T' := s₁) (g' := (mkF m 1 #[vI x1, vI x2, vI x3, .unset, .unset, .unset, .unset, .unset, .unset, .unset, .unset, .unset, .unset, .unset] [(.int 5)])) (fun t k => XS.iconst X0.here hx rfl (hb hby at_0) k) ?_
  obtain ⟨T1, h1, k1, X1, e1, E1, A1, st1⟩ := newP X0 hx hZ (hw _ (own_m 0 rfl)) e0 (g := (mkF m 1 #[vI x1, vI x2, vI x3, .unset, .unset, .unset, .unset, .unset, .unset, .unset, .unset, .unset, .unset, .unset] [(.int 5)])) rfl (hb hby at_1) rfl (by decide) (cap := 5) (by decide) (by decide) (by decide) (by decide)
  obtain ⟨b1, g1⟩ : ∃ z, z = h0.size := ⟨_, rfl⟩
  rw [← g1] at A1 st1
  have ne_m2_b1 : m2 ≠ b1 := Nat.ne_of_lt (Nat.lt_of_lt_of_eq E_m2.lt g1.symm)
  have ne_m3_b1 : m3 ≠ b1 := Nat.ne_of_lt (Nat.lt_of_lt_of_eq E_m3.lt g1.symm)
  have ne_m1_b1 : m1 ≠ b1 := Nat.ne_of_lt (Nat.lt_of_lt_of_eq E_m1.lt g1.symm)
  have ne_m0_b1 : m0 ≠ b1 := Nat.ne_of_lt (Nat.lt_of_lt_of_eq E_m0.lt g1.symm)
  have g_b1 : n0 ≤ b1 := Nat.le_trans Zle (Nat.le_of_eq g1.symm)
  replace E_m2 := E_m2.ext E1
  replace S_NEXT_ONE_BASED := S_NEXT_ONE_BASED.ext E1
  replace E_m3 := E_m3.ext E1
  replace S_NEXTVAL := S_NEXTVAL.ext E1
  replace E_m1 := E_m1.ext E1
  replace S_NEXT := S_NEXT.ext E1
  replace E_m0 := E_m0.ext E1
  replace S_PREFIX := S_PREFIX.ext E1
  replace F_ordinal_m2 := F_ordinal_m2.ext E1
  replace F_ordinal_m3 := F_ordinal_m3.ext E1
  replace F_ordinal_m1 := F_ordinal_m1.ext E1
  replace F_ordinal_m0 := F_ordinal_m0.ext E1
  replace Zle := Nat.le_trans Zle E1.1
  have V_b1 : Arv Z h1 b1 k1 .int (5 : Int32) [(.int 0), (.int 0), (.int 0), (.int 0), (.int 0)] (.int 0) := (Arv.new A1 (by decide)).pad (pad_rep [] (.int 0) 5)
  refine own_by (T' := T1) (g' := (mkF m 3 #[vI x1, vI x2, vI x3, .unset, .unset, .unset, .unset, .unset, .unset, .unset, .unset, .unset, .unset, .unset] [(.ref b1)])) (fun t k => st1 t k) ?_
  clear st1 X0 e0
  refine own_by (T' := T1) (g' := (mkF m 4 #[vI x1, vI x2, vI x3, vR b1, .unset, .unset, .unset, .unset, .unset, .unset, .unset, .unset, .unset, .unset] [])) (fun t k => XS.astoreN X1.here hx rfl (hb hby at_3) rfl rfl (l' := #[vI x1, vI x2, vI x3, vR b1, .unset, .unset, .unset, .unset, .unset, .unset, .unset, .unset, .unset, .unset]) rfl k) ?_
  refine own_by (T' := T1) (g' := (mkF m 5 #[vI x1, vI x2, vI x3, vR b1, .unset, .unset, .unset, .unset, .unset, .unset, .unset, .unset, .unset, .unset] [(.ref b1)])) (fun t k => XS.aloadN X1.here hx rfl (hb hby at_4) rfl rfl k) ?_
  refine own_by (T' := T1) (g' := (mkF m 6 #[vI x1, vI x2, vI x3, vR b1, .unset, .unset, .unset, .unset, .unset, .unset, .unset, .unset, .unset, .unset] [(.int 0), (.ref b1)])) (fun t k => XS.iconst X1.here hx rfl (hb hby at_5) k) ?_
  refine own_by (T' := T1) (g' := (mkF m 7 #[vI x1, vI x2, vI x3, vR b1, .unset, .unset, .unset, .unset, .unset, .unset, .unset, .unset, .unset, .unset] [(.int x1), (.int 0), (.ref b1)])) (fun t k => XS.iloadN X1.here hx rfl (hb hby at_6) rfl k) ?_
  refine own_by (T' := T1) (g' := (mkF m 8 #[vI x1, vI x2, vI x3, vR b1, .unset, .unset, .unset, .unset, .unset, .unset, .unset, .unset, .unset, .unset] [(.int 3), (.int x1), (.int 0), (.ref b1)])) (fun t k => XS.iconst X1.here hx rfl (hb hby at_7) k) ?_
  refine own_by (T' := T1) (g' := (mkF m 9 #[vI x1, vI x2, vI x3, vR b1, .unset, .unset, .unset, .unset, .unset, .unset, .unset, .unset, .unset, .unset] [(.int (x1 &&& (3 : Int32))), (.int 0), (.ref b1)])) (fun t k => XS.iand X1.here hx rfl (hb hby at_8) rfl k) ?_
  obtain ⟨c0, e_c0⟩ : ∃ z : Int32, z = (x1 &&& (3 : Int32)) := ⟨_, rfl⟩
  rw [← e_c0]
  obtain ⟨cl2, Ar2, q2, S2, N2, Hs2, G2⟩ := id V_b1
  have hin2 : ¬ ((0 : Int32) < 0 ∨ cl2.slots.size ≤ ((0 : Int32)).toNatClampNeg) := inb_of S2 ⟨by decide, by decide⟩
  obtain ⟨T2, h2, X2, e2, W2, st2⟩ := stI X1 hx hZ e1 Ar2 (j := (0 : Int32)) hin2 (g := (mkF m 9 #[vI x1, vI x2, vI x3, vR b1, .unset, .unset, .unset, .unset, .unset, .unset, .unset, .unset, .unset, .unset] [(.int c0), (.int 0), (.ref b1)])) rfl rfl (hb hby at_9)
  have V_b1_ : Arv Z h2 b1 k1 .int (5 : Int32) [(.int c0), (.int 0), (.int 0), (.int 0), (.int 0)] (.int 0) := Arv.set Ar2 q2 S2 N2 Hs2 G2 rfl W2 0 rfl (Nat.le_of_ble_eq_true rfl)
  replace E_m2 := E_m2.wr W2
  replace S_NEXT_ONE_BASED := S_NEXT_ONE_BASED.wr W2
  replace E_m3 := E_m3.wr W2
  replace S_NEXTVAL := S_NEXTVAL.wr W2
  replace E_m1 := E_m1.wr W2
  replace S_NEXT := S_NEXT.wr W2
  replace E_m0 := E_m0.wr W2
  replace S_PREFIX := S_PREFIX.wr W2
  replace F_ordinal_m2 := F_ordinal_m2.other W2 (Or.inl ne_m2_b1)
  replace F_ordinal_m3 := F_ordinal_m3.other W2 (Or.inl ne_m3_b1)
  replace F_ordinal_m1 := F_ordinal_m1.other W2 (Or.inl ne_m1_b1)
  replace F_ordinal_m0 := F_ordinal_m0.other W2 (Or.inl ne_m0_b1)
  replace Zle := Nat.le_trans Zle (Keep.of_wr W2).1
  replace V_b1 := V_b1_
  clear V_b1_ W2 hin2 G2 Hs2 N2 S2 q2 Ar2
  replace N_ := Fr.snoc X2 N_ g_b1
  refine own_by (T' := T2) (g' := (mkF m 10 #[vI x1, vI x2, vI x3, vR b1, .unset, .unset, .unset, .unset, .unset, .unset, .unset, .unset, .unset, .unset] [])) (fun t k => st2 t k) ?_
  clear st2 X1 e1
  refine own_by (T' := T2) (g' := (mkF m 11 #[vI x1, vI x2, vI x3, vR b1, .unset, .unset, .unset, .unset, .unset, .unset, .unset, .unset, .unset, .unset] [(.ref b1)])) (fun t k => XS.aloadN X2.here hx rfl (hb hby at_10) rfl rfl k) ?_
  refine own_by (T' := T2) (g' := (mkF m 12 #[vI x1, vI x2, vI x3, vR b1, .unset, .unset, .unset, .unset, .unset, .unset, .unset, .unset, .unset, .unset] [(.int 1), (.ref b1)])) (fun t k => XS.iconst X2.here hx rfl (hb hby at_11) k) ?_
  refine own_by (T' := T2) (g' := (mkF m 13 #[vI x1, vI x2, vI x3, vR b1, .unset, .unset, .unset, .unset, .unset, .unset, .unset, .unset, .unset, .unset] [(.int x1), (.int 1), (.ref b1)])) (fun t k => XS.iloadN X2.here hx rfl (hb hby at_12) rfl k) ?_
  refine own_by (T' := T2) (g' := (mkF m 14 #[vI x1, vI x2, vI x3, vR b1, .unset, .unset, .unset, .unset, .unset, .unset, .unset, .unset, .unset, .unset] [(.int 2), (.int x1), (.int 1), (.ref b1)])) (fun t k => XS.iconst X2.here hx rfl (hb hby at_13) k) ?_
  refine own_by (T' := T2) (g' := (mkF m 15 #[vI x1, vI x2, vI x3, vR b1, .unset, .unset, .unset, .unset, .unset, .unset, .unset, .unset, .unset, .unset] [(.int ((x1.toUInt32 >>> ((2 : Int32) &&& 31).toUInt32).toInt32)), (.int 1), (.ref b1)])) (fun t k => XS.iushr X2.here hx rfl (hb hby at_14) rfl k) ?_
  refine own_by (T' := T2) (g' := (mkF m 16 #[vI x1, vI x2, vI x3, vR b1, .unset, .unset, .unset, .unset, .unset, .unset, .unset, .unset, .unset, .unset] [(.int 3), (.int ((x1.toUInt32 >>> ((2 : Int32) &&& 31).toUInt32).toInt32)), (.int 1), (.ref b1)])) (fun t k => XS.iconst X2.here hx rfl (hb hby at_15) k) ?_
  refine own_by (T' := T2) (g' := (mkF m 17 #[vI x1, vI x2, vI x3, vR b1, .unset, .unset, .unset, .unset, .unset, .unset, .unset, .unset, .unset, .unset] [(.int (((x1.toUInt32 >>> ((2 : Int32) &&& 31).toUInt32).toInt32) &&& (3 : Int32))), (.int 1), (.ref b1)])) (fun t k => XS.iand X2.here hx rfl (hb hby at_16) rfl k) ?_
  obtain ⟨c1, e_c1⟩ : ∃ z : Int32, z = (((x1.toUInt32 >>> ((2 : Int32) &&& 31).toUInt32).toInt32) &&& (3 : Int32)) := ⟨_, rfl⟩
  rw [← e_c1]
  obtain ⟨cl3, Ar3, q3, S3, N3, Hs3, G3⟩ := id V_b1
  have hin3 : ¬ ((1 : Int32) < 0 ∨ cl3.slots.size ≤ ((1 : Int32)).toNatClampNeg) := inb_of S3 ⟨by decide, by decide⟩
  obtain ⟨T3, h3, X3, e3, W3, st3⟩ := stI X2 hx hZ e2 Ar3 (j := (1 : Int32)) hin3 (g := (mkF m 17 #[vI x1, vI x2, vI x3, vR b1, .unset, .unset, .unset, .unset, .unset, .unset, .unset, .unset, .unset, .unset] [(.int c1), (.int 1), (.ref b1)])) rfl rfl (hb hby at_17)
  have V_b1_ : Arv Z h3 b1 k1 .int (5 : Int32) [(.int c0), (.int c1), (.int 0), (.int 0), (.int 0)] (.int 0) := Arv.set Ar3 q3 S3 N3 Hs3 G3 rfl W3 1 rfl (Nat.le_of_ble_eq_true rfl)
  replace E_m2 := E_m2.wr W3
  replace S_NEXT_ONE_BASED := S_NEXT_ONE_BASED.wr W3
  replace E_m3 := E_m3.wr W3
  replace S_NEXTVAL := S_NEXTVAL.wr W3
  replace E_m1 := E_m1.wr W3
  replace S_NEXT := S_NEXT.wr W3
  replace E_m0 := E_m0.wr W3
  replace S_PREFIX := S_PREFIX.wr W3
  replace F_ordinal_m2 := F_ordinal_m2.other W3 (Or.inl ne_m2_b1)
  replace F_ordinal_m3 := F_ordinal_m3.other W3 (Or.inl ne_m3_b1)
  replace F_ordinal_m1 := F_ordinal_m1.other W3 (Or.inl ne_m1_b1)
  replace F_ordinal_m0 := F_ordinal_m0.other W3 (Or.inl ne_m0_b1)
  replace Zle := Nat.le_trans Zle (Keep.of_wr W3).1
  replace V_b1 := V_b1_
  clear V_b1_ W3 hin3 G3 Hs3 N3 S3 q3 Ar3
  replace N_ := Fr.snoc X3 N_ g_b1
  refine own_by (T' := T3) (g' := (mkF m 18 #[vI x1, vI x2, vI x3, vR b1, .unset, .unset, .unset, .unset, .unset, .unset, .unset, .unset, .unset, .unset] [])) (fun t k => st3 t k) ?_
  clear st3 X2 e2
  refine own_by (T' := T3) (g' := (mkF m 19 #[vI x1, vI x2, vI x3, vR b1, .unset, .unset, .unset, .unset, .unset, .unset, .unset, .unset, .unset, .unset] [(.ref b1)])) (fun t k => XS.aloadN X3.here hx rfl (hb hby at_18) rfl rfl k) ?_
  refine own_by (T' := T3) (g' := (mkF m 20 #[vI x1, vI x2, vI x3, vR b1, .unset, .unset, .unset, .unset, .unset, .unset, .unset, .unset, .unset, .unset] [(.int 2), (.ref b1)])) (fun t k => XS.iconst X3.here hx rfl (hb hby at_19) k) ?_
  refine own_by (T' := T3) (g' := (mkF m 21 #[vI x1, vI x2, vI x3, vR b1, .unset, .unset, .unset, .unset, .unset, .unset, .unset, .unset, .unset, .unset] [(.int x1), (.int 2), (.ref b1)])) (fun t k => XS.iloadN X3.here hx rfl (hb hby at_20) rfl k) ?_
  refine own_by (T' := T3) (g' := (mkF m 22 #[vI x1, vI x2, vI x3, vR b1, .unset, .unset, .unset, .unset, .unset, .unset, .unset, .unset, .unset, .unset] [(.int 4), (.int x1), (.int 2), (.ref b1)])) (fun t k => XS.iconst X3.here hx rfl (hb hby at_21) k) ?_
  refine own_by (T' := T3) (g' := (mkF m 23 #[vI x1, vI x2, vI x3, vR b1, .unset, .unset, .unset, .unset, .unset, .unset, .unset, .unset, .unset, .unset] [(.int ((x1.toUInt32 >>> ((4 : Int32) &&& 31).toUInt32).toInt32)), (.int 2), (.ref b1)])) (fun t k => XS.iushr X3.here hx rfl (hb hby at_22) rfl k) ?_
  refine own_by (T' := T3) (g' := (mkF m 24 #[vI x1, vI x2, vI x3, vR b1, .unset, .unset, .unset, .unset, .unset, .unset, .unset, .unset, .unset, .unset] [(.int 3), (.int ((x1.toUInt32 >>> ((4 : Int32) &&& 31).toUInt32).toInt32)), (.int 2), (.ref b1)])) (fun t k => XS.iconst X3.here hx rfl (hb hby at_23) k) ?_
  refine own_by (T' := T3) (g' := (mkF m 25 #[vI x1, vI x2, vI x3, vR b1, .unset, .unset, .unset, .unset, .unset, .unset, .unset, .unset, .unset, .unset] [(.int (((x1.toUInt32 >>> ((4 : Int32) &&& 31).toUInt32).toInt32) &&& (3 : Int32))), (.int 2), (.ref b1)])) (fun t k => XS.iand X3.here hx rfl (hb hby at_24) rfl k) ?_
  obtain ⟨c2, e_c2⟩ : ∃ z : Int32, z = (((x1.toUInt32 >>> ((4 : Int32) &&& 31).toUInt32).toInt32) &&& (3 : Int32)) := ⟨_, rfl⟩
  rw [← e_c2]
  obtain ⟨cl4, Ar4, q4, S4, N4, Hs4, G4⟩ := id V_b1
  have hin4 : ¬ ((2 : Int32) < 0 ∨ cl4.slots.size ≤ ((2 : Int32)).toNatClampNeg) := inb_of S4 ⟨by decide, by decide⟩
  obtain ⟨T4, h4, X4, e4, W4, st4⟩ := stI X3 hx hZ e3 Ar4 (j := (2 : Int32)) hin4 (g := (mkF m 25 #[vI x1, vI x2, vI x3, vR b1, .unset, .unset, .unset, .unset, .unset, .unset, .unset, .unset, .unset, .unset] [(.int c2), (.int 2), (.ref b1)])) rfl rfl (hb hby at_25)
  have V_b1_ : Arv Z h4 b1 k1 .int (5 : Int32) [(.int c0), (.int c1), (.int c2), (.int 0), (.int 0)] (.int 0) := Arv.set Ar4 q4 S4 N4 Hs4 G4 rfl W4 2 rfl (Nat.le_of_ble_eq_true rfl)
  replace E_m2 := E_m2.wr W4
  replace S_NEXT_ONE_BASED := S_NEXT_ONE_BASED.wr W4
  replace E_m3 := E_m3.wr W4
  replace S_NEXTVAL := S_NEXTVAL.wr W4
  replace E_m1 := E_m1.wr W4
  replace S_NEXT := S_NEXT.wr W4
  replace E_m0 := E_m0.wr W4
  replace S_PREFIX := S_PREFIX.wr W4
  replace F_ordinal_m2 := F_ordinal_m2.other W4 (Or.inl ne_m2_b1)
  replace F_ordinal_m3 := F_ordinal_m3.other W4 (Or.inl ne_m3_b1)
  replace F_ordinal_m1 := F_ordinal_m1.other W4 (Or.inl ne_m1_b1)
  replace F_ordinal_m0 := F_ordinal_m0.other W4 (Or.inl ne_m0_b1)
  replace Zle := Nat.le_trans Zle (Keep.of_wr W4).1
  replace V_b1 := V_b1_
  clear V_b1_ W4 hin4 G4 Hs4 N4 S4 q4 Ar4
  replace N_ := Fr.snoc X4 N_ g_b1
  refine own_by (T' := T4) (g' := (mkF m 26 #[vI x1, vI x2, vI x3, vR b1, .unset, .unset, .unset, .unset, .unset, .unset, .unset, .unset, .unset, .unset] [])) (fun t k => st4 t k) ?_
  clear st4 X3 e3
  refine own_by (T' := T4) (g' := (mkF m 27 #[vI x1, vI x2, vI x3, vR b1, .unset, .unset, .unset, .unset, .unset, .unset, .unset, .unset, .unset, .unset] [(.ref b1)])) (fun t k => XS.aloadN X4.here hx rfl (hb hby at_26) rfl rfl k) ?_
  refine own_by (T' := T4) (g' := (mkF m 28 #[vI x1, vI x2, vI x3, vR b1, .unset, .unset, .unset, .unset, .unset, .unset, .unset, .unset, .unset, .unset] [(.int 3), (.ref b1)])) (fun t k => XS.iconst X4.here hx rfl (hb hby at_27) k) ?_
  refine own_by (T' := T4) (g' := (mkF m 29 #[vI x1, vI x2, vI x3, vR b1, .unset, .unset, .unset, .unset, .unset, .unset, .unset, .unset, .unset, .unset] [(.int x1), (.int 3), (.ref b1)])) (fun t k => XS.iloadN X4.here hx rfl (hb hby at_28) rfl k) ?_
  refine own_by (T' := T4) (g' := (mkF m 31 #[vI x1, vI x2, vI x3, vR b1, .unset, .unset, .unset, .unset, .unset, .unset, .unset, .unset, .unset, .unset] [(.int 6), (.int x1), (.int 3), (.ref b1)])) (fun t k => XS.bipush X4.here hx rfl (hb hby at_29) k) ?_
  refine own_by (T' := T4) (g' := (mkF m 32 #[vI x1, vI x2, vI x3, vR b1, .unset, .unset, .unset, .unset, .unset, .unset, .unset, .unset, .unset, .unset] [(.int ((x1.toUInt32 >>> ((6 : Int32) &&& 31).toUInt32).toInt32)), (.int 3), (.ref b1)])) (fun t k => XS.iushr X4.here hx rfl (hb hby at_31) rfl k) ?_
  refine own_by (T' := T4) (g' := (mkF m 33 #[vI x1, vI x2, vI x3, vR b1, .unset, .unset, .unset, .unset, .unset, .unset, .unset, .unset, .unset, .unset] [(.int 3), (.int ((x1.toUInt32 >>> ((6 : Int32) &&& 31).toUInt32).toInt32)), (.int 3), (.ref b1)])) (fun t k => XS.iconst X4.here hx rfl (hb hby at_32) k) ?_
  refine own_by (T' := T4) (g' := (mkF m 34 #[vI x1, vI x2, vI x3, vR b1, .unset, .unset, .unset, .unset, .unset, .unset, .unset, .unset, .unset, .unset] [(.int (((x1.toUInt32 >>> ((6 : Int32) &&& 31).toUInt32).toInt32) &&& (3 : Int32))), (.int 3), (.ref b1)])) (fun t k => XS.iand X4.here hx rfl (hb hby at_33) rfl k) ?_
  obtain ⟨c3, e_c3⟩ : ∃ z : Int32, z = (((x1.toUInt32 >>> ((6 : Int32) &&& 31).toUInt32).toInt32) &&& (3 : Int32)) := ⟨_, rfl⟩
  rw [← e_c3]
  obtain ⟨cl5, Ar5, q5, S5, N5, Hs5, G5⟩ := id V_b1
  have hin5 : ¬ ((3 : Int32) < 0 ∨ cl5.slots.size ≤ ((3 : Int32)).toNatClampNeg) := inb_of S5 ⟨by decide, by decide⟩
  obtain ⟨T5, h5, X5, e5, W5, st5⟩ := stI X4 hx hZ e4 Ar5 (j := (3 : Int32)) hin5 (g := (mkF m 34 #[vI x1, vI x2, vI x3, vR b1, .unset, .unset, .unset, .unset, .unset, .unset, .unset, .unset, .unset, .unset] [(.int c3), (.int 3), (.ref b1)])) rfl rfl (hb hby at_34)
  have V_b1_ : Arv Z h5 b1 k1 .int (5 : Int32) [(.int c0), (.int c1), (.int c2), (.int c3), (.int 0)] (.int 0) := Arv.set Ar5 q5 S5 N5 Hs5 G5 rfl W5 3 rfl (Nat.le_of_ble_eq_true rfl)
  replace E_m2 := E_m2.wr W5
  replace S_NEXT_ONE_BASED := S_NEXT_ONE_BASED.wr W5
  replace E_m3 := E_m3.wr W5
  replace S_NEXTVAL := S_NEXTVAL.wr W5
  replace E_m1 := E_m1.wr W5
  replace S_NEXT := S_NEXT.wr W5
  replace E_m0 := E_m0.wr W5
  replace S_PREFIX := S_PREFIX.wr W5
  replace F_ordinal_m2 := F_ordinal_m2.other W5 (Or.inl ne_m2_b1)
  replace F_ordinal_m3 := F_ordinal_m3.other W5 (Or.inl ne_m3_b1)
  replace F_ordinal_m1 := F_ordinal_m1.other W5 (Or.inl ne_m1_b1)
  replace F_ordinal_m0 := F_ordinal_m0.other W5 (Or.inl ne_m0_b1)
  replace Zle := Nat.le_trans Zle (Keep.of_wr W5).1
  replace V_b1 := V_b1_
  clear V_b1_ W5 hin5 G5 Hs5 N5 S5 q5 Ar5
  replace N_ := Fr.snoc X5 N_ g_b1
  refine own_by (T' := T5) (g' := (mkF m 35 #[vI x1, vI x2, vI x3, vR b1, .unset, .unset, .unset, .unset, .unset, .unset, .unset, .unset, .unset, .unset] [])) (fun t k => st5 t k) ?_
  clear st5 X4 e4
  refine own_by (T' := T5) (g' := (mkF m 36 #[vI x1, vI x2, vI x3, vR b1, .unset, .unset, .unset, .unset, .unset, .unset, .unset, .unset, .unset, .unset] [(.ref b1)])) (fun t k => XS.aloadN X5.here hx rfl (hb hby at_35) rfl rfl k) ?_
  refine own_by (T' := T5) (g' := (mkF m 37 #[vI x1, vI x2, vI x3, vR b1, .unset, .unset, .unset, .unset, .unset, .unset, .unset, .unset, .unset, .unset] [(.int 4), (.ref b1)])) (fun t k => XS.iconst X5.here hx rfl (hb hby at_36) k) ?_
  refine own_by (T' := T5) (g' := (mkF m 38 #[vI x1, vI x2, vI x3, vR b1, .unset, .unset, .unset, .unset, .unset, .unset, .unset, .unset, .unset, .unset] [(.int x1), (.int 4), (.ref b1)])) (fun t k => XS.iloadN X5.here hx rfl (hb hby at_37) rfl k) ?_
  refine own_by (T' := T5) (g' := (mkF m 40 #[vI x1, vI x2, vI x3, vR b1, .unset, .unset, .unset, .unset, .unset, .unset, .unset, .unset, .unset, .unset] [(.int 8), (.int x1), (.int 4), (.ref b1)])) (fun t k => XS.bipush X5.here hx rfl (hb hby at_38) k) ?_
  refine own_by (T' := T5) (g' := (mkF m 41 #[vI x1, vI x2, vI x3, vR b1, .unset, .unset, .unset, .unset, .unset, .unset, .unset, .unset, .unset, .unset] [(.int ((x1.toUInt32 >>> ((8 : Int32) &&& 31).toUInt32).toInt32)), (.int 4), (.ref b1)])) (fun t k => XS.iushr X5.here hx rfl (hb hby at_40) rfl k) ?_
  refine own_by (T' := T5) (g' := (mkF m 42 #[vI x1, vI x2, vI x3, vR b1, .unset, .unset, .unset, .unset, .unset, .unset, .unset, .unset, .unset, .unset] [(.int 3), (.int ((x1.toUInt32 >>> ((8 : Int32) &&& 31).toUInt32).toInt32)), (.int 4), (.ref b1)])) (fun t k => XS.iconst X5.here hx rfl (hb hby at_41) k) ?_
  refine own_by (T' := T5) (g' := (mkF m 43 #[vI x1, vI x2, vI x3, vR b1, .unset, .unset, .unset, .unset, .unset, .unset, .unset, .unset, .unset, .unset] [(.int (((x1.toUInt32 >>> ((8 : Int32) &&& 31).toUInt32).toInt32) &&& (3 : Int32))), (.int 4), (.ref b1)])) (fun t k => XS.iand X5.here hx rfl (hb hby at_42) rfl k) ?_
  obtain ⟨c4, e_c4⟩ : ∃ z : Int32, z = (((x1.toUInt32 >>> ((8 : Int32) &&& 31).toUInt32).toInt32) &&& (3 : Int32)) := ⟨_, rfl⟩
  rw [← e_c4]
  obtain ⟨cl6, Ar6, q6, S6, N6, Hs6, G6⟩ := id V_b1
  have hin6 : ¬ ((4 : Int32) < 0 ∨ cl6.slots.size ≤ ((4 : Int32)).toNatClampNeg) := inb_of S6 ⟨by decide, by decide⟩
  obtain ⟨T6, h6, X6, e6, W6, st6⟩ := stI X5 hx hZ e5 Ar6 (j := (4 : Int32)) hin6 (g := (mkF m 43 #[vI x1, vI x2, vI x3, vR b1, .unset, .unset, .unset, .unset, .unset, .unset, .unset, .unset, .unset, .unset] [(.int c4), (.int 4), (.ref b1)])) rfl rfl (hb hby at_43)
  have V_b1_ : Arv Z h6 b1 k1 .int (5 : Int32) [(.int c0), (.int c1), (.int c2), (.int c3), (.int c4)] (.int 0) := Arv.set Ar6 q6 S6 N6 Hs6 G6 rfl W6 4 rfl (Nat.le_of_ble_eq_true rfl)
  replace E_m2 := E_m2.wr W6
  replace S_NEXT_ONE_BASED := S_NEXT_ONE_BASED.wr W6
  replace E_m3 := E_m3.wr W6
  replace S_NEXTVAL := S_NEXTVAL.wr W6
  replace E_m1 := E_m1.wr W6
  replace S_NEXT := S_NEXT.wr W6
  replace E_m0 := E_m0.wr W6
  replace S_PREFIX := S_PREFIX.wr W6
  replace F_ordinal_m2 := F_ordinal_m2.other W6 (Or.inl ne_m2_b1)
  replace F_ordinal_m3 := F_ordinal_m3.other W6 (Or.inl ne_m3_b1)
  replace F_ordinal_m1 := F_ordinal_m1.other W6 (Or.inl ne_m1_b1)
  replace F_ordinal_m0 := F_ordinal_m0.other W6 (Or.inl ne_m0_b1)
  replace Zle := Nat.le_trans Zle (Keep.of_wr W6).1
  replace V_b1 := V_b1_
  clear V_b1_ W6 hin6 G6 Hs6 N6 S6 q6 Ar6
  replace N_ := Fr.snoc X6 N_ g_b1
  refine own_by (T' := T6) (g' := (mkF m 44 #[vI x1, vI x2, vI x3, vR b1, .unset, .unset, .unset, .unset, .unset, .unset, .unset, .unset, .unset, .unset] [])) (fun t k => st6 t k) ?_
  clear st6 X5 e5
  refine own_by (T' := T6) (g' := (mkF m 45 #[vI x1, vI x2, vI x3, vR b1, .unset, .unset, .unset, .unset, .unset, .unset, .unset, .unset, .unset, .unset] [(.int 5)])) (fun t k => XS.iconst X6.here hx rfl (hb hby at_44) k) ?_
  exact own_c45 l Z a0 hw hx hby hml Bd.notSynchronized Bd.returns x1 x2 x3 m0 m1 m2 m3 h0 n0  b1 k1 c0 c1 c2 c3 c4 hZ hown (X6) e6 E_m2 S_NEXT_ONE_BASED E_m3 S_NEXTVAL E_m1 S_NEXT E_m0 S_PREFIX F_ordinal_m2 F_ordinal_m3 F_ordinal_m1 F_ordinal_m0 Zle N_ ne_m2_b1 ne_m3_b1 ne_m1_b1 ne_m0_b1 g_b1 V_b1 e_c0 e_c1 e_c2 e_c3 e_c4

set_option maxRecDepth 65536 in
set_option maxHeartbeats 40000000 in
theorem comes_1 {Post : Tables → Env → Array Value → State → Outcome → State → Prop} (hpost : ∀ tb e args s v u, (limb_1_1.after args s (.returned v) u = true ∧ limb_1_2.after args s (.returned v) u = true ∧ True) → FrameEnd s (.returned v) u (Jvm.fieldLocs frame_1_writes args s ++ Jvm.arrayLocs frame_1_arrays args s ++ Jvm.staticLocs frame_1_statics s) 24 192 → Post tb e args s (.returned v) u) :
    ArmFor flags0 classFile x code maxLocals ret World_1 tables_1 room_1 Calls_1 rest_1 Pre_1 Post := by
  intro l hfl _ _ p e ha hc hk s m args below hf hA hF happ hP
  obtain ⟨hcalls, hrest, hpre⟩ := hP
  obtain ⟨-, -, -, hnamed, -, -, -, hat⟩ := (Spec.applies_iff hf).mp happ
  obtain ⟨hg, hn⟩ := and_e (Cond.before_iff.mp (show (Jvm.Cond.and given_1 narrow_1).before args s = true from hpre))
  obtain ⟨hcount, g0⟩ := and_e hg
  obtain ⟨a0, g1⟩ := and_e g0
  obtain ⟨a1, g2⟩ := and_e g1
  obtain ⟨w0, w1, w2, rfl⟩ : ∃ w0 w1 w2 : Value, args = #[w0, w1, w2] := by
    have hs : args.size = 3 := by simpa [Cond.value, given_1] using hcount
    obtain ⟨L⟩ := args
    match L, hs with
    | [w0, w1, w2], _ => exact ⟨w0, w1, w2, rfl⟩
  have hw := fun d (hd : d ∈ tables_1) => atoms_spec (ws := Jvm.Cond.code x code maxLocals ret :: tables_1) hat d (List.mem_cons_of_mem _ hd)
  have hfit : Fit s := fun {y c} hc i hi => by
    obtain ⟨ha, rfl⟩ := Array.getElem?_eq_some_iff.mp hc
    have q := List.all_eq_true.mp ((Array.all_eq_true_iff_forall_mem.mp hF) _ (Array.getElem_mem ha)) i (List.mem_range.mpr hi)
    simpa [Array.getElem?_eq_getElem hi] using q
  obtain ⟨i0, ei0⟩ := is_v a0
  obtain rfl : w0 = (.int i0) := Option.some.inj ei0
  obtain ⟨i1, ei1⟩ := is_v a1
  obtain rfl : w1 = (.int i1) := Option.some.inj ei1
  obtain ⟨i2, ei2⟩ := is_v g2
  obtain rfl : w2 = (.int i2) := Option.some.inj ei2
  obtain ⟨na0, nb0⟩ := and_e hn
  obtain ⟨na1, nb1⟩ := and_e nb0
  obtain ⟨na2, nb2⟩ := and_e nb1
  obtain ⟨na3, nb3⟩ := and_e nb2
  obtain ⟨na4, nb4⟩ := and_e nb3
  obtain ⟨na5, nb5⟩ := and_e nb4
  obtain ⟨na6, nb6⟩ := and_e nb5
  obtain ⟨m2, ev_m2⟩ := exa_v na0
  have E_m2 := Exa.start ev_m2 na0
  have S_NEXT_ONE_BASED := Sta.start ev_m2 (Or.inr ⟨(hw _ (own_m 15 rfl)), (hw _ (own_m 16 rfl))⟩)
  obtain ⟨m3, ev_m3⟩ := exa_v na2
  have E_m3 := Exa.start ev_m3 na2
  have S_NEXTVAL := Sta.start ev_m3 (Or.inr ⟨(hw _ (own_m 15 rfl)), (hw _ (own_m 39 rfl))⟩)
  obtain ⟨m1, ev_m1⟩ := exa_v na4
  have E_m1 := Exa.start ev_m1 na4
  have S_NEXT := Sta.start ev_m1 (Or.inr ⟨(hw _ (own_m 15 rfl)), (hw _ (own_m 41 rfl))⟩)
  obtain ⟨m0, ev_m0⟩ := exa_v na6
  have E_m0 := Exa.start ev_m0 na6
  have S_PREFIX := Sta.start ev_m0 (Or.inr ⟨(hw _ (own_m 15 rfl)), (hw _ (own_m 43 rfl))⟩)
  have F_ordinal_m2 := Fld.start ((fld_at ev_m2).symm.trans (own_eq_int na1))
  have F_ordinal_m3 := Fld.start ((fld_at ev_m3).symm.trans (own_eq_int na3))
  have F_ordinal_m1 := Fld.start ((fld_at ev_m1).symm.trans (own_eq_int na5))
  have F_ordinal_m0 := Fld.start ((fld_at ev_m0).symm.trans (own_eq_int nb6))
  obtain ⟨n, o, h1, h2, h3, _, L, rfl, ⟨rfl, N⟩, hq⟩ := rm0 l s _ hw tables_1 i0 i1 i2 m0 m1 m2 m3 s.heap s.heap.size (Nat.le_refl _) E_m2 S_NEXT_ONE_BASED E_m3 S_NEXTVAL E_m1 S_NEXT E_m0 S_PREFIX F_ordinal_m2 F_ordinal_m3 F_ordinal_m1 F_ordinal_m0 p e ha hc hk s m _ below hf ((Spec.applies_iff_loose hf).mp happ).1 ⟨rfl, State.Warmed39.refl s, rfl⟩ trivial
  refine ⟨n, _, h1, h2, h3, hpost _ _ _ _ _ _ ⟨Cond.after_iff.mpr rfl, Cond.after_iff.mpr (eq_i res_at (Term.int_eval (1)) rfl), trivial⟩ ⟨hq.1, hq.2.1, (hq.2.2.sift fun y hy => Or.inr (N y hy)).mono (by decide) (by decide)⟩⟩
theorem main_1_1 : Claimed_1_1 := comes_1 fun _ _ _ _ _ _ h hF => ⟨h.1, hF⟩
theorem main_1_2 : Claimed_1_2 := comes_1 fun _ _ _ _ _ _ h hF => ⟨h.2.1, hF⟩

end Jvm.Pilot.@@N@@
namespace Jvm.Pilot.@@N@@
open Jvm Jvm.ClassFile Sem Op Lib Jvm.Free Jvm.Stand Jvm.Pilot.@@N@@.Jvm.D
/-! MADE BY PROGRAM (witnessworld.py) out of the Statement's table words and the real class files: 12 classes; the members and pool entries that the words name. The judged class is class 1, her method 1. -/
namespace start1
open Jvm.ClassFile
def u (s : String) : CpInfo := .utf8 (stringToUtf16 s)
/-- a pool by its gaps: so many unusable entries, then the entry; so many at the end -/
def gap : Nat → List CpInfo → List CpInfo
  | 0, r => r
  | n + 1, r => .unusable :: gap n r
def poolList (es : List (Nat × CpInfo)) (last : Nat) : List CpInfo := es.foldr (fun e r => gap e.1 (e.2 :: r)) (gap last [])
def pool (es : List (Nat × CpInfo)) (last : Nat) : Array CpInfo := ⟨poolList es last⟩
def fileOf (pool : Array CpInfo) (this : Nat) (attrs : Array Attribute := #[]) (ms : Array MethodInfo := #[]) (fl : Nat := 33) (sup : Nat := 0) (ifs : Array Nat := #[]) (fds : Array FieldInfo := #[]) : ClassFile where
  minorVersion := 0
  majorVersion := 65
  constantPool := pool
  accessFlags := fl
  thisClass := this
  superClass := sup
  interfaces := ifs
  fields := fds
  methods := ms
  attributes := attrs
def plain (name : String) (sup : Option ClassId) : Class where
  name := name
  kind := .ordinary
  loader := none
  accessFlags := 33
  super := sup
  interfaces := #[]
  cf := none
  fields := #[]
  methods := #[]
  instanceTypes := #[]
  staticTypes := #[]
  resolved := #[]
  callSites := []
  init := .initialized
  statics := none
  mirror := none

def pool0 : Array CpInfo := pool [(5, u "<init>"), (0, u "()V"), (1, .class_ 10), (1, u "java/lang/Object")] 113

def k0m0 : Method := { name := "<init>", desc := "()V", sig := { parameters := [], returnType := none }, accessFlags := 1, code := none }
/-- java/lang/Object -/
def k0 : Class := { plain "java/lang/Object" none with
  accessFlags := 33
  interfaces := #[]
  cf := some (fileOf pool0 8 #[] #[{ accessFlags := 1, nameIndex := 5, descriptorIndex := 6, attributes := #[] }] 33 0 #[] #[])
  fields := #[]
  methods := #[k0m0]
  instanceTypes := #[]
  staticTypes := #[]
  resolved := Array.replicate 124 none
  statics := none }

def pool1 : Array CpInfo := pool [(2, .class_ 4), (1, u "java/lang/Object"), (0, u "<init>"), (0, u "()V"), (0, .methodref 8 9), (0, .class_ 10), (0, .nameAndType 11 12), (0, u "com/example/emu/emu/TableFormFromPrefixPinLaw"), (0, u "border"), (0, u "([II)I"), (0, .methodref 8 14), (0, .nameAndType 15 16), (0, u "nextval"), (0, u "([I[I[II)I"), (0, .methodref 8 18), (0, .nameAndType 19 20), (0, u "pick"), (0, u "(I[I[I[II)I"), (0, .fieldref 22 23), (0, .class_ 24), (0, .nameAndType 25 26), (0, u "com/example/emu/emu/TableForm"), (0, u "PREFIX"), (0, u "Lcom/example/emu/emu/TableForm;"), (0, .fieldref 22 28), (0, .nameAndType 29 26), (0, u "NEXT"), (0, .fieldref 22 31), (0, .nameAndType 32 26), (0, u "NEXT_ONE_BASED"), (0, .fieldref 22 34), (0, .nameAndType 35 26), (0, u "NEXTVAL"), (0, .methodref 22 37), (0, .nameAndType 38 39), (0, u "fromPrefix"), (0, u "([I)[I"), (0, .methodref 8 41), (0, .nameAndType 42 43), (0, u "agree"), (0, u "([I[II)Z"), (0, .methodref 8 45), (0, .nameAndType 46 47), (0, u "match"), (0, u "([III)Z"), (2, u "law"), (0, u "(III)Z")] 5

def k1m0 : Method := { name := "<init>", desc := "()V", sig := { parameters := [], returnType := none }, accessFlags := 1, code := none }
def k1c1 : Code := { maxStack := 7, maxLocals := 14, code := code, exceptionTable := #[], attributes := #[] }
def k1m1 : Method := { name := "law", desc := "(III)Z", sig := { parameters := [.int, .int, .int], returnType := some .boolean }, accessFlags := 9, code := some k1c1 }
def k1c2 : Code := { maxStack := 3, maxLocals := 3, code := method_3_code, exceptionTable := #[], attributes := #[] }
def k1m2 : Method := { name := "agree", desc := "([I[II)Z", sig := { parameters := [(.array .int), (.array .int), .int], returnType := some .boolean }, accessFlags := 10, code := some k1c2 }
def k1c3 : Code := { maxStack := 2, maxLocals := 5, code := method_4_code, exceptionTable := #[], attributes := #[] }
def k1m3 : Method := { name := "pick", desc := "(I[I[I[II)I", sig := { parameters := [.int, (.array .int), (.array .int), (.array .int), .int], returnType := some .int }, accessFlags := 10, code := some k1c3 }
def k1c4 : Code := { maxStack := 3, maxLocals := 5, code := method_5_code, exceptionTable := #[], attributes := #[] }
def k1m4 : Method := { name := "nextval", desc := "([I[I[II)I", sig := { parameters := [(.array .int), (.array .int), (.array .int), .int], returnType := some .int }, accessFlags := 10, code := some k1c4 }
def k1c5 : Code := { maxStack := 4, maxLocals := 3, code := method_6_code, exceptionTable := #[], attributes := #[] }
def k1m5 : Method := { name := "match", desc := "([III)Z", sig := { parameters := [(.array .int), .int, .int], returnType := some .boolean }, accessFlags := 10, code := some k1c5 }
def k1c6 : Code := { maxStack := 3, maxLocals := 2, code := method_7_code, exceptionTable := #[], attributes := #[] }
def k1m6 : Method := { name := "border", desc := "([II)I", sig := { parameters := [(.array .int), .int], returnType := some .int }, accessFlags := 10, code := some k1c6 }
/-- com/example/emu/emu/TableFormFromPrefixPinLaw -/
def k1 : Class := { plain "com/example/emu/emu/TableFormFromPrefixPinLaw" (some 0) with
  accessFlags := 49
  interfaces := #[]
  cf := some (fileOf pool1 8 #[] #[{ accessFlags := 1, nameIndex := 5, descriptorIndex := 6, attributes := #[] }, { accessFlags := 9, nameIndex := 50, descriptorIndex := 51, attributes := #[] }, { accessFlags := 10, nameIndex := 42, descriptorIndex := 43, attributes := #[] }, { accessFlags := 10, nameIndex := 19, descriptorIndex := 20, attributes := #[] }, { accessFlags := 10, nameIndex := 15, descriptorIndex := 16, attributes := #[] }, { accessFlags := 10, nameIndex := 46, descriptorIndex := 47, attributes := #[] }, { accessFlags := 10, nameIndex := 11, descriptorIndex := 12, attributes := #[] }] 49 2 #[] #[])
  fields := #[]
  methods := #[k1m0, k1m1, k1m2, k1m3, k1m4, k1m5, k1m6]
  instanceTypes := #[]
  staticTypes := #[]
  resolved := Array.replicate 57 none
  statics := none }

def pool2 : Array CpInfo := pool [(1, .class_ 2), (0, u "java/lang/constant/Constable"), (0, .class_ 4), (0, u "java/lang/Object")] 6

/-- java/lang/constant/Constable -/
def k2 : Class := { plain "java/lang/constant/Constable" (some 0) with
  accessFlags := 1537
  interfaces := #[]
  cf := some (fileOf pool2 1 #[] #[] 1537 3 #[] #[])
  fields := #[]
  methods := #[]
  instanceTypes := #[]
  staticTypes := #[]
  resolved := Array.replicate 11 none
  statics := none }

def pool3 : Array CpInfo := pool [(1, .class_ 2), (0, u "java/lang/Comparable"), (0, .class_ 4), (0, u "java/lang/Object")] 7

/-- java/lang/Comparable -/
def k3 : Class := { plain "java/lang/Comparable" (some 0) with
  accessFlags := 1537
  interfaces := #[]
  cf := some (fileOf pool3 1 #[] #[] 1537 3 #[] #[])
  fields := #[]
  methods := #[]
  instanceTypes := #[]
  staticTypes := #[]
  resolved := Array.replicate 12 none
  statics := none }

def pool4 : Array CpInfo := pool [(1, .class_ 2), (0, u "java/io/Serializable"), (0, .class_ 4), (0, u "java/lang/Object")] 2

/-- java/io/Serializable -/
def k4 : Class := { plain "java/io/Serializable" (some 0) with
  accessFlags := 1537
  interfaces := #[]
  cf := some (fileOf pool4 1 #[] #[] 1537 3 #[] #[])
  fields := #[]
  methods := #[]
  instanceTypes := #[]
  staticTypes := #[]
  resolved := Array.replicate 7 none
  statics := none }

def pool5 : Array CpInfo := pool [(2, .class_ 4), (1, u "java/lang/Enum"), (0, u "name"), (0, u "Ljava/lang/String;"), (0, .fieldref 2 8), (0, .nameAndType 9 10), (0, u "ordinal"), (0, u "I"), (1, .class_ 14), (1, u "java/lang/Object"), (4, u "hash"), (86, .class_ 108), (1, u "java/lang/Enum$EnumDesc"), (2, .class_ 112), (0, u "java/lang/constant/Constable"), (0, .class_ 114), (0, u "java/lang/Comparable"), (0, .class_ 116), (0, u "java/io/Serializable"), (9, u "()I")] 77

def k5c0 : Code := { maxStack := 1, maxLocals := 1, code := jdk_37_method_2_code, exceptionTable := #[], attributes := #[] }
def k5m0 : Method := { name := "ordinal", desc := "()I", sig := { parameters := [], returnType := some .int }, accessFlags := 17, code := some k5c0 }
/-- java/lang/Enum -/
def k5 : Class := { plain "java/lang/Enum" (some 0) with
  accessFlags := 1057
  interfaces := #[2, 3, 4]
  cf := some (fileOf pool5 2 #[.nestMembers #[106]] #[{ accessFlags := 17, nameIndex := 9, descriptorIndex := 126, attributes := #[] }] 1057 12 #[111, 113, 115] #[{ accessFlags := 18, nameIndex := 5, descriptorIndex := 6, attributes := #[] }, { accessFlags := 18, nameIndex := 9, descriptorIndex := 10, attributes := #[] }, { accessFlags := 2, nameIndex := 19, descriptorIndex := 10, attributes := #[] }])
  fields := #[{ name := "name", type := (.object "java/lang/String"), accessFlags := 18, slot := 0, constantValue := 0 }, { name := "ordinal", type := .int, accessFlags := 18, slot := 1, constantValue := 0 }, { name := "hash", type := .int, accessFlags := 2, slot := 2, constantValue := 0 }]
  methods := #[k5m0]
  instanceTypes := #[(.object "java/lang/String"), .int, .int]
  staticTypes := #[]
  resolved := Array.replicate 204 none
  statics := none }

def pool6 : Array CpInfo := pool [(1, .class_ 2), (0, u "com/example/emu/emu/TableForm"), (2, u "PREFIX"), (0, u "Lcom/example/emu/emu/TableForm;"), (2, u "NEXT"), (2, u "NEXT_ONE_BASED"), (2, u "NEXTVAL"), (2, u "$VALUES"), (0, u "[Lcom/example/emu/emu/TableForm;"), (6, .class_ 28), (1, u "java/lang/Enum"), (6, .methodref 1 36), (0, .nameAndType 37 38), (0, u "entry"), (0, u "([I[II)I"), (0, .methodref 1 40), (0, .nameAndType 41 42), (0, u "ordinal"), (0, u "()I"), (21, u "fromPrefix"), (0, u "([I)[I")] 7

def k6c0 : Code := { maxStack := 6, maxLocals := 4, code := prog_24_method_4_code, exceptionTable := #[], attributes := #[] }
def k6m0 : Method := { name := "fromPrefix", desc := "([I)[I", sig := { parameters := [(.array .int)], returnType := some (.array .int) }, accessFlags := 0, code := some k6c0 }
def k6c1 : Code := { maxStack := 4, maxLocals := 6, code := prog_24_method_5_code, exceptionTable := #[], attributes := #[] }
def k6m1 : Method := { name := "entry", desc := "([I[II)I", sig := { parameters := [(.array .int), (.array .int), .int], returnType := some .int }, accessFlags := 2, code := some k6c1 }
/-- com/example/emu/emu/TableForm -/
def k6 : Class := { plain "com/example/emu/emu/TableForm" (some 5) with
  accessFlags := 16433
  interfaces := #[]
  cf := some (fileOf pool6 1 #[] #[{ accessFlags := 0, nameIndex := 64, descriptorIndex := 65, attributes := #[] }, { accessFlags := 2, nameIndex := 37, descriptorIndex := 38, attributes := #[] }] 16433 26 #[] #[{ accessFlags := 16409, nameIndex := 5, descriptorIndex := 6, attributes := #[] }, { accessFlags := 16409, nameIndex := 9, descriptorIndex := 6, attributes := #[] }, { accessFlags := 16409, nameIndex := 12, descriptorIndex := 6, attributes := #[] }, { accessFlags := 16409, nameIndex := 15, descriptorIndex := 6, attributes := #[] }, { accessFlags := 4122, nameIndex := 18, descriptorIndex := 19, attributes := #[] }])
  fields := #[{ name := "PREFIX", type := (.object "com/example/emu/emu/TableForm"), accessFlags := 16409, slot := 0, constantValue := 0 }, { name := "NEXT", type := (.object "com/example/emu/emu/TableForm"), accessFlags := 16409, slot := 1, constantValue := 0 }, { name := "NEXT_ONE_BASED", type := (.object "com/example/emu/emu/TableForm"), accessFlags := 16409, slot := 2, constantValue := 0 }, { name := "NEXTVAL", type := (.object "com/example/emu/emu/TableForm"), accessFlags := 16409, slot := 3, constantValue := 0 }, { name := "$VALUES", type := (.array (.object "com/example/emu/emu/TableForm")), accessFlags := 4122, slot := 4, constantValue := 0 }]
  methods := #[k6m0, k6m1]
  instanceTypes := #[(.object "java/lang/String"), .int, .int]
  staticTypes := #[(.object "com/example/emu/emu/TableForm"), (.object "com/example/emu/emu/TableForm"), (.object "com/example/emu/emu/TableForm"), (.object "com/example/emu/emu/TableForm"), (.array (.object "com/example/emu/emu/TableForm"))]
  resolved := Array.replicate 73 none
  statics := some 0 }

def pool7 : Array CpInfo := pool [(1, u "java/lang/Cloneable"), (0, .class_ 1), (0, u "java/lang/Object"), (0, .class_ 3)] 3

/-- java/lang/Cloneable -/
def k7 : Class := { plain "java/lang/Cloneable" (some 0) with
  accessFlags := 1537
  interfaces := #[]
  cf := some (fileOf pool7 2 #[] #[] 1537 4 #[] #[])
  fields := #[]
  methods := #[]
  instanceTypes := #[]
  staticTypes := #[]
  resolved := Array.replicate 8 none
  statics := none }

/-- the primitive byte -/
def k8 : Class := { plain "byte" none with kind := .primitive 'B', accessFlags := 0x411 }
/-- [B -/
def k9 : Class := { plain "[B" (some 0) with kind := .array 8 .byte, interfaces := #[7, 4], accessFlags := 1041 }

/-- the primitive int -/
def k10 : Class := { plain "int" none with kind := .primitive 'I', accessFlags := 0x411 }
/-- [I -/
def k11 : Class := { plain "[I" (some 0) with kind := .array 10 .int, interfaces := #[7, 4], accessFlags := 1041 }

def heap : Heap := #[{ cls := 6, slots := #[.ref 1, .ref 2, .ref 3, .ref 4, .null], vm := .statics 6 },
  { cls := 6, slots := #[.null, .int 0, .int 0], vm := .none },
  { cls := 6, slots := #[.null, .int 1, .int 0], vm := .none },
  { cls := 6, slots := #[.null, .int 2, .int 0], vm := .none },
  { cls := 6, slots := #[.null, .int 3, .int 0], vm := .none }]
def classes : Array Class := #[k0, k1, k2, k3, k4, k5, k6, k7, k8, k9, k10, k11]
def interned : List (Array UInt16 × Addr) := []
def slotsUsed : Nat := 17
def theMethod : MethodId := ⟨1, 1⟩
def args0 : Array Value := #[.int 5, .int 6, .int 7]
def aboutOver (below : List Frame) : State where
  vm := { classes := classes, interned := interned.toArray }
  heap := heap
  slotsUsed := slotsUsed
  threads := #[{ frames := .invoking theMethod args0 :: below }]
def below0 : List Frame := [.native { method := ⟨0, 0⟩, args := #[] }]
def about1 : State := aboutOver below0
def p0 : Program := .bare "" "" ""
def e0 : Env := launch0.env 0 0 0
theorem w_frames : about1.frames = Frame.invoking theMethod args0 :: below0 := rfl
set_option maxRecDepth 65536 in
theorem w_args : argsFit about1.vm theMethod args0 = true := by decide +kernel
set_option maxRecDepth 65536 in
theorem w_heap : heapFits about1 = true := by decide +kernel
set_option maxRecDepth 65536 in
theorem w_runnable : about1.curStatus? = some .runnable := by decide +kernel
set_option maxRecDepth 65536 in
theorem w_alone : about1.alone = true := by decide +kernel
set_option maxRecDepth 65536 in
theorem w_named : about1.methodNamed? x = some theMethod := by decide +kernel
set_option maxRecDepth 65536 in
theorem w_hears : about1.hears theMethod below0 = true := by decide +kernel
set_option maxRecDepth 65536 in
theorem w_ripe : about1.ripe theMethod args0 below0 = true := by decide +kernel
theorem w_running : about1.status = .running := rfl
set_option maxRecDepth 65536 in
theorem w_room : about1.hasRoom e0.platform room_1 = true :=
  launch0.hasRoom_least _ room_1 (by decide +kernel) (by decide +kernel) (by decide +kernel) (by decide +kernel) (by decide +kernel) (by decide +kernel)
theorem allAtoms_all (ts : List Jvm.Cond) (a : Array Jvm.Value) (st : Jvm.State) : (allAtoms ts).before a st = ts.all (fun c => c.before a st) := by
  induction ts with
  | nil => rfl
  | cons c t ih =>
    show (Jvm.Cond.and c (allAtoms t)).before a st = _
    rw [Jvm.Cond.before_and, ih, List.all_cons]
def words1 : List Jvm.Cond := Jvm.Cond.code x code maxLocals ret :: tables_1
/-- a 'code' word, met by the world's own term for the bytes: nothing is compared byte by byte -/
theorem code_word {y : MethodName} {bytes : ByteArray} {mx : Nat} {rt : Option FieldType} {a : Array Value} {s : State} {m : MethodId} {meth : Method} {c : Code} (h1 : s.methodNamed? y = some m) (h2 : s.vm.method? m = some meth) (h3 : meth.code = some c) (h4 : c.code = bytes)
    (h5 : (c.maxLocals == mx && c.exceptionTable.isEmpty && decide (c.maxStack ≤ mostOperands) && decide (meth.sig.returnType = rt) && !meth.locks && decide (parseMethodDescriptor y.desc = some meth.sig)) = true) : (Jvm.Cond.code y bytes mx rt).before a s = true := by
  simp only [Bool.and_eq_true, beq_iff_eq, Bool.not_eq_true', decide_eq_true_eq] at h5
  obtain ⟨⟨⟨⟨⟨g1, g2⟩, g3⟩, g4⟩, g5⟩, g6⟩ := h5
  simp [Cond.before, Cond.holds, Cond.value, h1, h2, h3, h4, g1, g2, g3, g4, g5, g6]
def isCode : Jvm.Cond → Bool
  | .code _ _ _ _ => true
  | _ => false
theorem all_split {L : List Jvm.Cond} {P : Jvm.Cond → Bool} (h1 : L.all (fun c => isCode c || P c) = true) (h2 : ∀ c ∈ L.filter isCode, P c = true) : L.all P = true := by
  refine List.all_eq_true.mpr fun c hc => ?_
  have h := List.all_eq_true.mp h1 c hc
  rcases Bool.eq_false_or_eq_true (isCode c) with hi | hi
  · exact h2 c (List.mem_filter.mpr ⟨hc, hi⟩)
  · simpa [hi] using h
set_option maxRecDepth 65536 in
theorem w_c0 : (Jvm.Cond.code x code maxLocals ret).before args0 about1 = true := code_word (m := ⟨1, 1⟩) (meth := k1m1) (c := k1c1) (by decide +kernel) rfl rfl rfl (by decide +kernel)
set_option maxRecDepth 65536 in
theorem w_c1 : (Jvm.Cond.code ({ cls := "com/example/emu/emu/TableFormFromPrefixPinLaw", name := "border", desc := "([II)I" } : Jvm.MethodName) method_7_code (2 : Nat) (Option.some Jvm.ClassFile.FieldType.int)).before args0 about1 = true := code_word (m := ⟨1, 6⟩) (meth := k1m6) (c := k1c6) (by decide +kernel) rfl rfl rfl (by decide +kernel)
set_option maxRecDepth 65536 in
theorem w_c2 : (Jvm.Cond.code ({ cls := "com/example/emu/emu/TableFormFromPrefixPinLaw", name := "match", desc := "([III)Z" } : Jvm.MethodName) method_6_code (3 : Nat) (Option.some Jvm.ClassFile.FieldType.boolean)).before args0 about1 = true := code_word (m := ⟨1, 5⟩) (meth := k1m5) (c := k1c5) (by decide +kernel) rfl rfl rfl (by decide +kernel)
set_option maxRecDepth 65536 in
theorem w_c3 : (Jvm.Cond.code ({ cls := "com/example/emu/emu/TableFormFromPrefixPinLaw", name := "nextval", desc := "([I[I[II)I" } : Jvm.MethodName) method_5_code (5 : Nat) (Option.some Jvm.ClassFile.FieldType.int)).before args0 about1 = true := code_word (m := ⟨1, 4⟩) (meth := k1m4) (c := k1c4) (by decide +kernel) rfl rfl rfl (by decide +kernel)
set_option maxRecDepth 65536 in
theorem w_c4 : (Jvm.Cond.code ({ cls := "com/example/emu/emu/TableFormFromPrefixPinLaw", name := "pick", desc := "(I[I[I[II)I" } : Jvm.MethodName) method_4_code (5 : Nat) (Option.some Jvm.ClassFile.FieldType.int)).before args0 about1 = true := code_word (m := ⟨1, 3⟩) (meth := k1m3) (c := k1c3) (by decide +kernel) rfl rfl rfl (by decide +kernel)
set_option maxRecDepth 65536 in
theorem w_c5 : (Jvm.Cond.code ({ cls := "com/example/emu/emu/TableForm", name := "fromPrefix", desc := "([I)[I" } : Jvm.MethodName) prog_24_method_4_code (4 : Nat) (Option.some (Jvm.ClassFile.FieldType.array Jvm.ClassFile.FieldType.int))).before args0 about1 = true := code_word (m := ⟨6, 0⟩) (meth := k6m0) (c := k6c0) (by decide +kernel) rfl rfl rfl (by decide +kernel)
set_option maxRecDepth 65536 in
theorem w_c6 : (Jvm.Cond.code ({ cls := "com/example/emu/emu/TableForm", name := "entry", desc := "([I[II)I" } : Jvm.MethodName) prog_24_method_5_code (6 : Nat) (Option.some Jvm.ClassFile.FieldType.int)).before args0 about1 = true := code_word (m := ⟨6, 1⟩) (meth := k6m1) (c := k6c1) (by decide +kernel) rfl rfl rfl (by decide +kernel)
set_option maxRecDepth 65536 in
theorem w_c7 : (Jvm.Cond.code ({ cls := "java/lang/Enum", name := "ordinal", desc := "()I" } : Jvm.MethodName) jdk_37_method_2_code (1 : Nat) (Option.some Jvm.ClassFile.FieldType.int)).before args0 about1 = true := code_word (m := ⟨5, 0⟩) (meth := k5m0) (c := k5c0) (by decide +kernel) rfl rfl rfl (by decide +kernel)
set_option maxRecDepth 65536 in
theorem w_c8 : (Jvm.Cond.code ({ cls := "com/example/emu/emu/TableFormFromPrefixPinLaw", name := "agree", desc := "([I[II)Z" } : Jvm.MethodName) method_3_code (3 : Nat) (Option.some Jvm.ClassFile.FieldType.boolean)).before args0 about1 = true := code_word (m := ⟨1, 2⟩) (meth := k1m2) (c := k1c2) (by decide +kernel) rfl rfl rfl (by decide +kernel)
def codes1 : List Jvm.Cond := [Jvm.Cond.code x code maxLocals ret, Jvm.Cond.code ({ cls := "com/example/emu/emu/TableFormFromPrefixPinLaw", name := "border", desc := "([II)I" } : Jvm.MethodName) method_7_code (2 : Nat) (Option.some Jvm.ClassFile.FieldType.int), Jvm.Cond.code ({ cls := "com/example/emu/emu/TableFormFromPrefixPinLaw", name := "match", desc := "([III)Z" } : Jvm.MethodName) method_6_code (3 : Nat) (Option.some Jvm.ClassFile.FieldType.boolean), Jvm.Cond.code ({ cls := "com/example/emu/emu/TableFormFromPrefixPinLaw", name := "nextval", desc := "([I[I[II)I" } : Jvm.MethodName) method_5_code (5 : Nat) (Option.some Jvm.ClassFile.FieldType.int), Jvm.Cond.code ({ cls := "com/example/emu/emu/TableFormFromPrefixPinLaw", name := "pick", desc := "(I[I[I[II)I" } : Jvm.MethodName) method_4_code (5 : Nat) (Option.some Jvm.ClassFile.FieldType.int), Jvm.Cond.code ({ cls := "com/example/emu/emu/TableForm", name := "fromPrefix", desc := "([I)[I" } : Jvm.MethodName) prog_24_method_4_code (4 : Nat) (Option.some (Jvm.ClassFile.FieldType.array Jvm.ClassFile.FieldType.int)), Jvm.Cond.code ({ cls := "com/example/emu/emu/TableForm", name := "entry", desc := "([I[II)I" } : Jvm.MethodName) prog_24_method_5_code (6 : Nat) (Option.some Jvm.ClassFile.FieldType.int), Jvm.Cond.code ({ cls := "java/lang/Enum", name := "ordinal", desc := "()I" } : Jvm.MethodName) jdk_37_method_2_code (1 : Nat) (Option.some Jvm.ClassFile.FieldType.int), Jvm.Cond.code ({ cls := "com/example/emu/emu/TableFormFromPrefixPinLaw", name := "agree", desc := "([I[II)Z" } : Jvm.MethodName) method_3_code (3 : Nat) (Option.some Jvm.ClassFile.FieldType.boolean)]
set_option maxRecDepth 65536 in
theorem codes_eq : words1.filter isCode = codes1 := rfl
theorem w_codes : ∀ c ∈ words1.filter isCode, c.before args0 about1 = true := by
  rw [codes_eq]
  intro c hc
  simp only [codes1, List.mem_cons, List.not_mem_nil, or_false] at hc
  rcases hc with rfl | rfl | rfl | rfl | rfl | rfl | rfl | rfl | rfl
  · exact w_c0
  · exact w_c1
  · exact w_c2
  · exact w_c3
  · exact w_c4
  · exact w_c5
  · exact w_c6
  · exact w_c7
  · exact w_c8
set_option maxRecDepth 65536 in
theorem w_t1 : (words1.take 24).all (fun c => isCode c || c.before args0 about1) = true := by decide +kernel
set_option maxRecDepth 65536 in
theorem w_t2 : (words1.drop 24).all (fun c => isCode c || c.before args0 about1) = true := by decide +kernel
theorem w_tables : (allAtoms (Jvm.Cond.code x code maxLocals ret :: tables_1)).before args0 about1 = true := by
  rw [allAtoms_all]
  show words1.all (fun c => c.before args0 about1) = true
  refine all_split ?_ w_codes
  rw [← List.take_append_drop 24 words1, List.all_append, w_t1, w_t2]
  rfl
set_option maxRecDepth 65536 in
theorem w_case : (Jvm.Cond.and given_1 narrow_1).before args0 about1 = true := by decide +kernel
theorem w_applies : (headSpec (Jvm.Cond.code x code maxLocals ret :: tables_1) room_1).applies x e0.platform about1 = true :=
  (Spec.applies_iff w_frames).mpr ⟨w_running, w_runnable, w_alone, w_named, w_hears, w_ripe, w_room, w_tables⟩
theorem atStart : AtStart classFile x code maxLocals ret World_1 tables_1 room_1 Calls_1 rest_1 Pre_1 launch0 p0 e0 about1 theMethod args0 below0 :=
  ⟨lists_1, trivial, launch0.admits_env _ _ _, launch0.least_env, fairChoices_fair.cas, fairChoices_fair.clock, w_frames, w_args, w_heap, w_applies, trivial, trivial, w_case⟩
end start1
theorem witness_1 : WitnessClaimed_1 := ⟨start1.p0, start1.e0, start1.about1, start1.theMethod, start1.args0, start1.below0, start1.atStart⟩
end Jvm.Pilot.@@N@@
