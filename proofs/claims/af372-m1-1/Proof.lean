import JvmDerived
import JvmDerived.Pilot.@@N@@Statement
import JvmDerived.Pilot.@@N@@Code
set_option linter.unusedVariables false
set_option linter.unusedSimpArgs false
namespace Jvm.RoadKit
open Sem ClassFile Op Lib Jvm.Stand Jvm.Free Jvm.LawKit
section New
variable {p : Program} {l : Launch} {e : Env} {R : Room} {s : State} {m : MethodId} {args : Array Value} {below : List Frame} {meth : Method} {c : Code} {T : State} {locs : List Loc} {cells slots : Nat}
theorem retI (X : Stand p l e R s m args below meth c T locs cells slots) (hx : p.tables.exec = Jvm.exec) {pc : Nat} {Ls : Array Slot} {z : Int32} {rest : List Value} (hret : meth.sig.returnType = some .int) (hd : decode c.code pc = .ok (.ireturn, 1)) {fs : List Frame}
    (hl : ∀ (f : JFrame) (acts : List Action), f.method = m → f.locked = none → f.entered = [] → (doReturn e (T.setTop f) acts (some (.int z))).1 = T.setFrames fs) : Steps p.tables e below (T.setTop (mkF m pc Ls (.int z :: rest))) (T.setFrames fs) := by
  have hm' : T.vm.method? m = some meth := X.method'
  have hn : narrow .int (.int z) = .int z := rfl
  show Steps p.tables e below (T.setTop { method := m, pc := pc, locals := Ls, stack := _ :: rest, locked := none }) _
  jvm_step X.here [X.here.top, hx, hd, hm', hret, hn]
  first | (intro acts; rw [hl _ acts rfl rfl rfl]) | rw [hl _ _ rfl rfl rfl]
  exact Steps.refl _
end New
end Jvm.RoadKit
namespace Jvm.Pilot.@@N@@
open Jvm Jvm.ClassFile Sem Op Lib Jvm.Free Jvm.Stand Jvm.LawKit Jvm.RoadKit Bundle Jvm.Pilot.@@N@@.Jvm.D
theorem own_le {a b : Nat} (h : a = b) : 2 * 0 + a ≤ b := by omega
theorem own_m (i : Nat) {d : Jvm.Cond} (h : tables_1[i]? = some d) : d ∈ tables_1 := List.mem_of_getElem? h
/-- from the state T at the frame g the method comes to its return, with Q of what it returns -/
def own_Goes (tb : Tables) (e : Env) (below : List Frame) (s : State) (Q : Option Value → Heap → List Loc → Prop) (rc rs : Nat) (T : State) (g : JFrame) : Prop :=
  ∃ s₂ o, Steps tb e below (T.setTop g) s₂ ∧ s₂.status = .running ∧ Ended s₂ below o ∧ ∃ v L, o = .returned v ∧ Q v s₂.heap L ∧ FrameEnd s o s₂ L rc rs
theorem own_by {tb : Tables} {e : Env} {below : List Frame} {s : State} {Q : Option Value → Heap → List Loc → Prop} {rc rs : Nat} {T T' : State} {g g' : JFrame} (h : ∀ t, Steps tb e below (T'.setTop g') t → Steps tb e below (T.setTop g) t) (k : own_Goes tb e below s Q rc rs T' g') : own_Goes tb e below s Q rc rs T g := by
  obtain ⟨s₂, o, h1, h2⟩ := k
  exact ⟨s₂, o, h _ h1, h2⟩
section OwnRet
variable {p : Program} {l : Launch} {e : Env} {R : Room} {s : State} {m : MethodId} {args : Array Value} {below : List Frame} {meth : Method} {c : Code} {T : State} {locs : List Loc} {cells slots : Nat} {Q : Option Value → Heap → List Loc → Prop} {rc rs : Nat} {pc : Nat} {Ls : Array Slot} {rest : List Value}
theorem own_retI (X : Stand p l e R s m args below meth c T locs cells slots) (hx : p.tables.exec = Jvm.exec) {z : Int32} (hlk : meth.locks = false) (hret : meth.sig.returnType = some .int) (hd : decode c.code pc = .ok (.ireturn, 1)) (hc : cells ≤ rc) (hs : slots ≤ rs)
    (hQ : Q (some (.int z)) T.heap locs) : own_Goes p.tables e below s Q rc rs T (mkF m pc Ls (.int z :: rest)) := by
  obtain ⟨fs, hr, hrun, hended, hW, hsame⟩ := X.leave (v := some (.int z)) (fun h => by rw [hret] at h; cases h)
  exact ⟨_, _, retI X hx hret hd hr, hrun, hended, _, _, rfl, hQ, ⟨_, rfl⟩, hW, hsame.mono hc hs⟩
theorem own_retN (X : Stand p l e R s m args below meth c T locs cells slots) (hx : p.tables.exec = Jvm.exec) {z : Int32} {t : FieldType} (hlk : meth.locks = false) (hret : meth.sig.returnType = some t) (ht : t = .boolean ∨ t = .byte ∨ t = .char ∨ t = .short) (hd : decode c.code pc = .ok (.ireturn, 1)) (hc : cells ≤ rc) (hs : slots ≤ rs)
    (hQ : Q (some (.int (nar t z))) T.heap locs) : own_Goes p.tables e below s Q rc rs T (mkF m pc Ls (.int z :: rest)) := by
  obtain ⟨fs, hr, hrun, hended, hW, hsame⟩ := X.leave (v := some (.int (nar t z))) (fun h => by rw [hret] at h; cases h)
  exact ⟨_, _, retN X hx hret ht hd hr, hrun, hended, _, _, rfl, hQ, ⟨_, rfl⟩, hW, hsame.mono hc hs⟩
theorem own_retV (X : Stand p l e R s m args below meth c T locs cells slots) (hx : p.tables.exec = Jvm.exec) (hlk : meth.locks = false) (hret : meth.sig.returnType = none) (hd : decode c.code pc = .ok (.return_, 1)) (hc : cells ≤ rc) (hs : slots ≤ rs)
    (hQ : Q none T.heap locs) : own_Goes p.tables e below s Q rc rs T (mkF m pc Ls []) := by
  obtain ⟨fs, hr, hrun, hended, hW, hsame⟩ := X.leave (v := none) (fun _ => rfl)
  exact ⟨_, _, X.returnOut hx hret hd hr, hrun, hended, _, _, rfl, hQ, ⟨_, rfl⟩, hW, hsame.mono hc hs⟩
theorem own_retJ (X : Stand p l e R s m args below meth c T locs cells slots) (hx : p.tables.exec = Jvm.exec) {z : Int64} (hlk : meth.locks = false) (hret : meth.sig.returnType = some .long) (hd : decode c.code pc = .ok (.lreturn, 1)) (hc : cells ≤ rc) (hs : slots ≤ rs)
    (hQ : Q (some (.long z)) T.heap locs) : own_Goes p.tables e below s Q rc rs T (mkF m pc Ls (.long z :: rest)) := by
  obtain ⟨fs, hr, hrun, hended, hW, hsame⟩ := X.leave (v := some (.long z)) (fun h => by rw [hret] at h; cases h)
  exact ⟨_, _, retOut X hx hret rfl (Or.inr (Or.inl ⟨rfl, rfl, _, rfl⟩)) hd hr, hrun, hended, _, _, rfl, hQ, ⟨_, rfl⟩, hW, hsame.mono hc hs⟩
theorem own_retD (X : Stand p l e R s m args below meth c T locs cells slots) (hx : p.tables.exec = Jvm.exec) {z : UInt64} (hlk : meth.locks = false) (hret : meth.sig.returnType = some .double) (hd : decode c.code pc = .ok (.dreturn, 1)) (hc : cells ≤ rc) (hs : slots ≤ rs)
    (hQ : Q (some (.double z)) T.heap locs) : own_Goes p.tables e below s Q rc rs T (mkF m pc Ls (.double z :: rest)) := by
  obtain ⟨fs, hr, hrun, hended, hW, hsame⟩ := X.leave (v := some (.double z)) (fun h => by rw [hret] at h; cases h)
  exact ⟨_, _, retOut X hx hret rfl (Or.inr (Or.inr (Or.inl ⟨rfl, rfl, _, rfl⟩))) hd hr, hrun, hended, _, _, rfl, hQ, ⟨_, rfl⟩, hW, hsame.mono hc hs⟩
theorem own_retA (X : Stand p l e R s m args below meth c T locs cells slots) (hx : p.tables.exec = Jvm.exec) {w : Value} {t : FieldType} (hlk : meth.locks = false) (hret : meth.sig.returnType = some t) (ht : t.isReference = true) (hw : w.isRef = true) (hn : narrow t w = w) (hd : decode c.code pc = .ok (.areturn, 1)) (hc : cells ≤ rc) (hs : slots ≤ rs)
    (hQ : Q (some w) T.heap locs) : own_Goes p.tables e below s Q rc rs T (mkF m pc Ls (w :: rest)) := by
  obtain ⟨fs, hr, hrun, hended, hW, hsame⟩ := X.leave (v := some w) (fun h => by rw [hret] at h; cases h)
  exact ⟨_, _, retOut X hx hret hn (Or.inr (Or.inr (Or.inr (Or.inr ⟨rfl, ht, hw⟩)))) hd hr, hrun, hended, _, _, rfl, hQ, ⟨_, rfl⟩, hW, hsame.mono hc hs⟩
end OwnRet
theorem own_nsE {Z : State} {h : Heap} {a : Addr} {C : String} (E : Exa Z h a C) : ∃ c : Cell, h[a]? = some c ∧ c.vm.isStatics = false := by
  obtain ⟨c, k, h1, -, -, h4, -⟩ := E
  exact ⟨c, h1, h4⟩
theorem own_nsV {Z : State} {h : Heap} {a : Addr} {k : ClassId} {ty : FieldType} {n : Int32} {vs : List Value} {d : Value} (F : Arv Z h a k ty n vs d) : ∃ c : Cell, h[a]? = some c ∧ c.vm.isStatics = false := by
  obtain ⟨c, A, -⟩ := F
  exact ⟨c, A.1, A.plain⟩
theorem own_staKeep {Z : State} {h h' : Heap} {C n d : String} {v : Value} {ws : List Addr} (S : Sta Z h C n d v) (K : Keep h h' ws) (q : ∀ x ∈ ws, ∃ c : Cell, h[x]? = some c ∧ c.vm.isStatics = false) : Sta Z h' C n d v := by
  obtain ⟨cf, i, k, f, st, cell, h1, h2, h3, h4, h5, h6, h7⟩ := S
  refine ⟨cf, i, k, f, st, cell, h1, h2, h3, h4, K.2.1 st cell h5 (fun hin => ?_), h6, h7⟩
  obtain ⟨c, hc, hs⟩ := q st hin
  rw [h5] at hc
  cases hc
  rw [h6] at hs
  cases hs
theorem own_arrKeep {Z : State} {h h' : Heap} {a : Addr} {c : Cell} {ty : FieldType} {ws : List Addr} (A : Arr Z h a c ty) (K : Keep h h' ws) (q : a ∉ ws) : Arr Z h' a c ty := ⟨K.2.1 a c A.1 q, A.2⟩
abbrev Ls0 (x0 : Int32) : Array Slot := #[.val (.int x0)]
abbrev Ls1 (x0 : Addr) (x1 : Addr) : Array Slot := #[.val (.ref x0), .val (.ref x1), .unset, .unset, .unset, .unset, .unset, .unset]
abbrev Ls2 (x0 : Addr) (x1 : Addr) (x2 : UInt64) : Array Slot := #[.val (.ref x0), .val (.ref x1), .val (.double x2), .second, .unset, .unset, .unset, .unset]
abbrev Ls3 (x0 : Addr) (x1 : Addr) (x2 : UInt64) (x3 : UInt64) : Array Slot := #[.val (.ref x0), .val (.ref x1), .val (.double x2), .second, .val (.double x3), .second, .unset, .unset]
abbrev Ls4 (x0 : Addr) (x1 : Addr) (x2 : UInt64) (x3 : UInt64) (x4 : Int32) : Array Slot := #[.val (.ref x0), .val (.ref x1), .val (.double x2), .second, .val (.double x3), .second, .val (.int x4), .unset]
abbrev Ls5 (x0 : Addr) (x1 : Addr) (x2 : UInt64) (x3 : UInt64) (x4 : Int32) (x5 : Int32) : Array Slot := #[.val (.ref x0), .val (.ref x1), .val (.double x2), .second, .val (.double x3), .second, .val (.int x4), .val (.int x5)]
abbrev Ls6 (x0 : Int32) (x1 : Int32) (x2 : Int32) (x3 : Int32) (x4 : Int32) (x5 : Int32) : Array Slot := #[.val (.int x0), .val (.int x1), .val (.int x2), .val (.int x3), .val (.int x4), .val (.int x5), .unset, .unset, .unset, .unset, .unset, .unset, .unset, .unset, .unset, .unset, .unset, .unset, .unset, .unset, .unset, .unset, .unset, .unset, .unset, .unset, .unset, .unset, .unset, .unset, .unset, .unset, .unset, .unset, .unset, .unset, .unset, .unset]
abbrev Ls7 (x0 : Int32) (x1 : Int32) (x2 : Int32) (x3 : Int32) (x4 : Int32) (x5 : Int32) (x6 : Int64) : Array Slot := #[.val (.int x0), .val (.int x1), .val (.int x2), .val (.int x3), .val (.int x4), .val (.int x5), .val (.long x6), .second, .unset, .unset, .unset, .unset, .unset, .unset, .unset, .unset, .unset, .unset, .unset, .unset, .unset, .unset, .unset, .unset, .unset, .unset, .unset, .unset, .unset, .unset, .unset, .unset, .unset, .unset, .unset, .unset, .unset, .unset]
abbrev Ls8 (x0 : Int32) (x1 : Int32) (x2 : Int32) (x3 : Int32) (x4 : Int32) (x5 : Int32) (x6 : Int64) (x7 : Int64) : Array Slot := #[.val (.int x0), .val (.int x1), .val (.int x2), .val (.int x3), .val (.int x4), .val (.int x5), .val (.long x6), .second, .val (.long x7), .second, .unset, .unset, .unset, .unset, .unset, .unset, .unset, .unset, .unset, .unset, .unset, .unset, .unset, .unset, .unset, .unset, .unset, .unset, .unset, .unset, .unset, .unset, .unset, .unset, .unset, .unset, .unset, .unset]
abbrev Ls9 (x0 : Int32) (x1 : Int32) (x2 : Int32) (x3 : Int32) (x4 : Int32) (x5 : Int32) (x6 : Int64) (x7 : Int64) (x8 : Int64) : Array Slot := #[.val (.int x0), .val (.int x1), .val (.int x2), .val (.int x3), .val (.int x4), .val (.int x5), .val (.long x6), .second, .val (.long x7), .second, .val (.long x8), .second, .unset, .unset, .unset, .unset, .unset, .unset, .unset, .unset, .unset, .unset, .unset, .unset, .unset, .unset, .unset, .unset, .unset, .unset, .unset, .unset, .unset, .unset, .unset, .unset, .unset, .unset]
abbrev Ls10 (x0 : Int32) (x1 : Int32) (x2 : Int32) (x3 : Int32) (x4 : Int32) (x5 : Int32) (x6 : Int64) (x7 : Int64) (x8 : Int64) (x9 : Int64) : Array Slot := #[.val (.int x0), .val (.int x1), .val (.int x2), .val (.int x3), .val (.int x4), .val (.int x5), .val (.long x6), .second, .val (.long x7), .second, .val (.long x8), .second, .val (.long x9), .second, .unset, .unset, .unset, .unset, .unset, .unset, .unset, .unset, .unset, .unset, .unset, .unset, .unset, .unset, .unset, .unset, .unset, .unset, .unset, .unset, .unset, .unset, .unset, .unset]
abbrev Ls11 (x0 : Int32) (x1 : Int32) (x2 : Int32) (x3 : Int32) (x4 : Int32) (x5 : Int32) (x6 : Int64) (x7 : Int64) (x8 : Int64) (x9 : Int64) (x10 : Int64) : Array Slot := #[.val (.int x0), .val (.int x1), .val (.int x2), .val (.int x3), .val (.int x4), .val (.int x5), .val (.long x6), .second, .val (.long x7), .second, .val (.long x8), .second, .val (.long x9), .second, .val (.long x10), .second, .unset, .unset, .unset, .unset, .unset, .unset, .unset, .unset, .unset, .unset, .unset, .unset, .unset, .unset, .unset, .unset, .unset, .unset, .unset, .unset, .unset, .unset]
abbrev Ls12 (x0 : Int32) (x1 : Int32) (x2 : Int32) (x3 : Int32) (x4 : Int32) (x5 : Int32) (x6 : Int64) (x7 : Int64) (x8 : Int64) (x9 : Int64) (x10 : Int64) (x11 : Int64) : Array Slot := #[.val (.int x0), .val (.int x1), .val (.int x2), .val (.int x3), .val (.int x4), .val (.int x5), .val (.long x6), .second, .val (.long x7), .second, .val (.long x8), .second, .val (.long x9), .second, .val (.long x10), .second, .val (.long x11), .second, .unset, .unset, .unset, .unset, .unset, .unset, .unset, .unset, .unset, .unset, .unset, .unset, .unset, .unset, .unset, .unset, .unset, .unset, .unset, .unset]
abbrev Ls13 (x0 : Int32) (x1 : Int32) (x2 : Int32) (x3 : Int32) (x4 : Int32) (x5 : Int32) (x6 : Int64) (x7 : Int64) (x8 : Int64) (x9 : Int64) (x10 : Int64) (x11 : Int64) (x12 : UInt64) : Array Slot := #[.val (.int x0), .val (.int x1), .val (.int x2), .val (.int x3), .val (.int x4), .val (.int x5), .val (.long x6), .second, .val (.long x7), .second, .val (.long x8), .second, .val (.long x9), .second, .val (.long x10), .second, .val (.long x11), .second, .val (.double x12), .second, .unset, .unset, .unset, .unset, .unset, .unset, .unset, .unset, .unset, .unset, .unset, .unset, .unset, .unset, .unset, .unset, .unset, .unset]
abbrev Ls14 (x0 : Int32) (x1 : Int32) (x2 : Int32) (x3 : Int32) (x4 : Int32) (x5 : Int32) (x6 : Int64) (x7 : Int64) (x8 : Int64) (x9 : Int64) (x10 : Int64) (x11 : Int64) (x12 : UInt64) (x13 : UInt64) : Array Slot := #[.val (.int x0), .val (.int x1), .val (.int x2), .val (.int x3), .val (.int x4), .val (.int x5), .val (.long x6), .second, .val (.long x7), .second, .val (.long x8), .second, .val (.long x9), .second, .val (.long x10), .second, .val (.long x11), .second, .val (.double x12), .second, .val (.double x13), .second, .unset, .unset, .unset, .unset, .unset, .unset, .unset, .unset, .unset, .unset, .unset, .unset, .unset, .unset, .unset, .unset]
abbrev Ls15 (x0 : Int32) (x1 : Int32) (x2 : Int32) (x3 : Int32) (x4 : Int32) (x5 : Int32) (x6 : Int64) (x7 : Int64) (x8 : Int64) (x9 : Int64) (x10 : Int64) (x11 : Int64) (x12 : UInt64) (x13 : UInt64) (x14 : UInt64) : Array Slot := #[.val (.int x0), .val (.int x1), .val (.int x2), .val (.int x3), .val (.int x4), .val (.int x5), .val (.long x6), .second, .val (.long x7), .second, .val (.long x8), .second, .val (.long x9), .second, .val (.long x10), .second, .val (.long x11), .second, .val (.double x12), .second, .val (.double x13), .second, .val (.double x14), .second, .unset, .unset, .unset, .unset, .unset, .unset, .unset, .unset, .unset, .unset, .unset, .unset, .unset, .unset]
abbrev Ls16 (x0 : Int32) (x1 : Int32) (x2 : Int32) (x3 : Int32) (x4 : Int32) (x5 : Int32) (x6 : Int64) (x7 : Int64) (x8 : Int64) (x9 : Int64) (x10 : Int64) (x11 : Int64) (x12 : UInt64) (x13 : UInt64) (x14 : UInt64) (x15 : UInt64) : Array Slot := #[.val (.int x0), .val (.int x1), .val (.int x2), .val (.int x3), .val (.int x4), .val (.int x5), .val (.long x6), .second, .val (.long x7), .second, .val (.long x8), .second, .val (.long x9), .second, .val (.long x10), .second, .val (.long x11), .second, .val (.double x12), .second, .val (.double x13), .second, .val (.double x14), .second, .val (.double x15), .second, .unset, .unset, .unset, .unset, .unset, .unset, .unset, .unset, .unset, .unset, .unset, .unset]
abbrev Ls17 (x0 : Int32) (x1 : Int32) (x2 : Int32) (x3 : Int32) (x4 : Int32) (x5 : Int32) (x6 : Int64) (x7 : Int64) (x8 : Int64) (x9 : Int64) (x10 : Int64) (x11 : Int64) (x12 : UInt64) (x13 : UInt64) (x14 : UInt64) (x15 : UInt64) (x16 : UInt64) : Array Slot := #[.val (.int x0), .val (.int x1), .val (.int x2), .val (.int x3), .val (.int x4), .val (.int x5), .val (.long x6), .second, .val (.long x7), .second, .val (.long x8), .second, .val (.long x9), .second, .val (.long x10), .second, .val (.long x11), .second, .val (.double x12), .second, .val (.double x13), .second, .val (.double x14), .second, .val (.double x15), .second, .val (.double x16), .second, .unset, .unset, .unset, .unset, .unset, .unset, .unset, .unset, .unset, .unset]
abbrev Ls18 (x0 : Int32) (x1 : Int32) (x2 : Int32) (x3 : Int32) (x4 : Int32) (x5 : Int32) (x6 : Int64) (x7 : Int64) (x8 : Int64) (x9 : Int64) (x10 : Int64) (x11 : Int64) (x12 : UInt64) (x13 : UInt64) (x14 : UInt64) (x15 : UInt64) (x16 : UInt64) (x17 : UInt64) : Array Slot := #[.val (.int x0), .val (.int x1), .val (.int x2), .val (.int x3), .val (.int x4), .val (.int x5), .val (.long x6), .second, .val (.long x7), .second, .val (.long x8), .second, .val (.long x9), .second, .val (.long x10), .second, .val (.long x11), .second, .val (.double x12), .second, .val (.double x13), .second, .val (.double x14), .second, .val (.double x15), .second, .val (.double x16), .second, .val (.double x17), .second, .unset, .unset, .unset, .unset, .unset, .unset, .unset, .unset]
abbrev Ls19 (x0 : Int32) (x1 : Int32) (x2 : Int32) (x3 : Int32) (x4 : Int32) (x5 : Int32) (x6 : Int64) (x7 : Int64) (x8 : Int64) (x9 : Int64) (x10 : Int64) (x11 : Int64) (x12 : UInt64) (x13 : UInt64) (x14 : UInt64) (x15 : UInt64) (x16 : UInt64) (x17 : UInt64) (x18 : Addr) : Array Slot := #[.val (.int x0), .val (.int x1), .val (.int x2), .val (.int x3), .val (.int x4), .val (.int x5), .val (.long x6), .second, .val (.long x7), .second, .val (.long x8), .second, .val (.long x9), .second, .val (.long x10), .second, .val (.long x11), .second, .val (.double x12), .second, .val (.double x13), .second, .val (.double x14), .second, .val (.double x15), .second, .val (.double x16), .second, .val (.double x17), .second, .val (.ref x18), .unset, .unset, .unset, .unset, .unset, .unset, .unset]
abbrev Ls20 (x0 : Int32) (x1 : Int32) (x2 : Int32) (x3 : Int32) (x4 : Int32) (x5 : Int32) (x6 : Int64) (x7 : Int64) (x8 : Int64) (x9 : Int64) (x10 : Int64) (x11 : Int64) (x12 : UInt64) (x13 : UInt64) (x14 : UInt64) (x15 : UInt64) (x16 : UInt64) (x17 : UInt64) (x18 : Addr) (x19 : Addr) : Array Slot := #[.val (.int x0), .val (.int x1), .val (.int x2), .val (.int x3), .val (.int x4), .val (.int x5), .val (.long x6), .second, .val (.long x7), .second, .val (.long x8), .second, .val (.long x9), .second, .val (.long x10), .second, .val (.long x11), .second, .val (.double x12), .second, .val (.double x13), .second, .val (.double x14), .second, .val (.double x15), .second, .val (.double x16), .second, .val (.double x17), .second, .val (.ref x18), .val (.ref x19), .unset, .unset, .unset, .unset, .unset, .unset]
abbrev Ls21 (x0 : Int32) (x1 : Int32) (x2 : Int32) (x3 : Int32) (x4 : Int32) (x5 : Int32) (x6 : Int64) (x7 : Int64) (x8 : Int64) (x9 : Int64) (x10 : Int64) (x11 : Int64) (x12 : UInt64) (x13 : UInt64) (x14 : UInt64) (x15 : UInt64) (x16 : UInt64) (x17 : UInt64) (x18 : Addr) (x19 : Addr) (x20 : Int32) : Array Slot := #[.val (.int x0), .val (.int x1), .val (.int x2), .val (.int x3), .val (.int x4), .val (.int x5), .val (.long x6), .second, .val (.long x7), .second, .val (.long x8), .second, .val (.long x9), .second, .val (.long x10), .second, .val (.long x11), .second, .val (.double x12), .second, .val (.double x13), .second, .val (.double x14), .second, .val (.double x15), .second, .val (.double x16), .second, .val (.double x17), .second, .val (.ref x18), .val (.ref x19), .val (.int x20), .unset, .unset, .unset, .unset, .unset]
abbrev Ls22 (x0 : Int32) (x1 : Int32) (x2 : Int32) (x3 : Int32) (x4 : Int32) (x5 : Int32) (x6 : Int64) (x7 : Int64) (x8 : Int64) (x9 : Int64) (x10 : Int64) (x11 : Int64) (x12 : UInt64) (x13 : UInt64) (x14 : UInt64) (x15 : UInt64) (x16 : UInt64) (x17 : UInt64) (x18 : Addr) (x19 : Addr) (x20 : Int32) (x21 : Int64) : Array Slot := #[.val (.int x0), .val (.int x1), .val (.int x2), .val (.int x3), .val (.int x4), .val (.int x5), .val (.long x6), .second, .val (.long x7), .second, .val (.long x8), .second, .val (.long x9), .second, .val (.long x10), .second, .val (.long x11), .second, .val (.double x12), .second, .val (.double x13), .second, .val (.double x14), .second, .val (.double x15), .second, .val (.double x16), .second, .val (.double x17), .second, .val (.ref x18), .val (.ref x19), .val (.int x20), .val (.long x21), .second, .unset, .unset, .unset]
abbrev Ls23 (x0 : Int32) (x1 : Int32) (x2 : Int32) (x3 : Int32) (x4 : Int32) (x5 : Int32) (x6 : Int64) (x7 : Int64) (x8 : Int64) (x9 : Int64) (x10 : Int64) (x11 : Int64) (x12 : UInt64) (x13 : UInt64) (x14 : UInt64) (x15 : UInt64) (x16 : UInt64) (x17 : UInt64) (x18 : Addr) (x19 : Addr) (x20 : Int32) (x21 : Int64) (x22 : Int64) : Array Slot := #[.val (.int x0), .val (.int x1), .val (.int x2), .val (.int x3), .val (.int x4), .val (.int x5), .val (.long x6), .second, .val (.long x7), .second, .val (.long x8), .second, .val (.long x9), .second, .val (.long x10), .second, .val (.long x11), .second, .val (.double x12), .second, .val (.double x13), .second, .val (.double x14), .second, .val (.double x15), .second, .val (.double x16), .second, .val (.double x17), .second, .val (.ref x18), .val (.ref x19), .val (.int x20), .val (.long x21), .second, .val (.long x22), .second, .unset]
abbrev Ls24 (x0 : Int32) (x1 : Int32) (x2 : Int32) (x3 : Int32) (x4 : Int32) (x5 : Int32) (x6 : Int64) (x7 : Int64) (x8 : Int64) (x9 : Int64) (x10 : Int64) (x11 : Int64) (x12 : UInt64) (x13 : UInt64) (x14 : UInt64) (x15 : UInt64) (x16 : UInt64) (x17 : UInt64) (x18 : Addr) (x19 : Addr) (x20 : Int32) (x21 : Int64) (x22 : Int64) (x23 : Int32) : Array Slot := #[.val (.int x0), .val (.int x1), .val (.int x2), .val (.int x3), .val (.int x4), .val (.int x5), .val (.long x6), .second, .val (.long x7), .second, .val (.long x8), .second, .val (.long x9), .second, .val (.long x10), .second, .val (.long x11), .second, .val (.double x12), .second, .val (.double x13), .second, .val (.double x14), .second, .val (.double x15), .second, .val (.double x16), .second, .val (.double x17), .second, .val (.ref x18), .val (.ref x19), .val (.int x20), .val (.long x21), .second, .val (.long x22), .second, .val (.int x23)]

section OwnC
variable {p : Program} {l : Launch} {e : Env} {R : Room} {s s0 : State} {m : MethodId} {args : Array Value} {below : List Frame} {meth : Method} {c : Code} {T : State} {locs : List Loc} {cells slots : Nat} {Q : Option Value → Heap → List Loc → Prop} {rc rs pc : Nat} {Ls : Array Slot} {S : List Value}
theorem oIl (q : Nat) (X : Stand p l e R s m args below meth c T locs cells slots) (hx : p.tables.exec = Jvm.exec) {k : Nat} {v : Int32} (hd : decode c.code pc = .ok (.iload k, 2)) (hl : Ls[k]? = some (.val (.int v))) (hq : pc + 2 = q) (G : own_Goes p.tables e below s0 Q rc rs T (mkF m q Ls (.int v :: S))) : own_Goes p.tables e below s0 Q rc rs T (mkF m pc Ls S) := by subst hq; exact own_by (fun t u => XS.iload X.here hx rfl hd hl u) G
theorem oIlN (q : Nat) (X : Stand p l e R s m args below meth c T locs cells slots) (hx : p.tables.exec = Jvm.exec) {k : Fin 4} {v : Int32} (hd : decode c.code pc = .ok (.iload_n k, 1)) (hl : Ls[k.val]? = some (.val (.int v))) (hq : pc + 1 = q) (G : own_Goes p.tables e below s0 Q rc rs T (mkF m q Ls (.int v :: S))) : own_Goes p.tables e below s0 Q rc rs T (mkF m pc Ls S) := by subst hq; exact own_by (fun t u => XS.iloadN X.here hx rfl hd hl u) G
theorem oDl (q : Nat) (X : Stand p l e R s m args below meth c T locs cells slots) (hx : p.tables.exec = Jvm.exec) {k : Nat} {v : UInt64} (hd : decode c.code pc = .ok (.dload k, 2)) (hl : Ls[k]? = some (.val (.double v))) (hq : pc + 2 = q) (G : own_Goes p.tables e below s0 Q rc rs T (mkF m q Ls (.double v :: S))) : own_Goes p.tables e below s0 Q rc rs T (mkF m pc Ls S) := by subst hq; exact own_by (fun t u => XS.dload X.here hx rfl hd hl u) G
theorem oDlN (q : Nat) (X : Stand p l e R s m args below meth c T locs cells slots) (hx : p.tables.exec = Jvm.exec) {k : Fin 4} {v : UInt64} (hd : decode c.code pc = .ok (.dload_n k, 1)) (hl : Ls[k.val]? = some (.val (.double v))) (hq : pc + 1 = q) (G : own_Goes p.tables e below s0 Q rc rs T (mkF m q Ls (.double v :: S))) : own_Goes p.tables e below s0 Q rc rs T (mkF m pc Ls S) := by subst hq; exact own_by (fun t u => XS.dloadN X.here hx rfl hd hl u) G
theorem oAl (q : Nat) (X : Stand p l e R s m args below meth c T locs cells slots) (hx : p.tables.exec = Jvm.exec) {k : Nat} {v : Addr} (hd : decode c.code pc = .ok (.aload k, 2)) (hl : Ls[k]? = some (.val (.ref v))) (hq : pc + 2 = q) (G : own_Goes p.tables e below s0 Q rc rs T (mkF m q Ls (.ref v :: S))) : own_Goes p.tables e below s0 Q rc rs T (mkF m pc Ls S) := by subst hq; exact own_by (fun t u => XS.aload X.here hx rfl hd hl rfl u) G
theorem oAlN (q : Nat) (X : Stand p l e R s m args below meth c T locs cells slots) (hx : p.tables.exec = Jvm.exec) {k : Fin 4} {v : Addr} (hd : decode c.code pc = .ok (.aload_n k, 1)) (hl : Ls[k.val]? = some (.val (.ref v))) (hq : pc + 1 = q) (G : own_Goes p.tables e below s0 Q rc rs T (mkF m q Ls (.ref v :: S))) : own_Goes p.tables e below s0 Q rc rs T (mkF m pc Ls S) := by subst hq; exact own_by (fun t u => XS.aloadN X.here hx rfl hd hl rfl u) G
theorem oIst (q : Nat) (X : Stand p l e R s m args below meth c T locs cells slots) (hx : p.tables.exec = Jvm.exec) {k : Nat} {v : Int32} (hd : decode c.code pc = .ok (.istore k, 2)) (L' : Array Slot) (hl : storeLocals Ls k (.int v) = some L') (hq : pc + 2 = q) (G : own_Goes p.tables e below s0 Q rc rs T (mkF m q L' S)) : own_Goes p.tables e below s0 Q rc rs T (mkF m pc Ls (.int v :: S)) := by subst hq; exact own_by (fun t u => XS.istore X.here hx rfl hd rfl hl u) G
theorem oIstN (q : Nat) (X : Stand p l e R s m args below meth c T locs cells slots) (hx : p.tables.exec = Jvm.exec) {k : Fin 4} {v : Int32} (hd : decode c.code pc = .ok (.istore_n k, 1)) (L' : Array Slot) (hl : storeLocals Ls k.val (.int v) = some L') (hq : pc + 1 = q) (G : own_Goes p.tables e below s0 Q rc rs T (mkF m q L' S)) : own_Goes p.tables e below s0 Q rc rs T (mkF m pc Ls (.int v :: S)) := by subst hq; exact own_by (fun t u => XS.istoreN X.here hx rfl hd rfl hl u) G
theorem oDst (q : Nat) (X : Stand p l e R s m args below meth c T locs cells slots) (hx : p.tables.exec = Jvm.exec) {k : Nat} {v : UInt64} (hd : decode c.code pc = .ok (.dstore k, 2)) (L' : Array Slot) (hl : storeLocals Ls k (.double v) = some L') (hq : pc + 2 = q) (G : own_Goes p.tables e below s0 Q rc rs T (mkF m q L' S)) : own_Goes p.tables e below s0 Q rc rs T (mkF m pc Ls (.double v :: S)) := by subst hq; exact own_by (fun t u => XS.dstore X.here hx rfl hd rfl hl u) G
theorem oAst (q : Nat) (X : Stand p l e R s m args below meth c T locs cells slots) (hx : p.tables.exec = Jvm.exec) {k : Nat} {v : Addr} (hd : decode c.code pc = .ok (.astore k, 2)) (L' : Array Slot) (hl : storeLocals Ls k (.ref v) = some L') (hq : pc + 2 = q) (G : own_Goes p.tables e below s0 Q rc rs T (mkF m q L' S)) : own_Goes p.tables e below s0 Q rc rs T (mkF m pc Ls (.ref v :: S)) := by subst hq; exact own_by (fun t u => XS.astore X.here hx rfl hd rfl rfl hl u) G
theorem oAstN (q : Nat) (X : Stand p l e R s m args below meth c T locs cells slots) (hx : p.tables.exec = Jvm.exec) {k : Fin 4} {v : Addr} (hd : decode c.code pc = .ok (.astore_n k, 1)) (L' : Array Slot) (hl : storeLocals Ls k.val (.ref v) = some L') (hq : pc + 1 = q) (G : own_Goes p.tables e below s0 Q rc rs T (mkF m q L' S)) : own_Goes p.tables e below s0 Q rc rs T (mkF m pc Ls (.ref v :: S)) := by subst hq; exact own_by (fun t u => XS.astoreN X.here hx rfl hd rfl rfl hl u) G
theorem oIc (q : Nat) (X : Stand p l e R s m args below meth c T locs cells slots) (hx : p.tables.exec = Jvm.exec) {i : Int} (hd : decode c.code pc = .ok (.iconst i, 1)) (z : Int32) (hz : Int32.ofInt i = z) (hq : pc + 1 = q) (G : own_Goes p.tables e below s0 Q rc rs T (mkF m q Ls (.int z :: S))) : own_Goes p.tables e below s0 Q rc rs T (mkF m pc Ls S) := by subst hq; exact own_by (fun t u => by subst hz; exact XS.iconst X.here hx rfl hd u) G
theorem oInc (q : Nat) (X : Stand p l e R s m args below meth c T locs cells slots) (hx : p.tables.exec = Jvm.exec) {k : Nat} {i : Int} {v : Int32} (hd : decode c.code pc = .ok (.iinc k i, 3)) (L' : Array Slot) (hv : Ls[k]? = some (.val (.int v))) (hl : storeLocals Ls k (.int (v + Int32.ofInt i)) = some L') (hq : pc + 3 = q) (G : own_Goes p.tables e below s0 Q rc rs T (mkF m q L' S)) : own_Goes p.tables e below s0 Q rc rs T (mkF m pc Ls S) := by subst hq; exact own_by (fun t u => XS.iinc X.here hx rfl hd hv hl u) G
theorem oAdd (q : Nat) (X : Stand p l e R s m args below meth c T locs cells slots) (hx : p.tables.exec = Jvm.exec) {x y : Int32} (hd : decode c.code pc = .ok (.iadd, 1)) (z : Int32) (hz : x + y = z) (hq : pc + 1 = q) (G : own_Goes p.tables e below s0 Q rc rs T (mkF m q Ls (.int z :: S))) : own_Goes p.tables e below s0 Q rc rs T (mkF m pc Ls (.int y :: .int x :: S)) := by subst hq; exact own_by (fun t u => by subst hz; exact XS.iadd X.here hx rfl hd rfl u) G
theorem oSub (q : Nat) (X : Stand p l e R s m args below meth c T locs cells slots) (hx : p.tables.exec = Jvm.exec) {x y : Int32} (hd : decode c.code pc = .ok (.isub, 1)) (z : Int32) (hz : x - y = z) (hq : pc + 1 = q) (G : own_Goes p.tables e below s0 Q rc rs T (mkF m q Ls (.int z :: S))) : own_Goes p.tables e below s0 Q rc rs T (mkF m pc Ls (.int y :: .int x :: S)) := by subst hq; exact own_by (fun t u => by subst hz; exact XS.isub X.here hx rfl hd rfl u) G
theorem oGo (q : Nat) (X : Stand p l e R s m args below meth c T locs cells slots) (hx : p.tables.exec = Jvm.exec) {o : Int} (hd : decode c.code pc = .ok (.goto o, 3))  (ho : 0 ≤ (pc : Int) + o) (hp : ((pc : Int) + o).toNat = q) (G : own_Goes p.tables e below s0 Q rc rs T (mkF m q Ls S)) : own_Goes p.tables e below s0 Q rc rs T (mkF m pc Ls S) := own_by (fun t u => XS.goto X.here hx rfl (pc0 := pc) (pc' := q) rfl hd ho hp u) G
theorem oCy (q : Nat) (X : Stand p l e R s m args below meth c T locs cells slots) (hx : p.tables.exec = Jvm.exec) {o : Int} {cd : ClassFile.Cond} {x y : Int32} (hd : decode c.code pc = .ok (.if_icmp cd o, 3)) (hc : if_icmp.holds cd x y = true) (ho : 0 ≤ (pc : Int) + o) (hp : ((pc : Int) + o).toNat = q) (G : own_Goes p.tables e below s0 Q rc rs T (mkF m q Ls S)) : own_Goes p.tables e below s0 Q rc rs T (mkF m pc Ls (.int y :: .int x :: S)) := own_by (fun t u => XS.icmpYes X.here hx rfl (pc0 := pc) (pc' := q) rfl hd rfl hc ho hp u) G
theorem oFy (q : Nat) (X : Stand p l e R s m args below meth c T locs cells slots) (hx : p.tables.exec = Jvm.exec) {o : Int} {cd : ClassFile.Cond} {x : Int32} (hd : decode c.code pc = .ok (.ifCond cd o, 3)) (hc : ifCond.holds cd x = true) (ho : 0 ≤ (pc : Int) + o) (hp : ((pc : Int) + o).toNat = q) (G : own_Goes p.tables e below s0 Q rc rs T (mkF m q Ls S)) : own_Goes p.tables e below s0 Q rc rs T (mkF m pc Ls (.int x :: S)) := own_by (fun t u => XS.ifYes X.here hx rfl (pc0 := pc) (pc' := q) rfl hd rfl hc ho hp u) G
theorem oCn (q : Nat) (X : Stand p l e R s m args below meth c T locs cells slots) (hx : p.tables.exec = Jvm.exec) {o : Int} {cd : ClassFile.Cond} {x y : Int32} (hd : decode c.code pc = .ok (.if_icmp cd o, 3)) (hc : if_icmp.holds cd x y = false) (hq : pc + 3 = q) (G : own_Goes p.tables e below s0 Q rc rs T (mkF m q Ls S)) : own_Goes p.tables e below s0 Q rc rs T (mkF m pc Ls (.int y :: .int x :: S)) := by subst hq; exact own_by (fun t u => XS.icmpNo X.here hx rfl hd rfl hc u) G
theorem oFn (q : Nat) (X : Stand p l e R s m args below meth c T locs cells slots) (hx : p.tables.exec = Jvm.exec) {o : Int} {cd : ClassFile.Cond} {x : Int32} (hd : decode c.code pc = .ok (.ifCond cd o, 3)) (hc : ifCond.holds cd x = false) (hq : pc + 3 = q) (G : own_Goes p.tables e below s0 Q rc rs T (mkF m q Ls S)) : own_Goes p.tables e below s0 Q rc rs T (mkF m pc Ls (.int x :: S)) := by subst hq; exact own_by (fun t u => XS.ifNo X.here hx rfl hd rfl hc u) G
theorem oIa (q : Nat) (X : Stand p l e R s m args below meth c T locs cells slots) (hx : p.tables.exec = Jvm.exec) {Z : State} {h : Heap} (hZ : Z.Warmed39 s.vm) (eT : T.heap = h) {a : Addr} {k : ClassId} {z j : Int32} {vs : List Value} {dv : Value} (F : Arv Z h a k .int z vs dv) (v : Value) (hd : decode c.code pc = .ok (.iaload, 1)) (hi : ¬ j < 0 ∧ j < z) (hv : vs.getD j.toNatClampNeg dv = v) (hq : pc + 1 = q) (G : own_Goes p.tables e below s0 Q rc rs T (mkF m q Ls (v :: S))) : own_Goes p.tables e below s0 Q rc rs T (mkF m pc Ls (.int j :: .ref a :: S)) := by
  subst hq
  obtain ⟨cl, Ar, -, S', -, Hs, -⟩ := F
  have hin := inb_of S' hi
  exact own_by (fun t u => X.iaload hx (by rw [eT]; exact Ar.1) (State.isArrayOf_alike hZ.alike Ar.2.1) Ar.2.2 hin (Hs.at hin hv) (g := mkF m pc Ls (.int j :: .ref a :: S)) rfl rfl hd _ u) G
theorem oDa (q : Nat) (X : Stand p l e R s m args below meth c T locs cells slots) (hx : p.tables.exec = Jvm.exec) {Z : State} {h : Heap} (hZ : Z.Warmed39 s.vm) (eT : T.heap = h) {a : Addr} {k : ClassId} {z j : Int32} {vs : List Value} {dv : Value} (F : Arv Z h a k .double z vs dv) (v : Value) (hd : decode c.code pc = .ok (.daload, 1)) (hi : ¬ j < 0 ∧ j < z) (hv : vs.getD j.toNatClampNeg dv = v) (hq : pc + 1 = q) (G : own_Goes p.tables e below s0 Q rc rs T (mkF m q Ls (v :: S))) : own_Goes p.tables e below s0 Q rc rs T (mkF m pc Ls (.int j :: .ref a :: S)) := by
  subst hq
  obtain ⟨cl, Ar, -, S', -, Hs, -⟩ := F
  have hin := inb_of S' hi
  exact own_by (fun t u => X.daload hx (by rw [eT]; exact Ar.1) (State.isArrayOf_alike hZ.alike Ar.2.1) Ar.2.2 hin (Hs.at hin hv) (g := mkF m pc Ls (.int j :: .ref a :: S)) rfl rfl hd _ u) G
theorem oIs (q : Nat) (X : Stand p l e R s m args below meth c T locs cells slots) (hx : p.tables.exec = Jvm.exec) {Z : State} {h : Heap} (hZ : Z.Warmed39 s.vm) (eT : T.heap = h) {a : Addr} {k : ClassId} {z j : Int32} {x : Int32} {vs : List Value} {dv : Value} (F : Arv Z h a k .int z vs dv) (i : Nat) (vs' : List Value) (hd : decode c.code pc = .ok (.iastore, 1)) (hi : ¬ j < 0 ∧ j < z) (hj : j.toNatClampNeg = i) (hn : i < vs.length) (hvs : vs.set i (.int x) = vs') (hq : pc + 1 = q)
    (G : ∀ (T' : State) (h' : Heap), Stand p l e R s m args below meth c T' (locs ++ [⟨a, j.toNatClampNeg⟩]) cells slots → T'.heap = h' → Wr h h' a j.toNatClampNeg (.int x) → Arv Z h' a k .int z vs' dv → own_Goes p.tables e below s0 Q rc rs T' (mkF m q Ls S)) : own_Goes p.tables e below s0 Q rc rs T (mkF m pc Ls (.int x :: .int j :: .ref a :: S)) := by
  subst hq hvs
  obtain ⟨cl, Ar, q1, S', N', Hs, G'⟩ := F
  obtain ⟨T', h', X', e', W', st⟩ := stI X hx hZ eT Ar (j := j) (inb_of S' hi) (g := mkF m pc Ls (.int x :: .int j :: .ref a :: S)) rfl rfl hd
  exact own_by (fun t u => st t u) (G T' h' X' e' W' (Arv.set Ar q1 S' N' Hs G' rfl W' i hj hn))
theorem oDs (q : Nat) (X : Stand p l e R s m args below meth c T locs cells slots) (hx : p.tables.exec = Jvm.exec) {Z : State} {h : Heap} (hZ : Z.Warmed39 s.vm) (eT : T.heap = h) {a : Addr} {k : ClassId} {z j : Int32} {x : UInt64} {vs : List Value} {dv : Value} (F : Arv Z h a k .double z vs dv) (i : Nat) (vs' : List Value) (hd : decode c.code pc = .ok (.dastore, 1)) (hi : ¬ j < 0 ∧ j < z) (hj : j.toNatClampNeg = i) (hn : i < vs.length) (hvs : vs.set i (.double x) = vs') (hq : pc + 1 = q)
    (G : ∀ (T' : State) (h' : Heap), Stand p l e R s m args below meth c T' (locs ++ [⟨a, j.toNatClampNeg⟩]) cells slots → T'.heap = h' → Wr h h' a j.toNatClampNeg (.double x) → Arv Z h' a k .double z vs' dv → own_Goes p.tables e below s0 Q rc rs T' (mkF m q Ls S)) : own_Goes p.tables e below s0 Q rc rs T (mkF m pc Ls (.double x :: .int j :: .ref a :: S)) := by
  subst hq hvs
  obtain ⟨cl, Ar, q1, S', N', Hs, G'⟩ := F
  obtain ⟨T', h', X', e', W', st⟩ := stD X hx hZ eT Ar (j := j) (inb_of S' hi) (g := mkF m pc Ls (.double x :: .int j :: .ref a :: S)) rfl rfl hd
  exact own_by (fun t u => st t u) (G T' h' X' e' W' (Arv.set Ar q1 S' N' Hs G' rfl W' i hj hn))
theorem oF (q : Nat) (X : Stand p l e R s m args below meth c T locs cells slots) (hx : p.tables.exec = Jvm.exec) {Z : State} {h : Heap} (hZ : Z.Warmed39 s.vm) {a0 : Array Value} {own R0 O n d host : String} {index : Nat} (hown : s.vm.findClass own = some m.cls) (w : (Cond.fieldLink own index R0 n d).before a0 Z = true ∨ (Cond.fieldLinkNest own index R0 n d host).before a0 Z = true) (via : Via Z R0 O n d) (eT : T.heap = h) {a : Addr} {v : Value} (F : Fld Z h a O n d v) (hd : decode c.code pc = .ok (.getfield index, 3)) (hq : pc + 3 = q)
    (G : ∀ T' : State, Stand p l e R s m args below meth c T' locs cells slots → T'.heap = h → own_Goes p.tables e below s0 Q rc rs T' (mkF m q Ls (v :: S))) : own_Goes p.tables e below s0 Q rc rs T (mkF m pc Ls (.ref a :: S)) := by
  subst hq
  obtain ⟨T', X', e', st⟩ := getF X hx hZ hown w via eT F (g := mkF m pc Ls (.ref a :: S)) rfl rfl hd
  exact own_by (fun t u => st t u) (G T' X' e')
theorem kW {h0 h h' : Heap} {ws : List Addr} {a : Addr} {sl : Nat} {v : Value} (K : Keep h0 h ws) (W : Wr h h' a sl v) (i : Nat) (hi : ws[i]? = some a) : Keep h0 h' ws := K.wr W (Or.inl (List.mem_of_getElem? hi))
theorem oBi (q : Nat) (X : Stand p l e R s m args below meth c T locs cells slots) (hx : p.tables.exec = Jvm.exec) {i : Int} (hd : decode c.code pc = .ok (.bipush i, 2)) (z : Int32) (hz : (Int8.ofInt i).toInt32 = z) (hq : pc + 2 = q) (G : own_Goes p.tables e below s0 Q rc rs T (mkF m q Ls (.int z :: S))) : own_Goes p.tables e below s0 Q rc rs T (mkF m pc Ls S) := by subst hq; exact own_by (fun t u => by subst hz; exact XS.bipush X.here hx rfl hd u) G
theorem oDup (q : Nat) (X : Stand p l e R s m args below meth c T locs cells slots) (hx : p.tables.exec = Jvm.exec) {v : Value} (hd : decode c.code pc = .ok (.dup, 1)) (hv : v.category = 1) (hq : pc + 1 = q) (G : own_Goes p.tables e below s0 Q rc rs T (mkF m q Ls (v :: v :: S))) : own_Goes p.tables e below s0 Q rc rs T (mkF m pc Ls (v :: S)) := by subst hq; exact own_by (fun t u => XS.dup X.here hx rfl hd rfl hv u) G
end OwnC
section OwnQ
open Jvm.FP.Core
theorem own_inU (c : Nat) (q e : Int) : inUnits c q e = c * 2 ^ (q - e).toNat := rfl
theorem own_zv (f : Fmt) (d : Datum) : zval f d = signed (sgn d) (zmag f d) := rfl
theorem own_sgT (c : Nat) : signed true c = -(c : Int) := rfl
theorem own_sgF (c : Nat) : signed false c = (c : Int) := rfl
theorem own_sgA (s : Bool) (c : Nat) : (signed s c).natAbs = c := by
  cases s
  · rw [own_sgF, Int.natAbs_natCast]
  · rw [own_sgT, Int.natAbs_neg, Int.natAbs_natCast]
/-- a whole double's digits -/
theorem own_shape {a : Int64} (h : B53 a) : ∃ (c : Nat) (q : Int), val64 (FP.l2d a) = .fin (decide (a.toInt < 0)) c q ∧ c < 2 ^ 53 ∧ -1074 ≤ q ∧ q ≤ 971 ∧ (q = -1074 ∨ 2 ^ 52 ≤ c) ∧ c * 2 ^ (q + 1074).toNat = a.toInt.natAbs * 2 ^ 1074 := by
  obtain ⟨c, q, e⟩ := l2d_shape a
  have hf := val64_fits (FP.l2d a)
  have hw : Whole a.toInt (val64 (FP.l2d a)) := l2d_whole (sm h)
  have hz := whole_zval good_b64 hf hw
  rw [show val64 (FP.l2d a) = .fin (decide (a.toInt < 0)) c q from e] at hf hz
  obtain ⟨h1, h2, h3, h4⟩ := hf
  have e1 : b64.qmin = -1074 := by decide
  have e2 : b64.qmax = 971 := by decide
  rw [e1] at h2 h4
  rw [e2] at h3
  refine ⟨c, q, e, h1, h2, h3, h4, ?_⟩
  have hz' : signed (decide (a.toInt < 0)) (c * 2 ^ (q - b64.qmin).toNat) = a.toInt * ((2 ^ (-b64.qmin).toNat : Nat) : Int) := hz
  rw [e1, show q - (-1074) = q + 1074 by omega, show (-(-1074 : Int)).toNat = 1074 by decide] at hz'
  have hn := congrArg Int.natAbs hz'
  rw [Int.natAbs_mul, Int.natAbs_natCast, own_sgA] at hn
  exact hn
/-- the multiples of 1/256 are doubles -/
theorem own_V {m : Nat} (hm : m < 2 ^ 40) : ∃ V : Datum, Jvm.FP.Core.fits b64 V ∧ V ≠ .nan ∧ zmag b64 V = m * 2 ^ 1066 := by
  have e1 : b64.qmin = -1074 := by decide
  have e2 : b64.qmax = 971 := by decide
  by_cases h0 : m = 0
  · subst h0
    refine ⟨.fin false 0 (-1074), ⟨by decide, by rw [e1]; exact Int.le_refl _, by rw [e2]; decide, Or.inl e1.symm⟩, nofun, ?_⟩
    show inUnits 0 (-1074) b64.qmin = _
    rw [own_inU, Nat.zero_mul, Nat.zero_mul]
  · have ht : (Int64.ofNat m).toInt = m := Int64.toInt_ofNat_of_lt (by omega)
    obtain ⟨c, q, -, h1, h2, h3, h4, h5⟩ := own_shape (a := Int64.ofNat m) ⟨by rw [ht]; omega, by rw [ht]; omega⟩
    rw [ht, Int.natAbs_natCast] at h5
    have hq : -1066 ≤ q := by
      refine Int.not_lt.mp fun hlt => ?_
      have q1 : c * 2 ^ (q + 1074).toNat < 2 ^ 53 * 2 ^ 8 := Nat.lt_of_lt_of_le (Nat.mul_lt_mul_of_pos_right h1 (Nat.two_pow_pos _)) (Nat.mul_le_mul_left _ (Nat.pow_le_pow_right (by decide) (by omega)))
      have q2 : 1 * 2 ^ 1074 ≤ m * 2 ^ 1074 := Nat.mul_le_mul_right _ (by omega)
      rw [← h5] at q2
      have q3 : 2 ^ 53 * 2 ^ 8 ≤ 1 * 2 ^ 1074 := by
        rw [← Nat.pow_add, Nat.one_mul]
        exact Nat.pow_le_pow_right (by decide) (by decide)
      exact absurd (Nat.lt_of_le_of_lt (Nat.le_trans q3 q2) q1) (Nat.lt_irrefl _)
    refine ⟨.fin false c (q - 8), ⟨h1, by rw [e1]; omega, by rw [e2]; omega, Or.inr ?_⟩, nofun, ?_⟩
    · rcases h4 with h4 | h4
      · omega
      · exact h4
    · show inUnits c (q - 8) b64.qmin = _
      rw [own_inU, e1, show q - 8 - (-1074) = q + 1066 by omega]
      have e3 : (q + 1074).toNat = (q + 1066).toNat + 8 := by omega
      rw [e3, Nat.pow_add, ← Nat.mul_assoc, show (1074 : Nat) = 1066 + 8 from rfl, Nat.pow_add, ← Nat.mul_assoc] at h5
      exact Nat.eq_of_mul_eq_mul_right (by decide) h5
theorem own_72 : val64 (FP.l2d 72) = .fin false (72 * 2 ^ 46) (-46) := by decide +kernel
/-- the quotient of a whole double by 72: its sign, and where its magnitude lies -/
theorem own_quo {a : Int64} (h : B53 a) : ∃ D : Datum, val64 (FP.ddiv (FP.l2d a) (FP.l2d 72)) = D ∧ D ≠ .nan ∧ sgn D = decide (a.toInt < 0) ∧ (∀ m : Nat, m < 2 ^ 40 → 256 * a.toInt.natAbs ≤ 72 * m → zmag b64 D ≤ m * 2 ^ 1066) ∧ (∀ m : Nat, m < 2 ^ 40 → 72 * m ≤ 256 * a.toInt.natAbs → m * 2 ^ 1066 ≤ zmag b64 D) := by
  obtain ⟨c, q, e, h1, h2, h3, h4, h5⟩ := own_shape h
  have e1 : b64.qmin = -1074 := by decide
  have hd : val64 (FP.ddiv (FP.l2d a) (FP.l2d 72)) = roundRatio b64 (decide (a.toInt < 0)) c (72 * 2 ^ 46) (q + 46) := by
    rw [show val64 (FP.ddiv (FP.l2d a) (FP.l2d 72)) = quotient b64 (val64 (FP.l2d a)) (val64 (FP.l2d 72)) from val64_ddiv _ _, e, own_72]
    show (if (72 * 2 ^ 46 : Nat) = 0 then (if c = 0 then Datum.nan else Datum.inf (decide (a.toInt < 0) != false)) else roundRatio b64 (decide (a.toInt < 0) != false) c (72 * 2 ^ 46) (q - (-46))) = _
    rw [if_neg (by decide), Bool.bne_false, show q - (-46) = q + 46 by omega]
  have hu : inUnits c (q + 46) (-1074) = a.toInt.natAbs * 2 ^ 1074 * 2 ^ 46 := by
    rw [own_inU, ← h5, show q + 46 - (-1074) = q + 1074 + 46 by omega, show (q + 1074 + 46).toNat = (q + 1074).toNat + 46 by omega, Nat.pow_add, Nat.mul_assoc]
  refine ⟨_, hd, roundRatio_ne_nan _ _ _ _ _, sgn_roundRatio _ _ _ _ _, fun m hm hle => ?_, fun m hm hge => ?_⟩
  · obtain ⟨V, v1, v2, v3⟩ := own_V hm
    rw [← v3]
    refine zmag_roundRatio_le good_b64 (e0 := -1074) (by decide) v1 v2 (by rw [e1]; exact Int.le_refl _) (by omega) ?_
    rw [hu, v3, e1, show ((-1074 : Int) - (-1074)).toNat = 0 by decide, Nat.pow_zero, Nat.mul_one, show (1074 : Nat) = 8 + 1066 from rfl, Nat.pow_add]
    generalize (2 : Nat) ^ 1066 = P
    generalize (2 : Nat) ^ 46 = R
    have := Nat.mul_le_mul_right (P * R) hle
    calc a.toInt.natAbs * (2 ^ 8 * P) * R = 256 * a.toInt.natAbs * (P * R) := by rw [show (2 : Nat) ^ 8 = 256 from rfl]; simp only [Nat.mul_assoc, Nat.mul_comm, Nat.mul_left_comm]
      _ ≤ 72 * m * (P * R) := this
      _ = m * P * (72 * R) := by simp only [Nat.mul_assoc, Nat.mul_comm, Nat.mul_left_comm]
  · obtain ⟨V, v1, v2, v3⟩ := own_V hm
    rw [← v3]
    refine zmag_roundRatio_ge good_b64 (e0 := -1074) (by decide) v1 (by rw [e1]; exact Int.le_refl _) (by omega) ?_
    rw [hu, v3, e1, show ((-1074 : Int) - (-1074)).toNat = 0 by decide, Nat.pow_zero, Nat.mul_one, show (1074 : Nat) = 8 + 1066 from rfl, Nat.pow_add]
    generalize (2 : Nat) ^ 1066 = P
    generalize (2 : Nat) ^ 46 = R
    have := Nat.mul_le_mul_right (P * R) hge
    calc m * P * (72 * R) = 72 * m * (P * R) := by simp only [Nat.mul_assoc, Nat.mul_comm, Nat.mul_left_comm]
      _ ≤ 256 * a.toInt.natAbs * (P * R) := this
      _ = a.toInt.natAbs * (2 ^ 8 * P) * R := by rw [show (2 : Nat) ^ 8 = 256 from rfl]; simp only [Nat.mul_assoc, Nat.mul_comm, Nat.mul_left_comm]
def own_B27 (a : Int64) : Prop := -134217728 < a.toInt ∧ a.toInt < 134217728
theorem own_B27.b53 {a : Int64} (h : own_B27 a) : B53 a := ⟨by have := h.1; omega, by have := h.2; omega⟩
theorem own_quolt {a b : Int64} (ha : own_B27 a) (hb : own_B27 b) (h : a.toInt < b.toInt) : zval b64 (val64 (FP.ddiv (FP.l2d a) (FP.l2d 72))) < zval b64 (val64 (FP.ddiv (FP.l2d b) (FP.l2d 72))) := by
  obtain ⟨A, eA, -, sA, A1, A2⟩ := own_quo ha.b53
  obtain ⟨B, eB, -, sB, B1, B2⟩ := own_quo hb.b53
  rw [eA, eB, own_zv, own_zv, sA, sB]
  have hP : 0 < (2 : Nat) ^ 1066 := Nat.two_pow_pos _
  have a1 := ha.1
  have a2 := ha.2
  have b1 := hb.1
  have b2 := hb.2
  generalize (2 : Nat) ^ 1066 = P at *
  have up : a.toInt.natAbs < b.toInt.natAbs → zmag b64 A < zmag b64 B := fun hn => by
    have q1 := A1 ((256 * a.toInt.natAbs + 71) / 72) (by omega) (by omega)
    have q2 := B2 ((256 * a.toInt.natAbs + 71) / 72 + 1) (by omega) (by omega)
    rw [Nat.succ_mul] at q2
    omega
  have dn : b.toInt.natAbs < a.toInt.natAbs → zmag b64 B < zmag b64 A := fun hn => by
    have q1 := B1 ((256 * b.toInt.natAbs + 71) / 72) (by omega) (by omega)
    have q2 := A2 ((256 * b.toInt.natAbs + 71) / 72 + 1) (by omega) (by omega)
    rw [Nat.succ_mul] at q2
    omega
  by_cases hA : a.toInt < 0
  · by_cases hB : b.toInt < 0
    · have := dn (by omega)
      rw [decide_eq_true hA, decide_eq_true hB, own_sgT, own_sgT]
      omega
    · have q := A2 1 (by decide) (by omega)
      rw [decide_eq_true hA, decide_eq_false hB, own_sgT, own_sgF]
      omega
  · have hB : ¬ b.toInt < 0 := by omega
    have := up (by omega)
    rw [decide_eq_false hA, decide_eq_false hB, own_sgF, own_sgF]
    omega
/-- dividing by 72 keeps the order of the whole doubles below 2^27 -/
theorem own_dq {a b : Int64} (ha : own_B27 a) (hb : own_B27 b) : FP.dcmp (FP.ddiv (FP.l2d a) (FP.l2d 72)) (FP.ddiv (FP.l2d b) (FP.l2d 72)) = FP.dcmp (FP.l2d a) (FP.l2d b) := by
  obtain ⟨A, eA, nA, -⟩ := own_quo ha.b53
  obtain ⟨B, eB, nB, -⟩ := own_quo hb.b53
  rw [show FP.dcmp (FP.ddiv (FP.l2d a) (FP.l2d 72)) (FP.ddiv (FP.l2d b) (FP.l2d 72)) = some (compare (zval b64 (val64 (FP.ddiv (FP.l2d a) (FP.l2d 72)))) (zval b64 (val64 (FP.ddiv (FP.l2d b) (FP.l2d 72))))) from dcmp_zval (by rw [eA]; exact nA) (by rw [eB]; exact nB), show FP.dcmp (FP.l2d a) (FP.l2d b) = _ from dcmp_l2d (sm ha.b53) (sm hb.b53)]
  rcases Int.lt_trichotomy a.toInt b.toInt with h | h | h
  · rw [if_pos h]
    have := own_quolt ha hb h
    exact congrArg some (Int.compare_eq_lt.mpr this)
  · have e : a = b := Int64.toInt_inj.mp h
    subst e
    rw [if_neg (Int.lt_irrefl _), if_pos rfl]
    exact congrArg some (Int.compare_eq_eq.mpr rfl)
  · rw [if_neg (by omega), if_neg (by omega)]
    have := own_quolt hb ha h
    exact congrArg some (Int.compare_eq_gt.mpr this)
theorem own_dqV {a b : Int64} (ha : own_B27 a) (hb : own_B27 b) (o : CmpOp) : cmpValue (FP.dcmp (FP.ddiv (FP.l2d a) (FP.l2d 72)) (FP.ddiv (FP.l2d b) (FP.l2d 72))) o = lcmpW a b := by
  rw [own_dq ha hb]
  exact dcmpV_w ha.b53 hb.b53 o
theorem own_nq {a : Int64} (ha : own_B27 a) : Jvm.Free.Fl.NoNaN64 (FP.ddiv (FP.l2d a) (FP.l2d 72)) := by
  have h := own_dq ha ha
  rw [show FP.dcmp (FP.l2d a) (FP.l2d a) = _ from dcmp_l2d (sm ha.b53) (sm ha.b53)] at h
  exact (Jvm.Free.Fl.dcmp_some h).1
end OwnQ
theorem own_tn {n : Nat} (h : n < 2147483648) : (Int32.ofNat n).toInt = n := Int32.toInt_ofNat_of_lt (n := n) (by omega)
theorem own_addN (a b : Nat) : Int32.ofNat a + Int32.ofNat b = Int32.ofNat (a + b) := by simp
theorem own_ix72 {i : Nat} (h : i < 72) : ¬ Int32.ofNat i < 0 ∧ Int32.ofNat i < (72 : Int32) := by
  have e0 : (0 : Int32).toInt = 0 := by decide
  have e1 : (72 : Int32).toInt = 72 := by decide
  rw [Int32.lt_iff_toInt_lt, Int32.lt_iff_toInt_lt, own_tn (by omega), e0, e1]
  omega
theorem own_lt72' {i : Nat} (h : i < 72) : Int32.ofNat i < (72 : Int32) := (own_ix72 h).2
theorem own_lt72 : ¬ Int32.ofNat 72 < (72 : Int32) := by decide
theorem own_cl72 {i : Nat} (h : i < 72) : (Int32.ofNat i).toNatClampNeg = i := by
  simp only [Int32.toNatClampNeg, own_tn (show i < 2147483648 by omega)]
  omega
/-- an array of 72 doubles whose first j places are filled -/
def own_Dl (f : Nat → Int64) (j : Nat) : List Value := (List.range 72).map fun i => if i < j then .double (FP.l2d (f i)) else .double (FP.l2d 0)
theorem own_Dl_len (f : Nat → Int64) (j : Nat) : (own_Dl f j).length = 72 := by simp [own_Dl]
theorem own_Dl_pad (f : Nat → Int64) : ∀ i, (own_Dl f 0).getD i (.double (FP.l2d 0)) = ([] : List Value).getD i (.double (FP.l2d 0)) := fun i => by
  by_cases h : i < 72
  · simp [own_Dl, List.getD_eq_getElem?_getD, h]
  · simp [own_Dl, List.getD_eq_getElem?_getD, h]
theorem own_Dl_set {f : Nat → Int64} {j : Nat} (h : j < 72) : (own_Dl f j).set j (.double (FP.l2d (f j))) = own_Dl f (j + 1) := by
  apply List.ext_getElem?
  intro i
  rw [List.getElem?_set]
  by_cases hj : j = i
  · subst hj
    simp [own_Dl, h]
  · by_cases hN : i < 72
    · by_cases hi : i < j
      · simp [own_Dl, hj, hN, hi, show i < j + 1 by omega]
      · simp [own_Dl, hj, hN, hi, show ¬ i < j + 1 by omega]
    · simp [own_Dl, hj, hN]
theorem own_Dl_get {f : Nat → Int64} {i : Nat} {d : Value} (h : i < 72) : (own_Dl f 72).getD i d = .double (FP.l2d (f i)) := by
  simp [own_Dl, List.getD_eq_getElem?_getD, h]
section OwnDl
variable {p : Program} {l : Launch} {e : Env} {R : Room} {s s0 : State} {m : MethodId} {args : Array Value} {below : List Frame} {meth : Method} {c : Code} {T : State} {locs : List Loc} {cells slots : Nat} {Q : Option Value → Heap → List Loc → Prop} {rc rs pc : Nat} {Ls : Array Slot} {S : List Value} {Z : State} {h : Heap} {a : Addr} {k : ClassId} {z j : Int32} {f : Nat → Int64} {dv : Value} {x : Int64}
theorem oDaD (q : Nat) (X : Stand p l e R s m args below meth c T locs cells slots) (hx : p.tables.exec = Jvm.exec) (hZ : Z.Warmed39 s.vm) (eT : T.heap = h) (F : Arv Z h a k .double z (own_Dl f 72) dv) (i : Nat) (hd : decode c.code pc = .ok (.daload, 1)) (hi : ¬ j < 0 ∧ j < z) (hj : j.toNatClampNeg = i) (hN : i < 72) (hf : f i = x) (hq : pc + 1 = q) (G : own_Goes p.tables e below s0 Q rc rs T (mkF m q Ls (.double (FP.l2d x) :: S))) : own_Goes p.tables e below s0 Q rc rs T (mkF m pc Ls (.int j :: .ref a :: S)) :=
  oDa q X hx hZ eT F (.double (FP.l2d x)) hd hi (by rw [hj, own_Dl_get hN, hf]) hq G
theorem oDsD (q : Nat) (X : Stand p l e R s m args below meth c T locs cells slots) (hx : p.tables.exec = Jvm.exec) (hZ : Z.Warmed39 s.vm) (eT : T.heap = h) (i : Nat) (F : Arv Z h a k .double z (own_Dl f i) dv) (hd : decode c.code pc = .ok (.dastore, 1)) (hi : ¬ j < 0 ∧ j < z) (hj : j.toNatClampNeg = i) (hN : i < 72) (hf : f i = x) (hq : pc + 1 = q)
    (G : ∀ (T' : State) (h' : Heap), Stand p l e R s m args below meth c T' (locs ++ [⟨a, j.toNatClampNeg⟩]) cells slots → T'.heap = h' → Wr h h' a j.toNatClampNeg (.double (FP.l2d x)) → Arv Z h' a k .double z (own_Dl f (i + 1)) dv → own_Goes p.tables e below s0 Q rc rs T' (mkF m q Ls S)) : own_Goes p.tables e below s0 Q rc rs T (mkF m pc Ls (.double (FP.l2d x) :: .int j :: .ref a :: S)) := by
  subst hf
  exact oDs q X hx hZ eT F i _ hd hi hj (by rw [own_Dl_len]; exact hN) (own_Dl_set hN) hq G
end OwnDl
def own_b20 (x : Int64) : Prop := -1048576 ≤ x.toInt ∧ x.toInt < 1048576
theorem own_b20.b53 {x : Int64} (h : own_b20 x) : B53 x := ⟨by have := h.1; omega, by have := h.2; omega⟩
theorem own_b053 : B53 0 := ⟨by decide, by decide⟩
theorem own_b20s (x : Int32) : own_b20 (x >>> ((11 : Int32) &&& 31)).toInt64 := by
  have h := c_ishr x 11 11 (by decide)
  have l1 := x.le_toInt
  have l2 := x.toInt_lt
  constructor <;> rw [Int32.toInt_toInt64] <;> omega
def own_S (f : Nat → Int64) : Nat → Int
  | 0 => 0
  | k + 1 => own_S f k + (f k).toInt
def own_c (x y : Int64) : Int := if x.toInt < y.toInt then 1 else 0
def own_N (f g : Nat → Int64) : Nat → Int
  | 0 => 0
  | k + 1 => own_N f g k + own_c (f k) (g k)
def own_cb (A B W : Int) : Int32 := if A < B ∧ 70 ≤ W then 1 else 0
def own_one (b : Int32) : Int32 := if b = 0 then 0 else 1
theorem own_Sb {f : Nat → Int64} (hf : ∀ i, own_b20 (f i)) : ∀ i : Nat, -(1048576 * (i : Int)) ≤ own_S f i ∧ own_S f i ≤ 1048576 * (i : Int)
  | 0 => ⟨Int.le_refl _, Int.le_refl _⟩
  | k + 1 => by
    have h1 := own_Sb hf k
    have h2 := hf k
    unfold own_b20 at h2
    show _ ≤ own_S f k + (f k).toInt ∧ own_S f k + (f k).toInt ≤ _
    omega
theorem own_bS {f : Nat → Int64} (hf : ∀ i, own_b20 (f i)) {sp : Int64} {i : Nat} (h : sp.toInt = own_S f i) (hi : i ≤ 72) : own_B27 sp := by
  have := own_Sb hf i
  constructor <;> rw [h] <;> omega
theorem own_Ss {f : Nat → Int64} {sp : Int64} {i : Nat} (b1 : B53 sp) (b2 : B53 (f i)) (h : sp.toInt = own_S f i) : (sp + f i).toInt = own_S f (i + 1) := by
  rw [add64 b1 b2, h]
  rfl
theorem own_cB {x y : Int64} : 0 ≤ own_c x y ∧ own_c x y ≤ 1 := by
  unfold own_c
  split <;> omega
theorem own_Nb (f g : Nat → Int64) : ∀ i : Nat, 0 ≤ own_N f g i ∧ own_N f g i ≤ i
  | 0 => ⟨Int.le_refl _, Int.le_refl _⟩
  | k + 1 => by
    have h1 := own_Nb f g k
    have h2 := own_cB (x := f k) (y := g k)
    show 0 ≤ own_N f g k + own_c (f k) (g k) ∧ own_N f g k + own_c (f k) (g k) ≤ _
    omega
theorem own_Nl {f g : Nat → Int64} {wi : Int32} {i : Nat} (h : wi.toInt = own_N f g i) (hi : i < 72) (hlt : f i < g i) : (wi + (1 : Int32)).toInt = own_N f g (i + 1) := by
  have b := own_Nb f g i
  have e1 : (1 : Int32).toInt = 1 := by decide
  show _ = own_N f g i + own_c (f i) (g i)
  rw [own_c, if_pos (Int64.lt_iff_toInt_lt.mp hlt), Int32.toInt_add, e1, h]
  exact Int.bmod_eq_of_le (by omega) (by omega)
theorem own_Nn {f g : Nat → Int64} {wi : Int32} {i : Nat} (h : wi.toInt = own_N f g i) (hi : i < 72) (hlt : ¬ f i < g i) : wi.toInt = own_N f g (i + 1) := by
  show _ = own_N f g i + own_c (f i) (g i)
  rw [own_c, if_neg (fun q => hlt (Int64.lt_iff_toInt_lt.mpr q)), h, Int.add_zero]
theorem own_cb0 {sp sh : Int64} {A B W : Int} (h : ¬ sp < sh) (h1 : sp.toInt = A) (h2 : sh.toInt = B) : own_cb A B W = 0 := by
  rw [Int64.lt_iff_toInt_lt, h1, h2] at h
  exact if_neg fun q => h q.1
theorem own_cb1 {wi : Int32} {A B W : Int} (h : wi < (70 : Int32)) (h3 : wi.toInt = W) : own_cb A B W = 0 := by
  have e1 : (70 : Int32).toInt = 70 := by decide
  rw [Int32.lt_iff_toInt_lt, h3, e1] at h
  exact if_neg fun q => by have := q.2; omega
theorem own_cb2 {sp sh : Int64} {wi : Int32} {A B W : Int} (h : sp < sh) (h' : ¬ wi < (70 : Int32)) (h1 : sp.toInt = A) (h2 : sh.toInt = B) (h3 : wi.toInt = W) : own_cb A B W = 1 := by
  have e1 : (70 : Int32).toInt = 70 := by decide
  rw [Int64.lt_iff_toInt_lt, h1, h2] at h
  rw [Int32.lt_iff_toInt_lt, h3, e1] at h'
  exact if_pos ⟨h, by omega⟩
def own_e (x0 x1 x2 x3 : Int64) (i : Nat) : Int64 := if i = 0 then x0 else if i = 1 then x1 else if i = 2 then x2 else x3
def own_h (x h3 : Int64) (i : Nat) : Int64 := if i = 3 then h3 else x
theorem own_eB {x0 x1 x2 x3 : Int64} (h3 : own_b20 x3) (h0 : own_b20 x0) (h1 : own_b20 x1) (h2 : own_b20 x2) (i : Nat) : own_b20 (own_e x0 x1 x2 x3 i) := by
  unfold own_e
  split
  · exact h0
  · split
    · exact h1
    · split
      · exact h2
      · exact h3
theorem own_hB {x h3 : Int64} (hx : own_b20 x) (hh : own_b20 h3) (i : Nat) : own_b20 (own_h x h3 i) := by
  unfold own_h
  split
  · exact hh
  · exact hx
theorem own_e3 (x0 x1 x2 x3 : Int64) (k : Nat) : own_e x0 x1 x2 x3 (k + 3) = x3 := by
  unfold own_e
  rw [if_neg (by omega), if_neg (by omega), if_neg (by omega)]
theorem own_h4 (x h3 : Int64) (k : Nat) : own_h x h3 (k + 4) = x := by
  unfold own_h
  rw [if_neg (by omega)]
theorem own_Se0 (x0 x1 x2 x3 : Int64) : ∀ k : Nat, own_S (own_e x0 x1 x2 x3) (k + 3) = x0.toInt + x1.toInt + x2.toInt + k * x3.toInt
  | 0 => by
    show (0 : Int) + x0.toInt + x1.toInt + x2.toInt = _
    simp
  | k + 1 => by
    show own_S (own_e x0 x1 x2 x3) (k + 3) + (own_e x0 x1 x2 x3 (k + 3)).toInt = _
    rw [own_Se0 x0 x1 x2 x3 k, own_e3, Int.natCast_add, Int.add_mul]
    simp only [Int.natCast_one, Int.one_mul]
    omega
theorem own_Sh0 (x h3 : Int64) : ∀ k : Nat, own_S (own_h x h3) (k + 4) = 3 * x.toInt + h3.toInt + k * x.toInt
  | 0 => by
    show (0 : Int) + x.toInt + x.toInt + x.toInt + h3.toInt = _
    simp
    omega
  | k + 1 => by
    show own_S (own_h x h3) (k + 4) + (own_h x h3 (k + 4)).toInt = _
    rw [own_Sh0 x h3 k, own_h4, Int.natCast_add, Int.add_mul]
    simp only [Int.natCast_one, Int.one_mul]
    omega
theorem own_N0 (x0 x1 x2 x3 y h3 : Int64) : ∀ k : Nat, own_N (own_e x0 x1 x2 x3) (own_h y h3) (k + 4) = own_c x0 y + own_c x1 y + own_c x2 y + own_c x3 h3 + k * own_c x3 y
  | 0 => by
    show (0 : Int) + own_c x0 y + own_c x1 y + own_c x2 y + own_c x3 h3 = _
    simp
  | k + 1 => by
    show own_N (own_e x0 x1 x2 x3) (own_h y h3) (k + 4) + own_c (own_e x0 x1 x2 x3 (k + 1 + 3)) (own_h y h3 (k + 4)) = _
    rw [own_N0 x0 x1 x2 x3 y h3 k, own_e3, own_h4, Int.natCast_add, Int.add_mul]
    simp only [Int.natCast_one, Int.one_mul]
    omega
theorem own_mul64 {a : Int64} (k : Int64) (hk : 0 ≤ k.toInt ∧ k.toInt ≤ 100) (ha : own_b20 a) : (k * a).toInt = k.toInt * a.toInt := by
  rw [Int64.toInt_mul]
  obtain ⟨h1, h2⟩ := ha
  have q1 : k.toInt * a.toInt ≤ k.toInt * 1048576 := Int.mul_le_mul_of_nonneg_left (by omega) hk.1
  have q2 : k.toInt * (-1048576) ≤ k.toInt * a.toInt := Int.mul_le_mul_of_nonneg_left (by omega) hk.1
  exact Int.bmod_eq_of_le (by omega) (by omega)
theorem own_Se {pl q0 q1 q2 : Int64} (bp : own_b20 pl) (b0 : own_b20 q0) (b1 : own_b20 q1) (b2 : own_b20 q2) : (((((69 : Int64) * pl) + q0) + q1) + q2).toInt = own_S (own_e q0 q1 q2 pl) 72 := by
  have e := own_Se0 q0 q1 q2 pl 69
  have e1 : (69 : Int64).toInt = 69 := by decide
  have m := own_mul64 69 (by rw [e1]; omega) bp
  rw [e1] at m
  obtain ⟨p1, p2⟩ := bp
  obtain ⟨z1, z2⟩ := b0
  obtain ⟨y1, y2⟩ := b1
  obtain ⟨x1, x2⟩ := b2
  have a1 := add64 (a := 69 * pl) (b := q0) ⟨by rw [m]; omega, by rw [m]; omega⟩ ⟨by omega, by omega⟩
  have a2 := add64 (a := 69 * pl + q0) (b := q1) ⟨by rw [a1, m]; omega, by rw [a1, m]; omega⟩ ⟨by omega, by omega⟩
  have a3 := add64 (a := 69 * pl + q0 + q1) (b := q2) ⟨by rw [a2, a1, m]; omega, by rw [a2, a1, m]; omega⟩ ⟨by omega, by omega⟩
  rw [a3, a2, a1, m]
  show _ = own_S (own_e q0 q1 q2 pl) (69 + 3)
  rw [e]
  show _ = _ + (69 : Int) * _
  omega
theorem own_Sh {hl h3 : Int64} (bh : own_b20 hl) (b3 : own_b20 h3) : (((71 : Int64) * hl) + h3).toInt = own_S (own_h hl h3) 72 := by
  have e := own_Sh0 hl h3 68
  have e1 : (71 : Int64).toInt = 71 := by decide
  have m := own_mul64 71 (by rw [e1]; omega) bh
  rw [e1] at m
  obtain ⟨p1, p2⟩ := bh
  obtain ⟨z1, z2⟩ := b3
  have a1 := add64 (a := 71 * hl) (b := h3) ⟨by rw [m]; omega, by rw [m]; omega⟩ ⟨by omega, by omega⟩
  rw [a1, m]
  show _ = own_S (own_h hl h3) (68 + 4)
  rw [e]
  show _ = _ + (68 : Int) * _
  omega
/-- the int a stands for A, a count up to K -/
def own_is (a : Int32) (A K : Int) : Prop := a.toInt = A ∧ 0 ≤ A ∧ A ≤ K
theorem own_is68 {x y : Int64} (h : x < y) : own_is (68 : Int32) (68 * own_c x y) 68 := by
  rw [own_c, if_pos (Int64.lt_iff_toInt_lt.mp h)]
  exact ⟨by decide, by decide, by decide⟩
theorem own_is0 {x y : Int64} (h : ¬ x < y) : own_is (0 : Int32) (68 * own_c x y) 68 := by
  rw [own_c, if_neg (fun q => h (Int64.lt_iff_toInt_lt.mpr q))]
  exact ⟨by decide, by decide, by decide⟩
theorem own_is1 {x y : Int64} (h : x < y) : own_is (own_one (1 : Int32)) (own_c x y) 1 := by
  rw [own_c, if_pos (Int64.lt_iff_toInt_lt.mp h)]
  exact ⟨by decide, by decide, by decide⟩
theorem own_isn {x y : Int64} (h : ¬ x < y) : own_is (own_one (0 : Int32)) (own_c x y) 1 := by
  rw [own_c, if_neg (fun q => h (Int64.lt_iff_toInt_lt.mpr q))]
  exact ⟨by decide, by decide, by decide⟩
theorem own_isA {a b : Int32} {A B K : Int} (ha : own_is a A K) (hb : own_is b B 1) (hK : K ≤ 100) : own_is (a + b) (A + B) (K + 1) := by
  obtain ⟨a1, a2, a3⟩ := ha
  obtain ⟨b1, b2, b3⟩ := hb
  refine ⟨?_, by omega, by omega⟩
  rw [Int32.toInt_add, a1, b1]
  exact Int.bmod_eq_of_le (by omega) (by omega)
theorem own_Ne {a : Int32} {q0 q1 q2 pl hl h3 : Int64} (h : own_is a (68 * own_c pl hl + own_c q0 hl + own_c q1 hl + own_c q2 hl + own_c pl h3) 72) : a.toInt = own_N (own_e q0 q1 q2 pl) (own_h hl h3) 72 := by
  rw [h.1]
  show _ = own_N (own_e q0 q1 q2 pl) (own_h hl h3) (68 + 4)
  rw [own_N0]
  show _ = _ + (68 : Int) * _
  omega

def Q1 (Z : State) (bb : Int32) (h0 : Heap) (n0 : Nat) (v : Option Value) (h : Heap) (L : List Loc) : Prop := v = some (.int (own_one bb)) ∧ Fr n0 L ∧ h = h0
theorem pn_com_example_firebreak_firebreak_strategies_LazyMaxSumClearlyBetterPinLaw : plainName "com/example/firebreak/firebreak/strategies/LazyMaxSumClearlyBetterPinLaw" = true := by first | (simp [plainName, overriddenIn]; done) | decide +kernel
theorem ef_1 (m : MethodId) (bb : Int32) : entryFrame m #[(.int bb)] 1 = mkF m 0 #[.val (.int bb)] [] := by first | (simp [entryFrame, mkF, argsToLocals, Value.category]; done) | rfl
theorem d1_0 : decode method_2_code 0 = .ok (.iload_n 0, 1) := by decide +kernel
theorem d1_1 : decode method_2_code 1 = .ok (.ifCond .eq 7, 3) := by decide +kernel
theorem d1_8 : decode method_2_code 8 = .ok (.iconst 0, 1) := by decide +kernel
theorem d1_9 : decode method_2_code 9 = .ok (.ireturn, 1) := by decide +kernel
theorem d1_4 : decode method_2_code 4 = .ok (.iconst 1, 1) := by decide +kernel
theorem d1_5 : decode method_2_code 5 = .ok (.goto 4, 3) := by decide +kernel
set_option maxRecDepth 65536 in
set_option maxHeartbeats 40000000 in
theorem rm1 (l : Launch) (Z : State) (a0 : Array Value) (hw : ∀ d ∈ tables_1, d.before a0 Z = true) (ws : List Jvm.Cond) (bb : Int32) (h0 : Heap) (n0 : Nat) (Zle : n0 ≤ h0.size) :
    MetFree l (⟨"com/example/firebreak/firebreak/strategies/LazyMaxSumClearlyBetterPinLaw", "one", "(Z)I"⟩ : MethodName) (head1 (Jvm.Cond.code (⟨"com/example/firebreak/firebreak/strategies/LazyMaxSumClearlyBetterPinLaw", "one", "(Z)I"⟩ : MethodName) method_2_code 1 (some .int) :: ws) ({ frames := 0, cells := 0, slots := 0, locals := 0 } : Room)) (fun a U => a = #[(.int bb)] ∧ Z.Warmed39 U.vm ∧ U.heap = h0) (fun _ _ _ _ _ => True) (fun _ U o U' => ∃ v L, o = .returned v ∧ Q1 Z bb h0 n0 v U'.heap L ∧ FrameEnd U o U' L ({ frames := 0, cells := 0, slots := 0, locals := 0 } : Room).cells ({ frames := 0, cells := 0, slots := 0, locals := 0 } : Room).slots) := by
  refine MetFree.of_bodySF (plainFor_of_name pn_com_example_firebreak_firebreak_strategies_LazyMaxSumClearlyBetterPinLaw) hisR ?_
  intro p e s m args below meth c s₁ Bd hml0 hP hK
  obtain ⟨rfl, hZ, hh⟩ := hP
  have hx := Bd.exec
  have hby := Bd.bytes
  have hml : c.maxLocals = 1 := hml0
  have hown : s.vm.findClass "com/example/firebreak/firebreak/strategies/LazyMaxSumClearlyBetterPinLaw" = some m.cls := findClass_of_methodNamed Bd.named
  have hnm := (name_of_methodNamed Bd.named Bd.method).1
  have X0 : Stand p l e ({ frames := 0, cells := 0, slots := 0, locals := 0 } : Room) s m #[(.int bb)] below meth c s₁ [] 0 0 := Stand.of_body Bd
  have e0 : s₁.heap = h0 := by rw [← hh, Bd.state]; rfl
  have N_ := Fr.nil n0
  show own_Goes p.tables e below s (Q1 Z bb h0 n0) ({ frames := 0, cells := 0, slots := 0, locals := 0 } : Room).cells ({ frames := 0, cells := 0, slots := 0, locals := 0 } : Room).slots s₁ (entryFrame m #[(.int bb)] 1)
  refine own_by (T' := s₁) (g' := (mkF m 0 (Ls0 bb) [])) (fun t k => castTop (ef_1 m bb) k) ?_
  refine oIlN 1 X0 hx (hb hby d1_0) rfl rfl ?_
  by_cases hc1_1 : bb = (0 : Int32)
  · refine oFy 8 X0 hx (hb hby d1_1) ((if0 _ _).trans (teq hc1_1).1) (by decide) (by decide) ?_
    refine oIc 9 X0 hx (hb hby d1_8) 0 rfl rfl ?_
    exact own_retI X0 hx Bd.notSynchronized Bd.returns (hb hby d1_9) (by decide) (by decide) (by rw [e0]; exact ⟨by unfold own_one; rw [if_pos hc1_1], N_, rfl⟩)
  · refine oFn 4 X0 hx (hb hby d1_1) ((if0 _ _).trans (feq hc1_1).1) rfl ?_
    refine oIc 5 X0 hx (hb hby d1_4) 1 rfl rfl ?_
    refine oGo 9 X0 hx (hb hby d1_5) (by decide) (by decide) ?_
    exact own_retI X0 hx Bd.notSynchronized Bd.returns (hb hby d1_9) (by decide) (by decide) (by rw [e0]; exact ⟨by unfold own_one; rw [if_neg hc1_1], N_, rfl⟩)

def Q2 (Z : State) (pa : Addr) (ha : Addr) (kp : ClassId) (kh : ClassId) (ff : Nat → Int64) (gg : Nat → Int64) (h0 : Heap) (n0 : Nat) (v : Option Value) (h : Heap) (L : List Loc) : Prop := v = some (.int (own_cb (own_S ff 72) (own_S gg 72) (own_N ff gg 72))) ∧ Fr n0 L ∧ h = h0
theorem pn_com_example_firebreak_firebreak_strategies_LazyMaxSum : plainName "com/example/firebreak/firebreak/strategies/LazyMaxSum" = true := by first | (simp [plainName, overriddenIn]; done) | decide +kernel
theorem ef_2 (m : MethodId) (pa : Addr) (ha : Addr) : entryFrame m #[(.ref pa), (.ref ha)] 8 = mkF m 0 #[.val (.ref pa), .val (.ref ha), .unset, .unset, .unset, .unset, .unset, .unset] [] := by first | (simp [entryFrame, mkF, argsToLocals, Value.category]; done) | rfl
theorem d2_0 : decode prog_48_method_3_code 0 = .ok (.dconst 0, 1) := by decide +kernel
theorem d2_1 : decode prog_48_method_3_code 1 = .ok (.dstore_n 2, 1) := by decide +kernel
theorem d2_2 : decode prog_48_method_3_code 2 = .ok (.dconst 0, 1) := by decide +kernel
theorem d2_3 : decode prog_48_method_3_code 3 = .ok (.dstore 4, 2) := by decide +kernel
theorem d2_5 : decode prog_48_method_3_code 5 = .ok (.iconst 0, 1) := by decide +kernel
theorem d2_6 : decode prog_48_method_3_code 6 = .ok (.istore 6, 2) := by decide +kernel
theorem d2_8 : decode prog_48_method_3_code 8 = .ok (.iconst 0, 1) := by decide +kernel
theorem d2_9 : decode prog_48_method_3_code 9 = .ok (.istore 7, 2) := by decide +kernel
theorem d2_11 : decode prog_48_method_3_code 11 = .ok (.iload 7, 2) := by decide +kernel
theorem d2_13 : decode prog_48_method_3_code 13 = .ok (.aload_n 0, 1) := by decide +kernel
theorem d2_14 : decode prog_48_method_3_code 14 = .ok (.arraylength, 1) := by decide +kernel
theorem d2_15 : decode prog_48_method_3_code 15 = .ok (.if_icmp .ge 40, 3) := by decide +kernel
theorem d2_55 : decode prog_48_method_3_code 55 = .ok (.dload_n 2, 1) := by decide +kernel
theorem d2_56 : decode prog_48_method_3_code 56 = .ok (.aload_n 0, 1) := by decide +kernel
theorem d2_57 : decode prog_48_method_3_code 57 = .ok (.arraylength, 1) := by decide +kernel
theorem d2_58 : decode prog_48_method_3_code 58 = .ok (.i2d, 1) := by decide +kernel
theorem d2_59 : decode prog_48_method_3_code 59 = .ok (.ddiv, 1) := by decide +kernel
theorem d2_60 : decode prog_48_method_3_code 60 = .ok (.dload 4, 2) := by decide +kernel
theorem d2_62 : decode prog_48_method_3_code 62 = .ok (.aload_n 1, 1) := by decide +kernel
theorem d2_63 : decode prog_48_method_3_code 63 = .ok (.arraylength, 1) := by decide +kernel
theorem d2_64 : decode prog_48_method_3_code 64 = .ok (.i2d, 1) := by decide +kernel
theorem d2_65 : decode prog_48_method_3_code 65 = .ok (.ddiv, 1) := by decide +kernel
theorem d2_66 : decode prog_48_method_3_code 66 = .ok (.dcmp .g, 1) := by decide +kernel
theorem d2_67 : decode prog_48_method_3_code 67 = .ok (.ifCond .ge 14, 3) := by decide +kernel
theorem d2_70 : decode prog_48_method_3_code 70 = .ok (.iload 6, 2) := by decide +kernel
theorem d2_72 : decode prog_48_method_3_code 72 = .ok (.bipush 70, 2) := by decide +kernel
theorem d2_74 : decode prog_48_method_3_code 74 = .ok (.if_icmp .lt 7, 3) := by decide +kernel
theorem d2_81 : decode prog_48_method_3_code 81 = .ok (.iconst 0, 1) := by decide +kernel
theorem d2_82 : decode prog_48_method_3_code 82 = .ok (.ireturn, 1) := by decide +kernel
theorem d2_77 : decode prog_48_method_3_code 77 = .ok (.iconst 1, 1) := by decide +kernel
theorem d2_78 : decode prog_48_method_3_code 78 = .ok (.goto 4, 3) := by decide +kernel
theorem d2_18 : decode prog_48_method_3_code 18 = .ok (.dload_n 2, 1) := by decide +kernel
theorem d2_19 : decode prog_48_method_3_code 19 = .ok (.aload_n 0, 1) := by decide +kernel
theorem d2_20 : decode prog_48_method_3_code 20 = .ok (.iload 7, 2) := by decide +kernel
theorem d2_22 : decode prog_48_method_3_code 22 = .ok (.daload, 1) := by decide +kernel
theorem d2_23 : decode prog_48_method_3_code 23 = .ok (.dadd, 1) := by decide +kernel
theorem d2_24 : decode prog_48_method_3_code 24 = .ok (.dstore_n 2, 1) := by decide +kernel
theorem d2_25 : decode prog_48_method_3_code 25 = .ok (.dload 4, 2) := by decide +kernel
theorem d2_27 : decode prog_48_method_3_code 27 = .ok (.aload_n 1, 1) := by decide +kernel
theorem d2_28 : decode prog_48_method_3_code 28 = .ok (.iload 7, 2) := by decide +kernel
theorem d2_30 : decode prog_48_method_3_code 30 = .ok (.daload, 1) := by decide +kernel
theorem d2_31 : decode prog_48_method_3_code 31 = .ok (.dadd, 1) := by decide +kernel
theorem d2_32 : decode prog_48_method_3_code 32 = .ok (.dstore 4, 2) := by decide +kernel
theorem d2_34 : decode prog_48_method_3_code 34 = .ok (.aload_n 0, 1) := by decide +kernel
theorem d2_35 : decode prog_48_method_3_code 35 = .ok (.iload 7, 2) := by decide +kernel
theorem d2_37 : decode prog_48_method_3_code 37 = .ok (.daload, 1) := by decide +kernel
theorem d2_38 : decode prog_48_method_3_code 38 = .ok (.aload_n 1, 1) := by decide +kernel
theorem d2_39 : decode prog_48_method_3_code 39 = .ok (.iload 7, 2) := by decide +kernel
theorem d2_41 : decode prog_48_method_3_code 41 = .ok (.daload, 1) := by decide +kernel
theorem d2_42 : decode prog_48_method_3_code 42 = .ok (.dcmp .g, 1) := by decide +kernel
theorem d2_43 : decode prog_48_method_3_code 43 = .ok (.ifCond .ge 6, 3) := by decide +kernel
theorem d2_46 : decode prog_48_method_3_code 46 = .ok (.iinc 6 1, 3) := by decide +kernel
theorem d2_49 : decode prog_48_method_3_code 49 = .ok (.iinc 7 1, 3) := by decide +kernel
theorem d2_52 : decode prog_48_method_3_code 52 = .ok (.goto (-41), 3) := by decide +kernel
set_option maxRecDepth 65536 in
set_option maxHeartbeats 40000000 in
theorem own_loop (l : Launch) (Z : State) (a0 : Array Value) (hw : ∀ d ∈ tables_1, d.before a0 Z = true) {p : Program} {e : Env} {s : State} {m : MethodId} {below : List Frame} {meth : Method} {c : Code} (hx : p.tables.exec = Jvm.exec) (hby : c.code = prog_48_method_3_code) (hml : c.maxLocals = 8) (hlk : meth.locks = false) (hret : meth.sig.returnType = (some .boolean)) (pa : Addr) (ha : Addr) (kp : ClassId) (kh : ClassId) (ff : Nat → Int64) (gg : Nat → Int64) (h0 : Heap) (n0 : Nat) (hf : ∀ i, own_b20 (ff i)) (hg : ∀ i, own_b20 (gg i))
    (hZ : Z.Warmed39 s.vm) (hown : s.vm.findClass "com/example/firebreak/firebreak/strategies/LazyMaxSum" = some m.cls) (V_pa : Arv Z h0 pa kp .double (72 : Int32) (own_Dl ff 72) (.double (FP.l2d 0))) (V_ha : Arv Z h0 ha kh .double (72 : Int32) (own_Dl gg 72) (.double (FP.l2d 0))) :
    ∀ (r i : Nat) (sp sh : Int64) (wi : Int32) {Tj : State} {locsj : List Loc}, Stand p l e ({ frames := 0, cells := 0, slots := 0, locals := 0 } : Room) s m #[(.ref pa), (.ref ha)] below meth c Tj locsj 0 0 → Tj.heap = h0 → Fr n0 locsj → i + r = 72 → sp.toInt = own_S ff i → sh.toInt = own_S gg i → wi.toInt = own_N ff gg i → own_Goes p.tables e below s (Q2 Z pa ha kp kh ff gg h0 n0) ({ frames := 0, cells := 0, slots := 0, locals := 0 } : Room).cells ({ frames := 0, cells := 0, slots := 0, locals := 0 } : Room).slots Tj (mkF m 11 (Ls5 pa ha (FP.l2d sp) (FP.l2d sh) wi (Int32.ofNat i)) []) := by
  intro r
  induction r with
  | zero =>
    intro i sp sh wi Tj locsj Xj ej N_ hi hsp hsh hwi
    obtain rfl : i = 72 := by omega
    have bq1 : own_B27 sp := own_bS hf hsp (by decide)
    have bq2 : own_B27 sh := own_bS hg hsh (by decide)
    refine oIl 13 Xj hx (hb hby d2_11) rfl rfl ?_
    refine oAlN 14 Xj hx (hb hby d2_13) rfl rfl ?_
    obtain ⟨cl1, Ar1, -, S1, N1, -, -⟩ := id V_pa
    have st1 : ∀ t, Steps p.tables e below (Tj.setTop (mkF m 15 (Ls5 pa ha (FP.l2d sp) (FP.l2d sh) wi (Int32.ofNat 72)) [(.int 72), (.int (Int32.ofNat 72))])) t → Steps p.tables e below (Tj.setTop (mkF m 14 (Ls5 pa ha (FP.l2d sp) (FP.l2d sh) wi (Int32.ofNat 72)) [(.ref pa), (.int (Int32.ofNat 72))])) t := fun t k => Xj.arraylength hx (by rw [ej]; exact Ar1.1) (State.isArrayOf_alike hZ.alike Ar1.2.1) (g := (mkF m 14 (Ls5 pa ha (FP.l2d sp) (FP.l2d sh) wi (Int32.ofNat 72)) [(.ref pa), (.int (Int32.ofNat 72))])) rfl rfl (hb hby d2_14) _ (by rw [len_of S1 N1]; exact k)
    refine own_by (T' := Tj) (g' := (mkF m 15 (Ls5 pa ha (FP.l2d sp) (FP.l2d sh) wi (Int32.ofNat 72)) [(.int 72), (.int (Int32.ofNat 72))])) (fun t k => st1 t k) ?_
    clear st1
    refine oCy 55 Xj hx (hb hby d2_15) (flt own_lt72).2.1 (by decide) (by decide) ?_
    refine oDlN 56 Xj hx (hb hby d2_55) rfl rfl ?_
    refine oAlN 57 Xj hx (hb hby d2_56) rfl rfl ?_
    obtain ⟨cl2, Ar2, -, S2, N2, -, -⟩ := id V_pa
    have st2 : ∀ t, Steps p.tables e below (Tj.setTop (mkF m 58 (Ls5 pa ha (FP.l2d sp) (FP.l2d sh) wi (Int32.ofNat 72)) [(.int 72), (.double (FP.l2d sp))])) t → Steps p.tables e below (Tj.setTop (mkF m 57 (Ls5 pa ha (FP.l2d sp) (FP.l2d sh) wi (Int32.ofNat 72)) [(.ref pa), (.double (FP.l2d sp))])) t := fun t k => Xj.arraylength hx (by rw [ej]; exact Ar2.1) (State.isArrayOf_alike hZ.alike Ar2.2.1) (g := (mkF m 57 (Ls5 pa ha (FP.l2d sp) (FP.l2d sh) wi (Int32.ofNat 72)) [(.ref pa), (.double (FP.l2d sp))])) rfl rfl (hb hby d2_57) _ (by rw [len_of S2 N2]; exact k)
    refine own_by (T' := Tj) (g' := (mkF m 58 (Ls5 pa ha (FP.l2d sp) (FP.l2d sh) wi (Int32.ofNat 72)) [(.int 72), (.double (FP.l2d sp))])) (fun t k => st2 t k) ?_
    clear st2
    refine own_by (g' := (mkF m 59 (Ls5 pa ha (FP.l2d sp) (FP.l2d sh) wi (Int32.ofNat 72)) [(.double (FP.l2d (72 : Int32).toInt64)), (.double (FP.l2d sp))])) (fun t k => XS.i2dS Xj.here hx rfl (hb hby d2_58) rfl (i2d_w _) k) ?_
    rw [show (72 : Int32).toInt64 = (72 : Int64) from by decide]
    refine own_by (g' := (mkF m 60 (Ls5 pa ha (FP.l2d sp) (FP.l2d sh) wi (Int32.ofNat 72)) [(.double (FP.ddiv (FP.l2d sp) (FP.l2d 72)))])) (fun t k => XS.ddivS Xj.here hx rfl (hb hby d2_59) rfl (own_nq bq1) rfl k) ?_
    refine oDl 62 Xj hx (hb hby d2_60) rfl rfl ?_
    refine oAlN 63 Xj hx (hb hby d2_62) rfl rfl ?_
    obtain ⟨cl3, Ar3, -, S3, N3, -, -⟩ := id V_ha
    have st3 : ∀ t, Steps p.tables e below (Tj.setTop (mkF m 64 (Ls5 pa ha (FP.l2d sp) (FP.l2d sh) wi (Int32.ofNat 72)) [(.int 72), (.double (FP.l2d sh)), (.double (FP.ddiv (FP.l2d sp) (FP.l2d 72)))])) t → Steps p.tables e below (Tj.setTop (mkF m 63 (Ls5 pa ha (FP.l2d sp) (FP.l2d sh) wi (Int32.ofNat 72)) [(.ref ha), (.double (FP.l2d sh)), (.double (FP.ddiv (FP.l2d sp) (FP.l2d 72)))])) t := fun t k => Xj.arraylength hx (by rw [ej]; exact Ar3.1) (State.isArrayOf_alike hZ.alike Ar3.2.1) (g := (mkF m 63 (Ls5 pa ha (FP.l2d sp) (FP.l2d sh) wi (Int32.ofNat 72)) [(.ref ha), (.double (FP.l2d sh)), (.double (FP.ddiv (FP.l2d sp) (FP.l2d 72)))])) rfl rfl (hb hby d2_63) _ (by rw [len_of S3 N3]; exact k)
    refine own_by (T' := Tj) (g' := (mkF m 64 (Ls5 pa ha (FP.l2d sp) (FP.l2d sh) wi (Int32.ofNat 72)) [(.int 72), (.double (FP.l2d sh)), (.double (FP.ddiv (FP.l2d sp) (FP.l2d 72)))])) (fun t k => st3 t k) ?_
    clear st3
    refine own_by (g' := (mkF m 65 (Ls5 pa ha (FP.l2d sp) (FP.l2d sh) wi (Int32.ofNat 72)) [(.double (FP.l2d (72 : Int32).toInt64)), (.double (FP.l2d sh)), (.double (FP.ddiv (FP.l2d sp) (FP.l2d 72)))])) (fun t k => XS.i2dS Xj.here hx rfl (hb hby d2_64) rfl (i2d_w _) k) ?_
    rw [show (72 : Int32).toInt64 = (72 : Int64) from by decide]
    refine own_by (g' := (mkF m 66 (Ls5 pa ha (FP.l2d sp) (FP.l2d sh) wi (Int32.ofNat 72)) [(.double (FP.ddiv (FP.l2d sh) (FP.l2d 72))), (.double (FP.ddiv (FP.l2d sp) (FP.l2d 72)))])) (fun t k => XS.ddivS Xj.here hx rfl (hb hby d2_65) rfl (own_nq bq2) rfl k) ?_
    refine own_by (g' := (mkF m 67 (Ls5 pa ha (FP.l2d sp) (FP.l2d sh) wi (Int32.ofNat 72)) [(.int (lcmpW sp sh))])) (fun t k => XS.dcmpS Xj.here hx rfl (hb hby d2_66) rfl (own_dqV bq1 bq2 _) k) ?_
    by_cases hc67_4 : sp < sh
    · refine oFn 70 Xj hx (hb hby d2_67) ((if0 _ _).trans (tlt ((lw_lt _ _).mpr hc67_4)).2.1) rfl ?_
      refine oIl 72 Xj hx (hb hby d2_70) rfl rfl ?_
      refine oBi 74 Xj hx (hb hby d2_72) 70 rfl rfl ?_
      by_cases hc74_5 : wi < (70 : Int32)
      · refine oCy 81 Xj hx (hb hby d2_74) (tlt hc74_5).1 (by decide) (by decide) ?_
        refine oIc 82 Xj hx (hb hby d2_81) 0 rfl rfl ?_
        exact own_retN Xj hx (t := .boolean) hlk hret (by simp) (hb hby d2_82) (by decide) (by decide) (by rw [ej]; exact ⟨by rw [own_cb1 hc74_5 hwi]; rfl, N_, rfl⟩)
      · refine oCn 77 Xj hx (hb hby d2_74) (flt hc74_5).1 rfl ?_
        refine oIc 78 Xj hx (hb hby d2_77) 1 rfl rfl ?_
        refine oGo 82 Xj hx (hb hby d2_78) (by decide) (by decide) ?_
        exact own_retN Xj hx (t := .boolean) hlk hret (by simp) (hb hby d2_82) (by decide) (by decide) (by rw [ej]; exact ⟨by rw [own_cb2 hc67_4 hc74_5 hsp hsh hwi]; rfl, N_, rfl⟩)
    · refine oFy 81 Xj hx (hb hby d2_67) ((if0 _ _).trans (flt (fun q => hc67_4 ((lw_lt _ _).mp q))).2.1) (by decide) (by decide) ?_
      refine oIc 82 Xj hx (hb hby d2_81) 0 rfl rfl ?_
      exact own_retN Xj hx (t := .boolean) hlk hret (by simp) (hb hby d2_82) (by decide) (by decide) (by rw [ej]; exact ⟨by rw [own_cb0 hc67_4 hsp hsh]; rfl, N_, rfl⟩)
  | succ r ih =>
    intro i sp sh wi Tj locsj Xj ej N_ hi hsp hsh hwi
    have hlt : i < 72 := by omega
    have bsp : B53 sp := (own_bS hf hsp (by omega)).b53
    have bsh : B53 sh := (own_bS hg hsh (by omega)).b53
    refine oIl 13 Xj hx (hb hby d2_11) rfl rfl ?_
    refine oAlN 14 Xj hx (hb hby d2_13) rfl rfl ?_
    obtain ⟨cl6, Ar6, -, S6, N6, -, -⟩ := id V_pa
    have st6 : ∀ t, Steps p.tables e below (Tj.setTop (mkF m 15 (Ls5 pa ha (FP.l2d sp) (FP.l2d sh) wi (Int32.ofNat i)) [(.int 72), (.int (Int32.ofNat i))])) t → Steps p.tables e below (Tj.setTop (mkF m 14 (Ls5 pa ha (FP.l2d sp) (FP.l2d sh) wi (Int32.ofNat i)) [(.ref pa), (.int (Int32.ofNat i))])) t := fun t k => Xj.arraylength hx (by rw [ej]; exact Ar6.1) (State.isArrayOf_alike hZ.alike Ar6.2.1) (g := (mkF m 14 (Ls5 pa ha (FP.l2d sp) (FP.l2d sh) wi (Int32.ofNat i)) [(.ref pa), (.int (Int32.ofNat i))])) rfl rfl (hb hby d2_14) _ (by rw [len_of S6 N6]; exact k)
    refine own_by (T' := Tj) (g' := (mkF m 15 (Ls5 pa ha (FP.l2d sp) (FP.l2d sh) wi (Int32.ofNat i)) [(.int 72), (.int (Int32.ofNat i))])) (fun t k => st6 t k) ?_
    clear st6
    refine oCn 18 Xj hx (hb hby d2_15) (tlt (own_lt72' hlt)).2.1 rfl ?_
    refine oDlN 19 Xj hx (hb hby d2_18) rfl rfl ?_
    refine oAlN 20 Xj hx (hb hby d2_19) rfl rfl ?_
    refine oIl 22 Xj hx (hb hby d2_20) rfl rfl ?_
    refine oDaD 23 Xj hx hZ ej V_pa i (hb hby d2_22) (own_ix72 hlt) (own_cl72 hlt) hlt rfl rfl ?_
    refine own_by (g' := (mkF m 24 (Ls5 pa ha (FP.l2d sp) (FP.l2d sh) wi (Int32.ofNat i)) [(.double (FP.l2d (sp + (ff i))))])) (fun t k => XS.daddS Xj.here hx rfl (hb hby d2_23) rfl (nn_w (dadd_w bsp (own_b20.b53 (hf i)))) (dadd_w bsp (own_b20.b53 (hf i))) k) ?_
    refine own_by (g' := (mkF m 25 (Ls5 pa ha (FP.l2d (sp + (ff i))) (FP.l2d sh) wi (Int32.ofNat i)) [])) (fun t k => XS.dstoreN Xj.here hx rfl (hb hby d2_24) rfl (l' := (Ls5 pa ha (FP.l2d (sp + (ff i))) (FP.l2d sh) wi (Int32.ofNat i))) rfl k) ?_
    refine oDl 27 Xj hx (hb hby d2_25) rfl rfl ?_
    refine oAlN 28 Xj hx (hb hby d2_27) rfl rfl ?_
    refine oIl 30 Xj hx (hb hby d2_28) rfl rfl ?_
    refine oDaD 31 Xj hx hZ ej V_ha i (hb hby d2_30) (own_ix72 hlt) (own_cl72 hlt) hlt rfl rfl ?_
    refine own_by (g' := (mkF m 32 (Ls5 pa ha (FP.l2d (sp + (ff i))) (FP.l2d sh) wi (Int32.ofNat i)) [(.double (FP.l2d (sh + (gg i))))])) (fun t k => XS.daddS Xj.here hx rfl (hb hby d2_31) rfl (nn_w (dadd_w bsh (own_b20.b53 (hg i)))) (dadd_w bsh (own_b20.b53 (hg i))) k) ?_
    refine oDst 34 Xj hx (hb hby d2_32) (Ls5 pa ha (FP.l2d (sp + (ff i))) (FP.l2d (sh + (gg i))) wi (Int32.ofNat i)) rfl rfl ?_
    refine oAlN 35 Xj hx (hb hby d2_34) rfl rfl ?_
    refine oIl 37 Xj hx (hb hby d2_35) rfl rfl ?_
    refine oDaD 38 Xj hx hZ ej V_pa i (hb hby d2_37) (own_ix72 hlt) (own_cl72 hlt) hlt rfl rfl ?_
    refine oAlN 39 Xj hx (hb hby d2_38) rfl rfl ?_
    refine oIl 41 Xj hx (hb hby d2_39) rfl rfl ?_
    refine oDaD 42 Xj hx hZ ej V_ha i (hb hby d2_41) (own_ix72 hlt) (own_cl72 hlt) hlt rfl rfl ?_
    refine own_by (g' := (mkF m 43 (Ls5 pa ha (FP.l2d (sp + (ff i))) (FP.l2d (sh + (gg i))) wi (Int32.ofNat i)) [(.int (lcmpW (ff i) (gg i)))])) (fun t k => XS.dcmpS Xj.here hx rfl (hb hby d2_42) rfl (dcmpV_w (own_b20.b53 (hf i)) (own_b20.b53 (hg i)) _) k) ?_
    by_cases hc43_11 : (ff i) < (gg i)
    · refine oFn 46 Xj hx (hb hby d2_43) ((if0 _ _).trans (tlt ((lw_lt _ _).mpr hc43_11)).2.1) rfl ?_
      refine oInc 49 Xj hx (hb hby d2_46) (Ls5 pa ha (FP.l2d (sp + (ff i))) (FP.l2d (sh + (gg i))) (wi + (1 : Int32)) (Int32.ofNat i)) rfl rfl rfl ?_
      refine oInc 52 Xj hx (hb hby d2_49) (Ls5 pa ha (FP.l2d (sp + (ff i))) (FP.l2d (sh + (gg i))) (wi + (1 : Int32)) ((Int32.ofNat i) + (1 : Int32))) rfl rfl rfl ?_
      rw [show ((Int32.ofNat i) + (1 : Int32)) = (Int32.ofNat (i + 1)) from own_addN i 1]
      refine oGo 11 Xj hx (hb hby d2_52) (by decide) (by decide) ?_
      exact ih (i + 1) (sp + ff i) (sh + gg i) (wi + (1 : Int32)) Xj ej N_ (by omega) (own_Ss bsp (own_b20.b53 (hf i)) hsp) (own_Ss bsh (own_b20.b53 (hg i)) hsh) (own_Nl hwi hlt hc43_11)
    · refine oFy 49 Xj hx (hb hby d2_43) ((if0 _ _).trans (flt (fun q => hc43_11 ((lw_lt _ _).mp q))).2.1) (by decide) (by decide) ?_
      refine oInc 52 Xj hx (hb hby d2_49) (Ls5 pa ha (FP.l2d (sp + (ff i))) (FP.l2d (sh + (gg i))) wi ((Int32.ofNat i) + (1 : Int32))) rfl rfl rfl ?_
      rw [show ((Int32.ofNat i) + (1 : Int32)) = (Int32.ofNat (i + 1)) from own_addN i 1]
      refine oGo 11 Xj hx (hb hby d2_52) (by decide) (by decide) ?_
      exact ih (i + 1) (sp + ff i) (sh + gg i) wi Xj ej N_ (by omega) (own_Ss bsp (own_b20.b53 (hf i)) hsp) (own_Ss bsh (own_b20.b53 (hg i)) hsh) (own_Nn hwi hlt hc43_11)
set_option maxRecDepth 65536 in
set_option maxHeartbeats 40000000 in
theorem rm2 (l : Launch) (Z : State) (a0 : Array Value) (hw : ∀ d ∈ tables_1, d.before a0 Z = true) (ws : List Jvm.Cond) (pa : Addr) (ha : Addr) (kp : ClassId) (kh : ClassId) (ff : Nat → Int64) (gg : Nat → Int64) (h0 : Heap) (n0 : Nat) (Zle : n0 ≤ h0.size) (V_pa : Arv Z h0 pa kp .double (72 : Int32) (own_Dl ff 72) (.double (FP.l2d 0))) (V_ha : Arv Z h0 ha kh .double (72 : Int32) (own_Dl gg 72) (.double (FP.l2d 0))) (hf : ∀ i, own_b20 (ff i)) (hg : ∀ i, own_b20 (gg i)) :
    MetFree l (⟨"com/example/firebreak/firebreak/strategies/LazyMaxSum", "clearlyBetter", "([D[D)Z"⟩ : MethodName) (head1 (Jvm.Cond.code (⟨"com/example/firebreak/firebreak/strategies/LazyMaxSum", "clearlyBetter", "([D[D)Z"⟩ : MethodName) prog_48_method_3_code 8 (some .boolean) :: ws) ({ frames := 0, cells := 0, slots := 0, locals := 0 } : Room)) (fun a U => a = #[(.ref pa), (.ref ha)] ∧ Z.Warmed39 U.vm ∧ U.heap = h0) (fun _ _ _ _ _ => True) (fun _ U o U' => ∃ v L, o = .returned v ∧ Q2 Z pa ha kp kh ff gg h0 n0 v U'.heap L ∧ FrameEnd U o U' L ({ frames := 0, cells := 0, slots := 0, locals := 0 } : Room).cells ({ frames := 0, cells := 0, slots := 0, locals := 0 } : Room).slots) := by
  refine MetFree.of_bodySF (plainFor_of_name pn_com_example_firebreak_firebreak_strategies_LazyMaxSum) hisR ?_
  intro p e s m args below meth c s₁ Bd hml0 hP hK
  obtain ⟨rfl, hZ, hh⟩ := hP
  have hx := Bd.exec
  have hby := Bd.bytes
  have hml : c.maxLocals = 8 := hml0
  have hown : s.vm.findClass "com/example/firebreak/firebreak/strategies/LazyMaxSum" = some m.cls := findClass_of_methodNamed Bd.named
  have hnm := (name_of_methodNamed Bd.named Bd.method).1
  have X0 : Stand p l e ({ frames := 0, cells := 0, slots := 0, locals := 0 } : Room) s m #[(.ref pa), (.ref ha)] below meth c s₁ [] 0 0 := Stand.of_body Bd
  have e0 : s₁.heap = h0 := by rw [← hh, Bd.state]; rfl
  have N_ := Fr.nil n0
  show own_Goes p.tables e below s (Q2 Z pa ha kp kh ff gg h0 n0) ({ frames := 0, cells := 0, slots := 0, locals := 0 } : Room).cells ({ frames := 0, cells := 0, slots := 0, locals := 0 } : Room).slots s₁ (entryFrame m #[(.ref pa), (.ref ha)] 8)
  refine own_by (T' := s₁) (g' := (mkF m 0 (Ls1 pa ha) [])) (fun t k => castTop (ef_2 m pa ha) k) ?_
  refine own_by (g' := (mkF m 1 (Ls1 pa ha) [(.double (FP.l2d 0))])) (fun t k => XS.dconst0 X0.here hx rfl (hb hby d2_0) (by rw [l2d_zero]; rfl) k) ?_
  refine own_by (g' := (mkF m 2 (Ls2 pa ha (FP.l2d 0)) [])) (fun t k => XS.dstoreN X0.here hx rfl (hb hby d2_1) rfl (l' := (Ls2 pa ha (FP.l2d 0))) rfl k) ?_
  refine own_by (g' := (mkF m 3 (Ls2 pa ha (FP.l2d 0)) [(.double (FP.l2d 0))])) (fun t k => XS.dconst0 X0.here hx rfl (hb hby d2_2) (by rw [l2d_zero]; rfl) k) ?_
  refine oDst 5 X0 hx (hb hby d2_3) (Ls3 pa ha (FP.l2d 0) (FP.l2d 0)) rfl rfl ?_
  refine oIc 6 X0 hx (hb hby d2_5) 0 rfl rfl ?_
  refine oIst 8 X0 hx (hb hby d2_6) (Ls4 pa ha (FP.l2d 0) (FP.l2d 0) 0) rfl rfl ?_
  refine oIc 9 X0 hx (hb hby d2_8) 0 rfl rfl ?_
  refine oIst 11 X0 hx (hb hby d2_9) (Ls5 pa ha (FP.l2d 0) (FP.l2d 0) 0 0) rfl rfl ?_
  exact own_loop l Z a0 hw hx hby hml Bd.notSynchronized Bd.returns pa ha kp kh ff gg h0 n0 hf hg hZ hown V_pa V_ha 72 0 0 0 0 X0 e0 N_ rfl rfl rfl rfl

def Q0 (Z : State) (x1 : Int32) (x2 : Int32) (x3 : Int32) (x4 : Int32) (x5 : Int32) (x6 : Int32) (h0 : Heap) (n0 : Nat) (v : Option Value) (h : Heap) (L : List Loc) : Prop := v = some (.int 1) ∧ Fr n0 L
theorem ef_0 (m : MethodId) (x1 : Int32) (x2 : Int32) (x3 : Int32) (x4 : Int32) (x5 : Int32) (x6 : Int32) : entryFrame m #[(.int x1), (.int x2), (.int x3), (.int x4), (.int x5), (.int x6)] maxLocals = mkF m 0 #[.val (.int x1), .val (.int x2), .val (.int x3), .val (.int x4), .val (.int x5), .val (.int x6), .unset, .unset, .unset, .unset, .unset, .unset, .unset, .unset, .unset, .unset, .unset, .unset, .unset, .unset, .unset, .unset, .unset, .unset, .unset, .unset, .unset, .unset, .unset, .unset, .unset, .unset, .unset, .unset, .unset, .unset, .unset, .unset] [] := by first | (simp [entryFrame, mkF, argsToLocals, Value.category, maxLocals]; done) | rfl
theorem pd_0 : parseMethodDescriptor "(Z)I" = some ⟨[.boolean], some .int⟩ := by decide +kernel
theorem pd_1 : parseMethodDescriptor "([D[D)Z" = some ⟨[(.array .double), (.array .double)], some .boolean⟩ := by decide +kernel
set_option maxRecDepth 65536 in
set_option maxHeartbeats 40000000 in
theorem own_j1016 (l : Launch) (Z : State) (a0 : Array Value) (hw : ∀ d ∈ tables_1, d.before a0 Z = true) {p : Program} {e : Env} {s : State} {m : MethodId} {below : List Frame} {meth : Method} {c : Code} (hx : p.tables.exec = Jvm.exec) (hby : c.code = code) (hml : c.maxLocals = 38) (hlk : meth.locks = false) (hret : meth.sig.returnType = ret) (x1 : Int32) (x2 : Int32) (x3 : Int32) (x4 : Int32) (x5 : Int32) (x6 : Int32) (h0 : Heap) (n0 : Nat) (pl : Int64) (hl : Int64) (u0 : Int64) (u1 : Int64) (u2 : Int64) (u3 : Int64) (b1 : Addr) (k1 : ClassId) (b74 : Addr) (k74 : ClassId) (a0_ : Int32) (b0_ : Int32) (w0_ : Int32) (b1_ : Int32) (w1_ : Int32) (b2_ : Int32) (w2_ : Int32) (b3_ : Int32) {Tj : State} {hj : Heap} {locsj : List Loc}
    (hZ : Z.Warmed39 s.vm) (hown : s.vm.findClass "com/example/firebreak/firebreak/strategies/LazyMaxSumClearlyBetterPinLaw" = some m.cls) (Xj : Stand p l e room_1 s m #[(.int x1), (.int x2), (.int x3), (.int x4), (.int x5), (.int x6)] below meth c Tj locsj 2 144) (ej : Tj.heap = hj)
    (Zle : n0 ≤ hj.size) (N_ : Fr n0 locsj) (g_b1 : n0 ≤ b1) (V_b1 : Arv Z hj b1 k1 .double (72 : Int32) (own_Dl (own_e u0 u1 u2 pl) 72) (.double (FP.l2d 0))) (ne_b1_b74 : b1 ≠ b74) (g_b74 : n0 ≤ b74) (V_b74 : Arv Z hj b74 k74 .double (72 : Int32) (own_Dl (own_h hl u3) 72) (.double (FP.l2d 0))) (e_pl : pl = ((x1 >>> ((11 : Int32) &&& 31)).toInt64)) (b_pl : own_b20 pl) (e_hl : hl = ((x2 >>> ((11 : Int32) &&& 31)).toInt64)) (b_hl : own_b20 hl) (e_u0 : u0 = ((x3 >>> ((11 : Int32) &&& 31)).toInt64)) (b_u0 : own_b20 u0) (e_u1 : u1 = ((x4 >>> ((11 : Int32) &&& 31)).toInt64)) (b_u1 : own_b20 u1) (e_u2 : u2 = ((x5 >>> ((11 : Int32) &&& 31)).toInt64)) (b_u2 : own_b20 u2) (e_u3 : u3 = ((x6 >>> ((11 : Int32) &&& 31)).toInt64)) (b_u3 : own_b20 u3) (ha0 : own_is a0_ (68 * own_c pl hl) 68) (hb0 : own_is (own_one b0_) (own_c u0 hl) 1) (e_w0_ : w0_ = (a0_ + (own_one b0_))) (hw0 : own_is w0_ (68 * own_c pl hl + own_c u0 hl) 69) (hb1 : own_is (own_one b1_) (own_c u1 hl) 1) (e_w1_ : w1_ = (w0_ + (own_one b1_))) (hw1 : own_is w1_ (68 * own_c pl hl + own_c u0 hl + own_c u1 hl) 70) (hb2 : own_is (own_one b2_) (own_c u2 hl) 1) (e_w2_ : w2_ = (w1_ + (own_one b2_))) (hw2 : own_is w2_ (68 * own_c pl hl + own_c u0 hl + own_c u1 hl + own_c u2 hl) 71) (hb3 : own_is (own_one b3_) (own_c pl u3) 1) : own_Goes p.tables e below s (Q0 Z x1 x2 x3 x4 x5 x6 h0 n0) room_1.cells room_1.slots Tj (mkF m 1016 (Ls20 x1 x2 x3 x4 x5 x6 pl hl u0 u1 u2 u3 (FP.l2d pl) (FP.l2d hl) (FP.l2d u0) (FP.l2d u1) (FP.l2d u2) (FP.l2d u3) b1 b74) [(.int b3_), (.int w2_)]) := by
  obtain ⟨_, _, ⟨T150, L150, k150, n150⟩, -, X150, ⟨Lc150, hQ150, l150, y150, z150⟩, st150⟩ := Jvm.LawKit.callS Xj hx (y := (⟨"com/example/firebreak/firebreak/strategies/LazyMaxSumClearlyBetterPinLaw", "one", "(Z)I"⟩ : MethodName)) hown (mvT hZ (hw _ (own_m 1 rfl))) (mvT hZ (hw _ (own_m 2 rfl))) (mvT hZ (hw _ (own_m 3 rfl))) (mvT hZ (hw _ (own_m 4 rfl))) (by decide) (backOf (W := 1) (rm1 l Z a0 hw [] b3_ hj n0 Zle ) hZ (hw _ (own_m 4 rfl)) (hw _ (own_m 3 rfl)) (by decide) (by decide)) (g := (mkF m 1016 (Ls20 x1 x2 x3 x4 x5 x6 pl hl u0 u1 u2 u3 (FP.l2d pl) (FP.l2d hl) (FP.l2d u0) (FP.l2d u1) (FP.l2d u2) (FP.l2d u3) b1 b74) [(.int b3_), (.int w2_)])) rfl (by rw [hml]; rfl) (argsL := [(.int b3_)]) (rest := [(.int w2_)]) (lenOf pd_0 rfl) rfl (own_le rfl) (hb hby at_1016) (fun _ _ => ⟨rfl, ej, (by decide : 2 + 0 ≤ _), (by decide : 144 + 0 ≤ _)⟩)
  dsimp only [Pt.U, Pt.locs, Pt.cells, Pt.slots] at X150 l150 y150 z150 st150 hQ150
  subst l150 y150 z150
  obtain ⟨rfl, Nq150, e150⟩ := hQ150
  replace N_ := Fr.app N_ Nq150
  clear Nq150
  refine own_by (T' := T150) (g' := (mkF m 1019 (Ls20 x1 x2 x3 x4 x5 x6 pl hl u0 u1 u2 u3 (FP.l2d pl) (FP.l2d hl) (FP.l2d u0) (FP.l2d u1) (FP.l2d u2) (FP.l2d u3) b1 b74) [(.int (own_one b3_)), (.int w2_)])) (fun t k => st150 _ k) ?_
  clear st150
  refine oAdd 1020 X150 hx (hb hby at_1019) (w2_ + (own_one b3_)) rfl rfl ?_
  obtain ⟨w3_, e_w3_⟩ : ∃ z : Int32, z = (w2_ + (own_one b3_)) := ⟨_, rfl⟩
  rw [← e_w3_]
  have hw3 : own_is w3_ (68 * own_c pl hl + own_c u0 hl + own_c u1 hl + own_c u2 hl + own_c pl u3) 72 := by rw [e_w3_]; exact own_isA hw2 hb3 (by decide)
  refine oIst 1022 X150 hx (hb hby at_1020) (Ls21 x1 x2 x3 x4 x5 x6 pl hl u0 u1 u2 u3 (FP.l2d pl) (FP.l2d hl) (FP.l2d u0) (FP.l2d u1) (FP.l2d u2) (FP.l2d u3) b1 b74 w3_) rfl rfl ?_
  refine own_by (T' := T150) (g' := (mkF m 1025 (Ls21 x1 x2 x3 x4 x5 x6 pl hl u0 u1 u2 u3 (FP.l2d pl) (FP.l2d hl) (FP.l2d u0) (FP.l2d u1) (FP.l2d u2) (FP.l2d u3) b1 b74 w3_) [(.long 69)])) (fun t k => X150.ldc2Long hx hown (mvT hZ (hw _ (own_m 5 rfl))) (g := (mkF m 1022 (Ls21 x1 x2 x3 x4 x5 x6 pl hl u0 u1 u2 u3 (FP.l2d pl) (FP.l2d hl) (FP.l2d u0) (FP.l2d u1) (FP.l2d u2) (FP.l2d u3) b1 b74 w3_) [])) rfl (hb hby at_1022) _ k) ?_
  refine own_by (g' := (mkF m 1027 (Ls21 x1 x2 x3 x4 x5 x6 pl hl u0 u1 u2 u3 (FP.l2d pl) (FP.l2d hl) (FP.l2d u0) (FP.l2d u1) (FP.l2d u2) (FP.l2d u3) b1 b74 w3_) [(.long pl), (.long 69)])) (fun t k => XS.lload X150.here hx rfl (hb hby at_1025) rfl k) ?_
  refine own_by (g' := (mkF m 1028 (Ls21 x1 x2 x3 x4 x5 x6 pl hl u0 u1 u2 u3 (FP.l2d pl) (FP.l2d hl) (FP.l2d u0) (FP.l2d u1) (FP.l2d u2) (FP.l2d u3) b1 b74 w3_) [(.long ((69 : Int64) * pl))])) (fun t k => XS.lmul X150.here hx rfl (hb hby at_1027) rfl k) ?_
  refine own_by (g' := (mkF m 1030 (Ls21 x1 x2 x3 x4 x5 x6 pl hl u0 u1 u2 u3 (FP.l2d pl) (FP.l2d hl) (FP.l2d u0) (FP.l2d u1) (FP.l2d u2) (FP.l2d u3) b1 b74 w3_) [(.long u0), (.long ((69 : Int64) * pl))])) (fun t k => XS.lload X150.here hx rfl (hb hby at_1028) rfl k) ?_
  refine own_by (g' := (mkF m 1031 (Ls21 x1 x2 x3 x4 x5 x6 pl hl u0 u1 u2 u3 (FP.l2d pl) (FP.l2d hl) (FP.l2d u0) (FP.l2d u1) (FP.l2d u2) (FP.l2d u3) b1 b74 w3_) [(.long (((69 : Int64) * pl) + u0))])) (fun t k => XS.ladd X150.here hx rfl (hb hby at_1030) rfl k) ?_
  refine own_by (g' := (mkF m 1033 (Ls21 x1 x2 x3 x4 x5 x6 pl hl u0 u1 u2 u3 (FP.l2d pl) (FP.l2d hl) (FP.l2d u0) (FP.l2d u1) (FP.l2d u2) (FP.l2d u3) b1 b74 w3_) [(.long u1), (.long (((69 : Int64) * pl) + u0))])) (fun t k => XS.lload X150.here hx rfl (hb hby at_1031) rfl k) ?_
  refine own_by (g' := (mkF m 1034 (Ls21 x1 x2 x3 x4 x5 x6 pl hl u0 u1 u2 u3 (FP.l2d pl) (FP.l2d hl) (FP.l2d u0) (FP.l2d u1) (FP.l2d u2) (FP.l2d u3) b1 b74 w3_) [(.long ((((69 : Int64) * pl) + u0) + u1))])) (fun t k => XS.ladd X150.here hx rfl (hb hby at_1033) rfl k) ?_
  refine own_by (g' := (mkF m 1036 (Ls21 x1 x2 x3 x4 x5 x6 pl hl u0 u1 u2 u3 (FP.l2d pl) (FP.l2d hl) (FP.l2d u0) (FP.l2d u1) (FP.l2d u2) (FP.l2d u3) b1 b74 w3_) [(.long u2), (.long ((((69 : Int64) * pl) + u0) + u1))])) (fun t k => XS.lload X150.here hx rfl (hb hby at_1034) rfl k) ?_
  refine own_by (g' := (mkF m 1037 (Ls21 x1 x2 x3 x4 x5 x6 pl hl u0 u1 u2 u3 (FP.l2d pl) (FP.l2d hl) (FP.l2d u0) (FP.l2d u1) (FP.l2d u2) (FP.l2d u3) b1 b74 w3_) [(.long (((((69 : Int64) * pl) + u0) + u1) + u2))])) (fun t k => XS.ladd X150.here hx rfl (hb hby at_1036) rfl k) ?_
  refine own_by (g' := (mkF m 1039 (Ls22 x1 x2 x3 x4 x5 x6 pl hl u0 u1 u2 u3 (FP.l2d pl) (FP.l2d hl) (FP.l2d u0) (FP.l2d u1) (FP.l2d u2) (FP.l2d u3) b1 b74 w3_ (((((69 : Int64) * pl) + u0) + u1) + u2)) [])) (fun t k => XS.lstore X150.here hx rfl (hb hby at_1037) rfl (l' := (Ls22 x1 x2 x3 x4 x5 x6 pl hl u0 u1 u2 u3 (FP.l2d pl) (FP.l2d hl) (FP.l2d u0) (FP.l2d u1) (FP.l2d u2) (FP.l2d u3) b1 b74 w3_ (((((69 : Int64) * pl) + u0) + u1) + u2))) rfl k) ?_
  obtain ⟨sp, e_sp⟩ : ∃ z : Int64, z = (((((69 : Int64) * pl) + u0) + u1) + u2) := ⟨_, rfl⟩
  rw [← e_sp]
  have hsp : sp.toInt = own_S (own_e u0 u1 u2 pl) 72 := by rw [e_sp]; exact own_Se b_pl b_u0 b_u1 b_u2
  refine own_by (T' := T150) (g' := (mkF m 1042 (Ls22 x1 x2 x3 x4 x5 x6 pl hl u0 u1 u2 u3 (FP.l2d pl) (FP.l2d hl) (FP.l2d u0) (FP.l2d u1) (FP.l2d u2) (FP.l2d u3) b1 b74 w3_ sp) [(.long 71)])) (fun t k => X150.ldc2Long hx hown (mvT hZ (hw _ (own_m 6 rfl))) (g := (mkF m 1039 (Ls22 x1 x2 x3 x4 x5 x6 pl hl u0 u1 u2 u3 (FP.l2d pl) (FP.l2d hl) (FP.l2d u0) (FP.l2d u1) (FP.l2d u2) (FP.l2d u3) b1 b74 w3_ sp) [])) rfl (hb hby at_1039) _ k) ?_
  refine own_by (g' := (mkF m 1044 (Ls22 x1 x2 x3 x4 x5 x6 pl hl u0 u1 u2 u3 (FP.l2d pl) (FP.l2d hl) (FP.l2d u0) (FP.l2d u1) (FP.l2d u2) (FP.l2d u3) b1 b74 w3_ sp) [(.long hl), (.long 71)])) (fun t k => XS.lload X150.here hx rfl (hb hby at_1042) rfl k) ?_
  refine own_by (g' := (mkF m 1045 (Ls22 x1 x2 x3 x4 x5 x6 pl hl u0 u1 u2 u3 (FP.l2d pl) (FP.l2d hl) (FP.l2d u0) (FP.l2d u1) (FP.l2d u2) (FP.l2d u3) b1 b74 w3_ sp) [(.long ((71 : Int64) * hl))])) (fun t k => XS.lmul X150.here hx rfl (hb hby at_1044) rfl k) ?_
  refine own_by (g' := (mkF m 1047 (Ls22 x1 x2 x3 x4 x5 x6 pl hl u0 u1 u2 u3 (FP.l2d pl) (FP.l2d hl) (FP.l2d u0) (FP.l2d u1) (FP.l2d u2) (FP.l2d u3) b1 b74 w3_ sp) [(.long u3), (.long ((71 : Int64) * hl))])) (fun t k => XS.lload X150.here hx rfl (hb hby at_1045) rfl k) ?_
  refine own_by (g' := (mkF m 1048 (Ls22 x1 x2 x3 x4 x5 x6 pl hl u0 u1 u2 u3 (FP.l2d pl) (FP.l2d hl) (FP.l2d u0) (FP.l2d u1) (FP.l2d u2) (FP.l2d u3) b1 b74 w3_ sp) [(.long (((71 : Int64) * hl) + u3))])) (fun t k => XS.ladd X150.here hx rfl (hb hby at_1047) rfl k) ?_
  refine own_by (g' := (mkF m 1050 (Ls23 x1 x2 x3 x4 x5 x6 pl hl u0 u1 u2 u3 (FP.l2d pl) (FP.l2d hl) (FP.l2d u0) (FP.l2d u1) (FP.l2d u2) (FP.l2d u3) b1 b74 w3_ sp (((71 : Int64) * hl) + u3)) [])) (fun t k => XS.lstore X150.here hx rfl (hb hby at_1048) rfl (l' := (Ls23 x1 x2 x3 x4 x5 x6 pl hl u0 u1 u2 u3 (FP.l2d pl) (FP.l2d hl) (FP.l2d u0) (FP.l2d u1) (FP.l2d u2) (FP.l2d u3) b1 b74 w3_ sp (((71 : Int64) * hl) + u3))) rfl k) ?_
  obtain ⟨sh, e_sh⟩ : ∃ z : Int64, z = (((71 : Int64) * hl) + u3) := ⟨_, rfl⟩
  rw [← e_sh]
  have hsh : sh.toInt = own_S (own_h hl u3) 72 := by rw [e_sh]; exact own_Sh b_hl b_u3
  have hwi : w3_.toInt = own_N (own_e u0 u1 u2 pl) (own_h hl u3) 72 := own_Ne hw3
  refine own_by (g' := (mkF m 1052 (Ls23 x1 x2 x3 x4 x5 x6 pl hl u0 u1 u2 u3 (FP.l2d pl) (FP.l2d hl) (FP.l2d u0) (FP.l2d u1) (FP.l2d u2) (FP.l2d u3) b1 b74 w3_ sp sh) [(.long sp)])) (fun t k => XS.lload X150.here hx rfl (hb hby at_1050) rfl k) ?_
  refine own_by (g' := (mkF m 1054 (Ls23 x1 x2 x3 x4 x5 x6 pl hl u0 u1 u2 u3 (FP.l2d pl) (FP.l2d hl) (FP.l2d u0) (FP.l2d u1) (FP.l2d u2) (FP.l2d u3) b1 b74 w3_ sp sh) [(.long sh), (.long sp)])) (fun t k => XS.lload X150.here hx rfl (hb hby at_1052) rfl k) ?_
  refine own_by (g' := (mkF m 1055 (Ls23 x1 x2 x3 x4 x5 x6 pl hl u0 u1 u2 u3 (FP.l2d pl) (FP.l2d hl) (FP.l2d u0) (FP.l2d u1) (FP.l2d u2) (FP.l2d u3) b1 b74 w3_ sp sh) [(.int (lcmpW sp sh))])) (fun t k => XS.lcmp X150.here hx rfl (hb hby at_1054) rfl k) ?_
  by_cases hc1055_151 : sp < sh
  · refine oFn 1058 X150 hx (hb hby at_1055) ((if0 _ _).trans (tlt ((lw_lt _ _).mpr hc1055_151)).2.1) rfl ?_
    refine oIl 1060 X150 hx (hb hby at_1058) rfl rfl ?_
    refine oBi 1062 X150 hx (hb hby at_1060) 70 rfl rfl ?_
    by_cases hc1062_152 : w3_ < (70 : Int32)
    · refine oCy 1069 X150 hx (hb hby at_1062) (tlt hc1062_152).1 (by decide) (by decide) ?_
      refine oIc 1070 X150 hx (hb hby at_1069) 0 rfl rfl ?_
      refine oIst 1072 X150 hx (hb hby at_1070) (Ls24 x1 x2 x3 x4 x5 x6 pl hl u0 u1 u2 u3 (FP.l2d pl) (FP.l2d hl) (FP.l2d u0) (FP.l2d u1) (FP.l2d u2) (FP.l2d u3) b1 b74 w3_ sp sh 0) rfl rfl ?_
      refine oAl 1074 X150 hx (hb hby at_1072) rfl rfl ?_
      refine oAl 1076 X150 hx (hb hby at_1074) rfl rfl ?_
      obtain ⟨_, _, ⟨T153, L153, k153, n153⟩, -, X153, ⟨Lc153, hQ153, l153, y153, z153⟩, st153⟩ := Jvm.LawKit.callS X150 hx (y := (⟨"com/example/firebreak/firebreak/strategies/LazyMaxSum", "clearlyBetter", "([D[D)Z"⟩ : MethodName)) hown (mvT hZ (hw _ (own_m 7 rfl))) (mvT hZ (hw _ (own_m 8 rfl))) (mvT hZ (hw _ (own_m 9 rfl))) (mvT hZ (hw _ (own_m 10 rfl))) (by decide) (backOf (W := 0) (rm2 l Z a0 hw [] b1 b74 k1 k74 (own_e u0 u1 u2 pl) (own_h hl u3) hj n0 Zle V_b1 V_b74 (own_eB b_pl b_u0 b_u1 b_u2) (own_hB b_hl b_u3)) hZ (hw _ (own_m 10 rfl)) (hw _ (own_m 9 rfl)) (by decide) (by decide)) (g := (mkF m 1076 (Ls24 x1 x2 x3 x4 x5 x6 pl hl u0 u1 u2 u3 (FP.l2d pl) (FP.l2d hl) (FP.l2d u0) (FP.l2d u1) (FP.l2d u2) (FP.l2d u3) b1 b74 w3_ sp sh 0) [(.ref b74), (.ref b1)])) rfl (by rw [hml]; rfl) (argsL := [(.ref b1), (.ref b74)]) (rest := []) (lenOf pd_1 rfl) rfl (own_le rfl) (hb hby at_1076) (fun _ _ => ⟨rfl, e150, (by decide : 2 + 0 ≤ _), (by decide : 144 + 0 ≤ _)⟩)
      dsimp only [Pt.U, Pt.locs, Pt.cells, Pt.slots] at X153 l153 y153 z153 st153 hQ153
      subst l153 y153 z153
      obtain ⟨rfl, Nq153, e153⟩ := hQ153
      replace N_ := Fr.app N_ Nq153
      clear Nq153
      refine own_by (T' := T153) (g' := (mkF m 1079 (Ls24 x1 x2 x3 x4 x5 x6 pl hl u0 u1 u2 u3 (FP.l2d pl) (FP.l2d hl) (FP.l2d u0) (FP.l2d u1) (FP.l2d u2) (FP.l2d u3) b1 b74 w3_ sp sh 0) [(.int (own_cb (own_S (own_e u0 u1 u2 pl) 72) (own_S (own_h hl u3) 72) (own_N (own_e u0 u1 u2 pl) (own_h hl u3) 72)))])) (fun t k => st153 _ k) ?_
      clear st153 X150 e150
      rw [show (own_cb (own_S (own_e u0 u1 u2 pl) 72) (own_S (own_h hl u3) 72) (own_N (own_e u0 u1 u2 pl) (own_h hl u3) 72)) = (0 : Int32) from (own_cb1 hc1062_152 hwi)]
      refine oIl 1081 X153 hx (hb hby at_1079) rfl rfl ?_
      refine oCn 1084 X153 hx (hb hby at_1081) (teq (by decide)).2 rfl ?_
      refine oIc 1085 X153 hx (hb hby at_1084) 1 rfl rfl ?_
      refine oGo 1089 X153 hx (hb hby at_1085) (by decide) (by decide) ?_
      exact own_retN X153 hx (t := .boolean) hlk hret (by simp) (hb hby at_1089) (by decide) (by decide) (by rw [e153]; exact ⟨rfl, N_⟩)
    · refine oCn 1065 X150 hx (hb hby at_1062) (flt hc1062_152).1 rfl ?_
      refine oIc 1066 X150 hx (hb hby at_1065) 1 rfl rfl ?_
      refine oGo 1070 X150 hx (hb hby at_1066) (by decide) (by decide) ?_
      refine oIst 1072 X150 hx (hb hby at_1070) (Ls24 x1 x2 x3 x4 x5 x6 pl hl u0 u1 u2 u3 (FP.l2d pl) (FP.l2d hl) (FP.l2d u0) (FP.l2d u1) (FP.l2d u2) (FP.l2d u3) b1 b74 w3_ sp sh 1) rfl rfl ?_
      refine oAl 1074 X150 hx (hb hby at_1072) rfl rfl ?_
      refine oAl 1076 X150 hx (hb hby at_1074) rfl rfl ?_
      obtain ⟨_, _, ⟨T154, L154, k154, n154⟩, -, X154, ⟨Lc154, hQ154, l154, y154, z154⟩, st154⟩ := Jvm.LawKit.callS X150 hx (y := (⟨"com/example/firebreak/firebreak/strategies/LazyMaxSum", "clearlyBetter", "([D[D)Z"⟩ : MethodName)) hown (mvT hZ (hw _ (own_m 7 rfl))) (mvT hZ (hw _ (own_m 8 rfl))) (mvT hZ (hw _ (own_m 9 rfl))) (mvT hZ (hw _ (own_m 10 rfl))) (by decide) (backOf (W := 0) (rm2 l Z a0 hw [] b1 b74 k1 k74 (own_e u0 u1 u2 pl) (own_h hl u3) hj n0 Zle V_b1 V_b74 (own_eB b_pl b_u0 b_u1 b_u2) (own_hB b_hl b_u3)) hZ (hw _ (own_m 10 rfl)) (hw _ (own_m 9 rfl)) (by decide) (by decide)) (g := (mkF m 1076 (Ls24 x1 x2 x3 x4 x5 x6 pl hl u0 u1 u2 u3 (FP.l2d pl) (FP.l2d hl) (FP.l2d u0) (FP.l2d u1) (FP.l2d u2) (FP.l2d u3) b1 b74 w3_ sp sh 1) [(.ref b74), (.ref b1)])) rfl (by rw [hml]; rfl) (argsL := [(.ref b1), (.ref b74)]) (rest := []) (lenOf pd_1 rfl) rfl (own_le rfl) (hb hby at_1076) (fun _ _ => ⟨rfl, e150, (by decide : 2 + 0 ≤ _), (by decide : 144 + 0 ≤ _)⟩)
      dsimp only [Pt.U, Pt.locs, Pt.cells, Pt.slots] at X154 l154 y154 z154 st154 hQ154
      subst l154 y154 z154
      obtain ⟨rfl, Nq154, e154⟩ := hQ154
      replace N_ := Fr.app N_ Nq154
      clear Nq154
      refine own_by (T' := T154) (g' := (mkF m 1079 (Ls24 x1 x2 x3 x4 x5 x6 pl hl u0 u1 u2 u3 (FP.l2d pl) (FP.l2d hl) (FP.l2d u0) (FP.l2d u1) (FP.l2d u2) (FP.l2d u3) b1 b74 w3_ sp sh 1) [(.int (own_cb (own_S (own_e u0 u1 u2 pl) 72) (own_S (own_h hl u3) 72) (own_N (own_e u0 u1 u2 pl) (own_h hl u3) 72)))])) (fun t k => st154 _ k) ?_
      clear st154 X150 e150
      rw [show (own_cb (own_S (own_e u0 u1 u2 pl) 72) (own_S (own_h hl u3) 72) (own_N (own_e u0 u1 u2 pl) (own_h hl u3) 72)) = (1 : Int32) from (own_cb2 hc1055_151 hc1062_152 hsp hsh hwi)]
      refine oIl 1081 X154 hx (hb hby at_1079) rfl rfl ?_
      refine oCn 1084 X154 hx (hb hby at_1081) (teq (by decide)).2 rfl ?_
      refine oIc 1085 X154 hx (hb hby at_1084) 1 rfl rfl ?_
      refine oGo 1089 X154 hx (hb hby at_1085) (by decide) (by decide) ?_
      exact own_retN X154 hx (t := .boolean) hlk hret (by simp) (hb hby at_1089) (by decide) (by decide) (by rw [e154]; exact ⟨rfl, N_⟩)
  · refine oFy 1069 X150 hx (hb hby at_1055) ((if0 _ _).trans (flt (fun q => hc1055_151 ((lw_lt _ _).mp q))).2.1) (by decide) (by decide) ?_
    refine oIc 1070 X150 hx (hb hby at_1069) 0 rfl rfl ?_
    refine oIst 1072 X150 hx (hb hby at_1070) (Ls24 x1 x2 x3 x4 x5 x6 pl hl u0 u1 u2 u3 (FP.l2d pl) (FP.l2d hl) (FP.l2d u0) (FP.l2d u1) (FP.l2d u2) (FP.l2d u3) b1 b74 w3_ sp sh 0) rfl rfl ?_
    refine oAl 1074 X150 hx (hb hby at_1072) rfl rfl ?_
    refine oAl 1076 X150 hx (hb hby at_1074) rfl rfl ?_
    obtain ⟨_, _, ⟨T155, L155, k155, n155⟩, -, X155, ⟨Lc155, hQ155, l155, y155, z155⟩, st155⟩ := Jvm.LawKit.callS X150 hx (y := (⟨"com/example/firebreak/firebreak/strategies/LazyMaxSum", "clearlyBetter", "([D[D)Z"⟩ : MethodName)) hown (mvT hZ (hw _ (own_m 7 rfl))) (mvT hZ (hw _ (own_m 8 rfl))) (mvT hZ (hw _ (own_m 9 rfl))) (mvT hZ (hw _ (own_m 10 rfl))) (by decide) (backOf (W := 0) (rm2 l Z a0 hw [] b1 b74 k1 k74 (own_e u0 u1 u2 pl) (own_h hl u3) hj n0 Zle V_b1 V_b74 (own_eB b_pl b_u0 b_u1 b_u2) (own_hB b_hl b_u3)) hZ (hw _ (own_m 10 rfl)) (hw _ (own_m 9 rfl)) (by decide) (by decide)) (g := (mkF m 1076 (Ls24 x1 x2 x3 x4 x5 x6 pl hl u0 u1 u2 u3 (FP.l2d pl) (FP.l2d hl) (FP.l2d u0) (FP.l2d u1) (FP.l2d u2) (FP.l2d u3) b1 b74 w3_ sp sh 0) [(.ref b74), (.ref b1)])) rfl (by rw [hml]; rfl) (argsL := [(.ref b1), (.ref b74)]) (rest := []) (lenOf pd_1 rfl) rfl (own_le rfl) (hb hby at_1076) (fun _ _ => ⟨rfl, e150, (by decide : 2 + 0 ≤ _), (by decide : 144 + 0 ≤ _)⟩)
    dsimp only [Pt.U, Pt.locs, Pt.cells, Pt.slots] at X155 l155 y155 z155 st155 hQ155
    subst l155 y155 z155
    obtain ⟨rfl, Nq155, e155⟩ := hQ155
    replace N_ := Fr.app N_ Nq155
    clear Nq155
    refine own_by (T' := T155) (g' := (mkF m 1079 (Ls24 x1 x2 x3 x4 x5 x6 pl hl u0 u1 u2 u3 (FP.l2d pl) (FP.l2d hl) (FP.l2d u0) (FP.l2d u1) (FP.l2d u2) (FP.l2d u3) b1 b74 w3_ sp sh 0) [(.int (own_cb (own_S (own_e u0 u1 u2 pl) 72) (own_S (own_h hl u3) 72) (own_N (own_e u0 u1 u2 pl) (own_h hl u3) 72)))])) (fun t k => st155 _ k) ?_
    clear st155 X150 e150
    rw [show (own_cb (own_S (own_e u0 u1 u2 pl) 72) (own_S (own_h hl u3) 72) (own_N (own_e u0 u1 u2 pl) (own_h hl u3) 72)) = (0 : Int32) from (own_cb0 hc1055_151 hsp hsh)]
    refine oIl 1081 X155 hx (hb hby at_1079) rfl rfl ?_
    refine oCn 1084 X155 hx (hb hby at_1081) (teq (by decide)).2 rfl ?_
    refine oIc 1085 X155 hx (hb hby at_1084) 1 rfl rfl ?_
    refine oGo 1089 X155 hx (hb hby at_1085) (by decide) (by decide) ?_
    exact own_retN X155 hx (t := .boolean) hlk hret (by simp) (hb hby at_1089) (by decide) (by decide) (by rw [e155]; exact ⟨rfl, N_⟩)
set_option maxRecDepth 65536 in
set_option maxHeartbeats 40000000 in
theorem own_j999 (l : Launch) (Z : State) (a0 : Array Value) (hw : ∀ d ∈ tables_1, d.before a0 Z = true) {p : Program} {e : Env} {s : State} {m : MethodId} {below : List Frame} {meth : Method} {c : Code} (hx : p.tables.exec = Jvm.exec) (hby : c.code = code) (hml : c.maxLocals = 38) (hlk : meth.locks = false) (hret : meth.sig.returnType = ret) (x1 : Int32) (x2 : Int32) (x3 : Int32) (x4 : Int32) (x5 : Int32) (x6 : Int32) (h0 : Heap) (n0 : Nat) (pl : Int64) (hl : Int64) (u0 : Int64) (u1 : Int64) (u2 : Int64) (u3 : Int64) (b1 : Addr) (k1 : ClassId) (b74 : Addr) (k74 : ClassId) (a0_ : Int32) (b0_ : Int32) (w0_ : Int32) (b1_ : Int32) (w1_ : Int32) (b2_ : Int32) {Tj : State} {hj : Heap} {locsj : List Loc}
    (hZ : Z.Warmed39 s.vm) (hown : s.vm.findClass "com/example/firebreak/firebreak/strategies/LazyMaxSumClearlyBetterPinLaw" = some m.cls) (Xj : Stand p l e room_1 s m #[(.int x1), (.int x2), (.int x3), (.int x4), (.int x5), (.int x6)] below meth c Tj locsj 2 144) (ej : Tj.heap = hj)
    (Zle : n0 ≤ hj.size) (N_ : Fr n0 locsj) (g_b1 : n0 ≤ b1) (V_b1 : Arv Z hj b1 k1 .double (72 : Int32) (own_Dl (own_e u0 u1 u2 pl) 72) (.double (FP.l2d 0))) (ne_b1_b74 : b1 ≠ b74) (g_b74 : n0 ≤ b74) (V_b74 : Arv Z hj b74 k74 .double (72 : Int32) (own_Dl (own_h hl u3) 72) (.double (FP.l2d 0))) (e_pl : pl = ((x1 >>> ((11 : Int32) &&& 31)).toInt64)) (b_pl : own_b20 pl) (e_hl : hl = ((x2 >>> ((11 : Int32) &&& 31)).toInt64)) (b_hl : own_b20 hl) (e_u0 : u0 = ((x3 >>> ((11 : Int32) &&& 31)).toInt64)) (b_u0 : own_b20 u0) (e_u1 : u1 = ((x4 >>> ((11 : Int32) &&& 31)).toInt64)) (b_u1 : own_b20 u1) (e_u2 : u2 = ((x5 >>> ((11 : Int32) &&& 31)).toInt64)) (b_u2 : own_b20 u2) (e_u3 : u3 = ((x6 >>> ((11 : Int32) &&& 31)).toInt64)) (b_u3 : own_b20 u3) (ha0 : own_is a0_ (68 * own_c pl hl) 68) (hb0 : own_is (own_one b0_) (own_c u0 hl) 1) (e_w0_ : w0_ = (a0_ + (own_one b0_))) (hw0 : own_is w0_ (68 * own_c pl hl + own_c u0 hl) 69) (hb1 : own_is (own_one b1_) (own_c u1 hl) 1) (e_w1_ : w1_ = (w0_ + (own_one b1_))) (hw1 : own_is w1_ (68 * own_c pl hl + own_c u0 hl + own_c u1 hl) 70) (hb2 : own_is (own_one b2_) (own_c u2 hl) 1) : own_Goes p.tables e below s (Q0 Z x1 x2 x3 x4 x5 x6 h0 n0) room_1.cells room_1.slots Tj (mkF m 999 (Ls20 x1 x2 x3 x4 x5 x6 pl hl u0 u1 u2 u3 (FP.l2d pl) (FP.l2d hl) (FP.l2d u0) (FP.l2d u1) (FP.l2d u2) (FP.l2d u3) b1 b74) [(.int b2_), (.int w1_)]) := by
  obtain ⟨_, _, ⟨T149, L149, k149, n149⟩, -, X149, ⟨Lc149, hQ149, l149, y149, z149⟩, st149⟩ := Jvm.LawKit.callS Xj hx (y := (⟨"com/example/firebreak/firebreak/strategies/LazyMaxSumClearlyBetterPinLaw", "one", "(Z)I"⟩ : MethodName)) hown (mvT hZ (hw _ (own_m 1 rfl))) (mvT hZ (hw _ (own_m 2 rfl))) (mvT hZ (hw _ (own_m 3 rfl))) (mvT hZ (hw _ (own_m 4 rfl))) (by decide) (backOf (W := 1) (rm1 l Z a0 hw [] b2_ hj n0 Zle ) hZ (hw _ (own_m 4 rfl)) (hw _ (own_m 3 rfl)) (by decide) (by decide)) (g := (mkF m 999 (Ls20 x1 x2 x3 x4 x5 x6 pl hl u0 u1 u2 u3 (FP.l2d pl) (FP.l2d hl) (FP.l2d u0) (FP.l2d u1) (FP.l2d u2) (FP.l2d u3) b1 b74) [(.int b2_), (.int w1_)])) rfl (by rw [hml]; rfl) (argsL := [(.int b2_)]) (rest := [(.int w1_)]) (lenOf pd_0 rfl) rfl (own_le rfl) (hb hby at_999) (fun _ _ => ⟨rfl, ej, (by decide : 2 + 0 ≤ _), (by decide : 144 + 0 ≤ _)⟩)
  dsimp only [Pt.U, Pt.locs, Pt.cells, Pt.slots] at X149 l149 y149 z149 st149 hQ149
  subst l149 y149 z149
  obtain ⟨rfl, Nq149, e149⟩ := hQ149
  replace N_ := Fr.app N_ Nq149
  clear Nq149
  refine own_by (T' := T149) (g' := (mkF m 1002 (Ls20 x1 x2 x3 x4 x5 x6 pl hl u0 u1 u2 u3 (FP.l2d pl) (FP.l2d hl) (FP.l2d u0) (FP.l2d u1) (FP.l2d u2) (FP.l2d u3) b1 b74) [(.int (own_one b2_)), (.int w1_)])) (fun t k => st149 _ k) ?_
  clear st149
  refine oAdd 1003 X149 hx (hb hby at_1002) (w1_ + (own_one b2_)) rfl rfl ?_
  obtain ⟨w2_, e_w2_⟩ : ∃ z : Int32, z = (w1_ + (own_one b2_)) := ⟨_, rfl⟩
  rw [← e_w2_]
  have hw2 : own_is w2_ (68 * own_c pl hl + own_c u0 hl + own_c u1 hl + own_c u2 hl) 71 := by rw [e_w2_]; exact own_isA hw1 hb2 (by decide)
  refine own_by (g' := (mkF m 1005 (Ls20 x1 x2 x3 x4 x5 x6 pl hl u0 u1 u2 u3 (FP.l2d pl) (FP.l2d hl) (FP.l2d u0) (FP.l2d u1) (FP.l2d u2) (FP.l2d u3) b1 b74) [(.long pl), (.int w2_)])) (fun t k => XS.lload X149.here hx rfl (hb hby at_1003) rfl k) ?_
  refine own_by (g' := (mkF m 1007 (Ls20 x1 x2 x3 x4 x5 x6 pl hl u0 u1 u2 u3 (FP.l2d pl) (FP.l2d hl) (FP.l2d u0) (FP.l2d u1) (FP.l2d u2) (FP.l2d u3) b1 b74) [(.long u3), (.long pl), (.int w2_)])) (fun t k => XS.lload X149.here hx rfl (hb hby at_1005) rfl k) ?_
  refine own_by (g' := (mkF m 1008 (Ls20 x1 x2 x3 x4 x5 x6 pl hl u0 u1 u2 u3 (FP.l2d pl) (FP.l2d hl) (FP.l2d u0) (FP.l2d u1) (FP.l2d u2) (FP.l2d u3) b1 b74) [(.int (lcmpW pl u3)), (.int w2_)])) (fun t k => XS.lcmp X149.here hx rfl (hb hby at_1007) rfl k) ?_
  by_cases hc1008_156 : pl < u3
  · refine oFn 1011 X149 hx (hb hby at_1008) ((if0 _ _).trans (tlt ((lw_lt _ _).mpr hc1008_156)).2.1) rfl ?_
    refine oIc 1012 X149 hx (hb hby at_1011) 1 rfl rfl ?_
    refine oGo 1016 X149 hx (hb hby at_1012) (by decide) (by decide) ?_
    exact own_j1016 l Z a0 hw hx hby hml hlk hret x1 x2 x3 x4 x5 x6 h0 n0  pl hl u0 u1 u2 u3 b1 k1 b74 k74 a0_ b0_ w0_ b1_ w1_ b2_ w2_ (1 : Int32) hZ hown (X149) e149 Zle N_ g_b1 V_b1 ne_b1_b74 g_b74 V_b74 e_pl b_pl e_hl b_hl e_u0 b_u0 e_u1 b_u1 e_u2 b_u2 e_u3 b_u3 ha0 hb0 e_w0_ hw0 hb1 e_w1_ hw1 hb2 e_w2_ hw2 (own_is1 hc1008_156)
  · refine oFy 1015 X149 hx (hb hby at_1008) ((if0 _ _).trans (flt (fun q => hc1008_156 ((lw_lt _ _).mp q))).2.1) (by decide) (by decide) ?_
    refine oIc 1016 X149 hx (hb hby at_1015) 0 rfl rfl ?_
    exact own_j1016 l Z a0 hw hx hby hml hlk hret x1 x2 x3 x4 x5 x6 h0 n0  pl hl u0 u1 u2 u3 b1 k1 b74 k74 a0_ b0_ w0_ b1_ w1_ b2_ w2_ (0 : Int32) hZ hown (X149) e149 Zle N_ g_b1 V_b1 ne_b1_b74 g_b74 V_b74 e_pl b_pl e_hl b_hl e_u0 b_u0 e_u1 b_u1 e_u2 b_u2 e_u3 b_u3 ha0 hb0 e_w0_ hw0 hb1 e_w1_ hw1 hb2 e_w2_ hw2 (own_isn hc1008_156)
set_option maxRecDepth 65536 in
set_option maxHeartbeats 40000000 in
theorem own_j982 (l : Launch) (Z : State) (a0 : Array Value) (hw : ∀ d ∈ tables_1, d.before a0 Z = true) {p : Program} {e : Env} {s : State} {m : MethodId} {below : List Frame} {meth : Method} {c : Code} (hx : p.tables.exec = Jvm.exec) (hby : c.code = code) (hml : c.maxLocals = 38) (hlk : meth.locks = false) (hret : meth.sig.returnType = ret) (x1 : Int32) (x2 : Int32) (x3 : Int32) (x4 : Int32) (x5 : Int32) (x6 : Int32) (h0 : Heap) (n0 : Nat) (pl : Int64) (hl : Int64) (u0 : Int64) (u1 : Int64) (u2 : Int64) (u3 : Int64) (b1 : Addr) (k1 : ClassId) (b74 : Addr) (k74 : ClassId) (a0_ : Int32) (b0_ : Int32) (w0_ : Int32) (b1_ : Int32) {Tj : State} {hj : Heap} {locsj : List Loc}
    (hZ : Z.Warmed39 s.vm) (hown : s.vm.findClass "com/example/firebreak/firebreak/strategies/LazyMaxSumClearlyBetterPinLaw" = some m.cls) (Xj : Stand p l e room_1 s m #[(.int x1), (.int x2), (.int x3), (.int x4), (.int x5), (.int x6)] below meth c Tj locsj 2 144) (ej : Tj.heap = hj)
    (Zle : n0 ≤ hj.size) (N_ : Fr n0 locsj) (g_b1 : n0 ≤ b1) (V_b1 : Arv Z hj b1 k1 .double (72 : Int32) (own_Dl (own_e u0 u1 u2 pl) 72) (.double (FP.l2d 0))) (ne_b1_b74 : b1 ≠ b74) (g_b74 : n0 ≤ b74) (V_b74 : Arv Z hj b74 k74 .double (72 : Int32) (own_Dl (own_h hl u3) 72) (.double (FP.l2d 0))) (e_pl : pl = ((x1 >>> ((11 : Int32) &&& 31)).toInt64)) (b_pl : own_b20 pl) (e_hl : hl = ((x2 >>> ((11 : Int32) &&& 31)).toInt64)) (b_hl : own_b20 hl) (e_u0 : u0 = ((x3 >>> ((11 : Int32) &&& 31)).toInt64)) (b_u0 : own_b20 u0) (e_u1 : u1 = ((x4 >>> ((11 : Int32) &&& 31)).toInt64)) (b_u1 : own_b20 u1) (e_u2 : u2 = ((x5 >>> ((11 : Int32) &&& 31)).toInt64)) (b_u2 : own_b20 u2) (e_u3 : u3 = ((x6 >>> ((11 : Int32) &&& 31)).toInt64)) (b_u3 : own_b20 u3) (ha0 : own_is a0_ (68 * own_c pl hl) 68) (hb0 : own_is (own_one b0_) (own_c u0 hl) 1) (e_w0_ : w0_ = (a0_ + (own_one b0_))) (hw0 : own_is w0_ (68 * own_c pl hl + own_c u0 hl) 69) (hb1 : own_is (own_one b1_) (own_c u1 hl) 1) : own_Goes p.tables e below s (Q0 Z x1 x2 x3 x4 x5 x6 h0 n0) room_1.cells room_1.slots Tj (mkF m 982 (Ls20 x1 x2 x3 x4 x5 x6 pl hl u0 u1 u2 u3 (FP.l2d pl) (FP.l2d hl) (FP.l2d u0) (FP.l2d u1) (FP.l2d u2) (FP.l2d u3) b1 b74) [(.int b1_), (.int w0_)]) := by
  obtain ⟨_, _, ⟨T148, L148, k148, n148⟩, -, X148, ⟨Lc148, hQ148, l148, y148, z148⟩, st148⟩ := Jvm.LawKit.callS Xj hx (y := (⟨"com/example/firebreak/firebreak/strategies/LazyMaxSumClearlyBetterPinLaw", "one", "(Z)I"⟩ : MethodName)) hown (mvT hZ (hw _ (own_m 1 rfl))) (mvT hZ (hw _ (own_m 2 rfl))) (mvT hZ (hw _ (own_m 3 rfl))) (mvT hZ (hw _ (own_m 4 rfl))) (by decide) (backOf (W := 1) (rm1 l Z a0 hw [] b1_ hj n0 Zle ) hZ (hw _ (own_m 4 rfl)) (hw _ (own_m 3 rfl)) (by decide) (by decide)) (g := (mkF m 982 (Ls20 x1 x2 x3 x4 x5 x6 pl hl u0 u1 u2 u3 (FP.l2d pl) (FP.l2d hl) (FP.l2d u0) (FP.l2d u1) (FP.l2d u2) (FP.l2d u3) b1 b74) [(.int b1_), (.int w0_)])) rfl (by rw [hml]; rfl) (argsL := [(.int b1_)]) (rest := [(.int w0_)]) (lenOf pd_0 rfl) rfl (own_le rfl) (hb hby at_982) (fun _ _ => ⟨rfl, ej, (by decide : 2 + 0 ≤ _), (by decide : 144 + 0 ≤ _)⟩)
  dsimp only [Pt.U, Pt.locs, Pt.cells, Pt.slots] at X148 l148 y148 z148 st148 hQ148
  subst l148 y148 z148
  obtain ⟨rfl, Nq148, e148⟩ := hQ148
  replace N_ := Fr.app N_ Nq148
  clear Nq148
  refine own_by (T' := T148) (g' := (mkF m 985 (Ls20 x1 x2 x3 x4 x5 x6 pl hl u0 u1 u2 u3 (FP.l2d pl) (FP.l2d hl) (FP.l2d u0) (FP.l2d u1) (FP.l2d u2) (FP.l2d u3) b1 b74) [(.int (own_one b1_)), (.int w0_)])) (fun t k => st148 _ k) ?_
  clear st148
  refine oAdd 986 X148 hx (hb hby at_985) (w0_ + (own_one b1_)) rfl rfl ?_
  obtain ⟨w1_, e_w1_⟩ : ∃ z : Int32, z = (w0_ + (own_one b1_)) := ⟨_, rfl⟩
  rw [← e_w1_]
  have hw1 : own_is w1_ (68 * own_c pl hl + own_c u0 hl + own_c u1 hl) 70 := by rw [e_w1_]; exact own_isA hw0 hb1 (by decide)
  refine own_by (g' := (mkF m 988 (Ls20 x1 x2 x3 x4 x5 x6 pl hl u0 u1 u2 u3 (FP.l2d pl) (FP.l2d hl) (FP.l2d u0) (FP.l2d u1) (FP.l2d u2) (FP.l2d u3) b1 b74) [(.long u2), (.int w1_)])) (fun t k => XS.lload X148.here hx rfl (hb hby at_986) rfl k) ?_
  refine own_by (g' := (mkF m 990 (Ls20 x1 x2 x3 x4 x5 x6 pl hl u0 u1 u2 u3 (FP.l2d pl) (FP.l2d hl) (FP.l2d u0) (FP.l2d u1) (FP.l2d u2) (FP.l2d u3) b1 b74) [(.long hl), (.long u2), (.int w1_)])) (fun t k => XS.lload X148.here hx rfl (hb hby at_988) rfl k) ?_
  refine own_by (g' := (mkF m 991 (Ls20 x1 x2 x3 x4 x5 x6 pl hl u0 u1 u2 u3 (FP.l2d pl) (FP.l2d hl) (FP.l2d u0) (FP.l2d u1) (FP.l2d u2) (FP.l2d u3) b1 b74) [(.int (lcmpW u2 hl)), (.int w1_)])) (fun t k => XS.lcmp X148.here hx rfl (hb hby at_990) rfl k) ?_
  by_cases hc991_157 : u2 < hl
  · refine oFn 994 X148 hx (hb hby at_991) ((if0 _ _).trans (tlt ((lw_lt _ _).mpr hc991_157)).2.1) rfl ?_
    refine oIc 995 X148 hx (hb hby at_994) 1 rfl rfl ?_
    refine oGo 999 X148 hx (hb hby at_995) (by decide) (by decide) ?_
    exact own_j999 l Z a0 hw hx hby hml hlk hret x1 x2 x3 x4 x5 x6 h0 n0  pl hl u0 u1 u2 u3 b1 k1 b74 k74 a0_ b0_ w0_ b1_ w1_ (1 : Int32) hZ hown (X148) e148 Zle N_ g_b1 V_b1 ne_b1_b74 g_b74 V_b74 e_pl b_pl e_hl b_hl e_u0 b_u0 e_u1 b_u1 e_u2 b_u2 e_u3 b_u3 ha0 hb0 e_w0_ hw0 hb1 e_w1_ hw1 (own_is1 hc991_157)
  · refine oFy 998 X148 hx (hb hby at_991) ((if0 _ _).trans (flt (fun q => hc991_157 ((lw_lt _ _).mp q))).2.1) (by decide) (by decide) ?_
    refine oIc 999 X148 hx (hb hby at_998) 0 rfl rfl ?_
    exact own_j999 l Z a0 hw hx hby hml hlk hret x1 x2 x3 x4 x5 x6 h0 n0  pl hl u0 u1 u2 u3 b1 k1 b74 k74 a0_ b0_ w0_ b1_ w1_ (0 : Int32) hZ hown (X148) e148 Zle N_ g_b1 V_b1 ne_b1_b74 g_b74 V_b74 e_pl b_pl e_hl b_hl e_u0 b_u0 e_u1 b_u1 e_u2 b_u2 e_u3 b_u3 ha0 hb0 e_w0_ hw0 hb1 e_w1_ hw1 (own_isn hc991_157)
set_option maxRecDepth 65536 in
set_option maxHeartbeats 40000000 in
theorem own_j965 (l : Launch) (Z : State) (a0 : Array Value) (hw : ∀ d ∈ tables_1, d.before a0 Z = true) {p : Program} {e : Env} {s : State} {m : MethodId} {below : List Frame} {meth : Method} {c : Code} (hx : p.tables.exec = Jvm.exec) (hby : c.code = code) (hml : c.maxLocals = 38) (hlk : meth.locks = false) (hret : meth.sig.returnType = ret) (x1 : Int32) (x2 : Int32) (x3 : Int32) (x4 : Int32) (x5 : Int32) (x6 : Int32) (h0 : Heap) (n0 : Nat) (pl : Int64) (hl : Int64) (u0 : Int64) (u1 : Int64) (u2 : Int64) (u3 : Int64) (b1 : Addr) (k1 : ClassId) (b74 : Addr) (k74 : ClassId) (a0_ : Int32) (b0_ : Int32) {Tj : State} {hj : Heap} {locsj : List Loc}
    (hZ : Z.Warmed39 s.vm) (hown : s.vm.findClass "com/example/firebreak/firebreak/strategies/LazyMaxSumClearlyBetterPinLaw" = some m.cls) (Xj : Stand p l e room_1 s m #[(.int x1), (.int x2), (.int x3), (.int x4), (.int x5), (.int x6)] below meth c Tj locsj 2 144) (ej : Tj.heap = hj)
    (Zle : n0 ≤ hj.size) (N_ : Fr n0 locsj) (g_b1 : n0 ≤ b1) (V_b1 : Arv Z hj b1 k1 .double (72 : Int32) (own_Dl (own_e u0 u1 u2 pl) 72) (.double (FP.l2d 0))) (ne_b1_b74 : b1 ≠ b74) (g_b74 : n0 ≤ b74) (V_b74 : Arv Z hj b74 k74 .double (72 : Int32) (own_Dl (own_h hl u3) 72) (.double (FP.l2d 0))) (e_pl : pl = ((x1 >>> ((11 : Int32) &&& 31)).toInt64)) (b_pl : own_b20 pl) (e_hl : hl = ((x2 >>> ((11 : Int32) &&& 31)).toInt64)) (b_hl : own_b20 hl) (e_u0 : u0 = ((x3 >>> ((11 : Int32) &&& 31)).toInt64)) (b_u0 : own_b20 u0) (e_u1 : u1 = ((x4 >>> ((11 : Int32) &&& 31)).toInt64)) (b_u1 : own_b20 u1) (e_u2 : u2 = ((x5 >>> ((11 : Int32) &&& 31)).toInt64)) (b_u2 : own_b20 u2) (e_u3 : u3 = ((x6 >>> ((11 : Int32) &&& 31)).toInt64)) (b_u3 : own_b20 u3) (ha0 : own_is a0_ (68 * own_c pl hl) 68) (hb0 : own_is (own_one b0_) (own_c u0 hl) 1) : own_Goes p.tables e below s (Q0 Z x1 x2 x3 x4 x5 x6 h0 n0) room_1.cells room_1.slots Tj (mkF m 965 (Ls20 x1 x2 x3 x4 x5 x6 pl hl u0 u1 u2 u3 (FP.l2d pl) (FP.l2d hl) (FP.l2d u0) (FP.l2d u1) (FP.l2d u2) (FP.l2d u3) b1 b74) [(.int b0_), (.int a0_)]) := by
  obtain ⟨_, _, ⟨T147, L147, k147, n147⟩, -, X147, ⟨Lc147, hQ147, l147, y147, z147⟩, st147⟩ := Jvm.LawKit.callS Xj hx (y := (⟨"com/example/firebreak/firebreak/strategies/LazyMaxSumClearlyBetterPinLaw", "one", "(Z)I"⟩ : MethodName)) hown (mvT hZ (hw _ (own_m 1 rfl))) (mvT hZ (hw _ (own_m 2 rfl))) (mvT hZ (hw _ (own_m 3 rfl))) (mvT hZ (hw _ (own_m 4 rfl))) (by decide) (backOf (W := 1) (rm1 l Z a0 hw [] b0_ hj n0 Zle ) hZ (hw _ (own_m 4 rfl)) (hw _ (own_m 3 rfl)) (by decide) (by decide)) (g := (mkF m 965 (Ls20 x1 x2 x3 x4 x5 x6 pl hl u0 u1 u2 u3 (FP.l2d pl) (FP.l2d hl) (FP.l2d u0) (FP.l2d u1) (FP.l2d u2) (FP.l2d u3) b1 b74) [(.int b0_), (.int a0_)])) rfl (by rw [hml]; rfl) (argsL := [(.int b0_)]) (rest := [(.int a0_)]) (lenOf pd_0 rfl) rfl (own_le rfl) (hb hby at_965) (fun _ _ => ⟨rfl, ej, (by decide : 2 + 0 ≤ _), (by decide : 144 + 0 ≤ _)⟩)
  dsimp only [Pt.U, Pt.locs, Pt.cells, Pt.slots] at X147 l147 y147 z147 st147 hQ147
  subst l147 y147 z147
  obtain ⟨rfl, Nq147, e147⟩ := hQ147
  replace N_ := Fr.app N_ Nq147
  clear Nq147
  refine own_by (T' := T147) (g' := (mkF m 968 (Ls20 x1 x2 x3 x4 x5 x6 pl hl u0 u1 u2 u3 (FP.l2d pl) (FP.l2d hl) (FP.l2d u0) (FP.l2d u1) (FP.l2d u2) (FP.l2d u3) b1 b74) [(.int (own_one b0_)), (.int a0_)])) (fun t k => st147 _ k) ?_
  clear st147
  refine oAdd 969 X147 hx (hb hby at_968) (a0_ + (own_one b0_)) rfl rfl ?_
  obtain ⟨w0_, e_w0_⟩ : ∃ z : Int32, z = (a0_ + (own_one b0_)) := ⟨_, rfl⟩
  rw [← e_w0_]
  have hw0 : own_is w0_ (68 * own_c pl hl + own_c u0 hl) 69 := by rw [e_w0_]; exact own_isA ha0 hb0 (by decide)
  refine own_by (g' := (mkF m 971 (Ls20 x1 x2 x3 x4 x5 x6 pl hl u0 u1 u2 u3 (FP.l2d pl) (FP.l2d hl) (FP.l2d u0) (FP.l2d u1) (FP.l2d u2) (FP.l2d u3) b1 b74) [(.long u1), (.int w0_)])) (fun t k => XS.lload X147.here hx rfl (hb hby at_969) rfl k) ?_
  refine own_by (g' := (mkF m 973 (Ls20 x1 x2 x3 x4 x5 x6 pl hl u0 u1 u2 u3 (FP.l2d pl) (FP.l2d hl) (FP.l2d u0) (FP.l2d u1) (FP.l2d u2) (FP.l2d u3) b1 b74) [(.long hl), (.long u1), (.int w0_)])) (fun t k => XS.lload X147.here hx rfl (hb hby at_971) rfl k) ?_
  refine own_by (g' := (mkF m 974 (Ls20 x1 x2 x3 x4 x5 x6 pl hl u0 u1 u2 u3 (FP.l2d pl) (FP.l2d hl) (FP.l2d u0) (FP.l2d u1) (FP.l2d u2) (FP.l2d u3) b1 b74) [(.int (lcmpW u1 hl)), (.int w0_)])) (fun t k => XS.lcmp X147.here hx rfl (hb hby at_973) rfl k) ?_
  by_cases hc974_158 : u1 < hl
  · refine oFn 977 X147 hx (hb hby at_974) ((if0 _ _).trans (tlt ((lw_lt _ _).mpr hc974_158)).2.1) rfl ?_
    refine oIc 978 X147 hx (hb hby at_977) 1 rfl rfl ?_
    refine oGo 982 X147 hx (hb hby at_978) (by decide) (by decide) ?_
    exact own_j982 l Z a0 hw hx hby hml hlk hret x1 x2 x3 x4 x5 x6 h0 n0  pl hl u0 u1 u2 u3 b1 k1 b74 k74 a0_ b0_ w0_ (1 : Int32) hZ hown (X147) e147 Zle N_ g_b1 V_b1 ne_b1_b74 g_b74 V_b74 e_pl b_pl e_hl b_hl e_u0 b_u0 e_u1 b_u1 e_u2 b_u2 e_u3 b_u3 ha0 hb0 e_w0_ hw0 (own_is1 hc974_158)
  · refine oFy 981 X147 hx (hb hby at_974) ((if0 _ _).trans (flt (fun q => hc974_158 ((lw_lt _ _).mp q))).2.1) (by decide) (by decide) ?_
    refine oIc 982 X147 hx (hb hby at_981) 0 rfl rfl ?_
    exact own_j982 l Z a0 hw hx hby hml hlk hret x1 x2 x3 x4 x5 x6 h0 n0  pl hl u0 u1 u2 u3 b1 k1 b74 k74 a0_ b0_ w0_ (0 : Int32) hZ hown (X147) e147 Zle N_ g_b1 V_b1 ne_b1_b74 g_b74 V_b74 e_pl b_pl e_hl b_hl e_u0 b_u0 e_u1 b_u1 e_u2 b_u2 e_u3 b_u3 ha0 hb0 e_w0_ hw0 (own_isn hc974_158)
set_option maxRecDepth 65536 in
set_option maxHeartbeats 40000000 in
theorem own_j952 (l : Launch) (Z : State) (a0 : Array Value) (hw : ∀ d ∈ tables_1, d.before a0 Z = true) {p : Program} {e : Env} {s : State} {m : MethodId} {below : List Frame} {meth : Method} {c : Code} (hx : p.tables.exec = Jvm.exec) (hby : c.code = code) (hml : c.maxLocals = 38) (hlk : meth.locks = false) (hret : meth.sig.returnType = ret) (x1 : Int32) (x2 : Int32) (x3 : Int32) (x4 : Int32) (x5 : Int32) (x6 : Int32) (h0 : Heap) (n0 : Nat) (pl : Int64) (hl : Int64) (u0 : Int64) (u1 : Int64) (u2 : Int64) (u3 : Int64) (b1 : Addr) (k1 : ClassId) (b74 : Addr) (k74 : ClassId) (a0_ : Int32) {Tj : State} {hj : Heap} {locsj : List Loc}
    (hZ : Z.Warmed39 s.vm) (hown : s.vm.findClass "com/example/firebreak/firebreak/strategies/LazyMaxSumClearlyBetterPinLaw" = some m.cls) (Xj : Stand p l e room_1 s m #[(.int x1), (.int x2), (.int x3), (.int x4), (.int x5), (.int x6)] below meth c Tj locsj 2 144) (ej : Tj.heap = hj)
    (Zle : n0 ≤ hj.size) (N_ : Fr n0 locsj) (g_b1 : n0 ≤ b1) (V_b1 : Arv Z hj b1 k1 .double (72 : Int32) (own_Dl (own_e u0 u1 u2 pl) 72) (.double (FP.l2d 0))) (ne_b1_b74 : b1 ≠ b74) (g_b74 : n0 ≤ b74) (V_b74 : Arv Z hj b74 k74 .double (72 : Int32) (own_Dl (own_h hl u3) 72) (.double (FP.l2d 0))) (e_pl : pl = ((x1 >>> ((11 : Int32) &&& 31)).toInt64)) (b_pl : own_b20 pl) (e_hl : hl = ((x2 >>> ((11 : Int32) &&& 31)).toInt64)) (b_hl : own_b20 hl) (e_u0 : u0 = ((x3 >>> ((11 : Int32) &&& 31)).toInt64)) (b_u0 : own_b20 u0) (e_u1 : u1 = ((x4 >>> ((11 : Int32) &&& 31)).toInt64)) (b_u1 : own_b20 u1) (e_u2 : u2 = ((x5 >>> ((11 : Int32) &&& 31)).toInt64)) (b_u2 : own_b20 u2) (e_u3 : u3 = ((x6 >>> ((11 : Int32) &&& 31)).toInt64)) (b_u3 : own_b20 u3) (ha0 : own_is a0_ (68 * own_c pl hl) 68) : own_Goes p.tables e below s (Q0 Z x1 x2 x3 x4 x5 x6 h0 n0) room_1.cells room_1.slots Tj (mkF m 952 (Ls20 x1 x2 x3 x4 x5 x6 pl hl u0 u1 u2 u3 (FP.l2d pl) (FP.l2d hl) (FP.l2d u0) (FP.l2d u1) (FP.l2d u2) (FP.l2d u3) b1 b74) [(.int a0_)]) := by
  refine own_by (g' := (mkF m 954 (Ls20 x1 x2 x3 x4 x5 x6 pl hl u0 u1 u2 u3 (FP.l2d pl) (FP.l2d hl) (FP.l2d u0) (FP.l2d u1) (FP.l2d u2) (FP.l2d u3) b1 b74) [(.long u0), (.int a0_)])) (fun t k => XS.lload Xj.here hx rfl (hb hby at_952) rfl k) ?_
  refine own_by (g' := (mkF m 956 (Ls20 x1 x2 x3 x4 x5 x6 pl hl u0 u1 u2 u3 (FP.l2d pl) (FP.l2d hl) (FP.l2d u0) (FP.l2d u1) (FP.l2d u2) (FP.l2d u3) b1 b74) [(.long hl), (.long u0), (.int a0_)])) (fun t k => XS.lload Xj.here hx rfl (hb hby at_954) rfl k) ?_
  refine own_by (g' := (mkF m 957 (Ls20 x1 x2 x3 x4 x5 x6 pl hl u0 u1 u2 u3 (FP.l2d pl) (FP.l2d hl) (FP.l2d u0) (FP.l2d u1) (FP.l2d u2) (FP.l2d u3) b1 b74) [(.int (lcmpW u0 hl)), (.int a0_)])) (fun t k => XS.lcmp Xj.here hx rfl (hb hby at_956) rfl k) ?_
  by_cases hc957_159 : u0 < hl
  · refine oFn 960 Xj hx (hb hby at_957) ((if0 _ _).trans (tlt ((lw_lt _ _).mpr hc957_159)).2.1) rfl ?_
    refine oIc 961 Xj hx (hb hby at_960) 1 rfl rfl ?_
    refine oGo 965 Xj hx (hb hby at_961) (by decide) (by decide) ?_
    exact own_j965 l Z a0 hw hx hby hml hlk hret x1 x2 x3 x4 x5 x6 h0 n0  pl hl u0 u1 u2 u3 b1 k1 b74 k74 a0_ (1 : Int32) hZ hown (Xj) ej Zle N_ g_b1 V_b1 ne_b1_b74 g_b74 V_b74 e_pl b_pl e_hl b_hl e_u0 b_u0 e_u1 b_u1 e_u2 b_u2 e_u3 b_u3 ha0 (own_is1 hc957_159)
  · refine oFy 964 Xj hx (hb hby at_957) ((if0 _ _).trans (flt (fun q => hc957_159 ((lw_lt _ _).mp q))).2.1) (by decide) (by decide) ?_
    refine oIc 965 Xj hx (hb hby at_964) 0 rfl rfl ?_
    exact own_j965 l Z a0 hw hx hby hml hlk hret x1 x2 x3 x4 x5 x6 h0 n0  pl hl u0 u1 u2 u3 b1 k1 b74 k74 a0_ (0 : Int32) hZ hown (Xj) ej Zle N_ g_b1 V_b1 ne_b1_b74 g_b74 V_b74 e_pl b_pl e_hl b_hl e_u0 b_u0 e_u1 b_u1 e_u2 b_u2 e_u3 b_u3 ha0 (own_isn hc957_159)
set_option maxRecDepth 65536 in
set_option maxHeartbeats 40000000 in
theorem own_l938 (l : Launch) (Z : State) (a0 : Array Value) (hw : ∀ d ∈ tables_1, d.before a0 Z = true) {p : Program} {e : Env} {s : State} {m : MethodId} {below : List Frame} {meth : Method} {c : Code} (hx : p.tables.exec = Jvm.exec) (hby : c.code = code) (hml : c.maxLocals = 38) (hlk : meth.locks = false) (hret : meth.sig.returnType = ret) (x1 : Int32) (x2 : Int32) (x3 : Int32) (x4 : Int32) (x5 : Int32) (x6 : Int32) (h0 : Heap) (n0 : Nat) (pl : Int64) (hl : Int64) (u0 : Int64) (u1 : Int64) (u2 : Int64) (u3 : Int64) (b1 : Addr) (k1 : ClassId) (b74 : Addr) (k74 : ClassId) {Tj : State} {hj : Heap} {locsj : List Loc}
    (hZ : Z.Warmed39 s.vm) (hown : s.vm.findClass "com/example/firebreak/firebreak/strategies/LazyMaxSumClearlyBetterPinLaw" = some m.cls) (Xj : Stand p l e room_1 s m #[(.int x1), (.int x2), (.int x3), (.int x4), (.int x5), (.int x6)] below meth c Tj locsj 2 144) (ej : Tj.heap = hj)
    (Zle : n0 ≤ hj.size) (N_ : Fr n0 locsj) (g_b1 : n0 ≤ b1) (V_b1 : Arv Z hj b1 k1 .double (72 : Int32) (own_Dl (own_e u0 u1 u2 pl) 72) (.double (FP.l2d 0))) (ne_b1_b74 : b1 ≠ b74) (g_b74 : n0 ≤ b74) (V_b74 : Arv Z hj b74 k74 .double (72 : Int32) (own_Dl (own_h hl u3) 72) (.double (FP.l2d 0))) (e_pl : pl = ((x1 >>> ((11 : Int32) &&& 31)).toInt64)) (b_pl : own_b20 pl) (e_hl : hl = ((x2 >>> ((11 : Int32) &&& 31)).toInt64)) (b_hl : own_b20 hl) (e_u0 : u0 = ((x3 >>> ((11 : Int32) &&& 31)).toInt64)) (b_u0 : own_b20 u0) (e_u1 : u1 = ((x4 >>> ((11 : Int32) &&& 31)).toInt64)) (b_u1 : own_b20 u1) (e_u2 : u2 = ((x5 >>> ((11 : Int32) &&& 31)).toInt64)) (b_u2 : own_b20 u2) (e_u3 : u3 = ((x6 >>> ((11 : Int32) &&& 31)).toInt64)) (b_u3 : own_b20 u3) : own_Goes p.tables e below s (Q0 Z x1 x2 x3 x4 x5 x6 h0 n0) room_1.cells room_1.slots Tj (mkF m 938 (Ls20 x1 x2 x3 x4 x5 x6 pl hl u0 u1 u2 u3 (FP.l2d pl) (FP.l2d hl) (FP.l2d u0) (FP.l2d u1) (FP.l2d u2) (FP.l2d u3) b1 b74) []) := by
  refine own_by (g' := (mkF m 940 (Ls20 x1 x2 x3 x4 x5 x6 pl hl u0 u1 u2 u3 (FP.l2d pl) (FP.l2d hl) (FP.l2d u0) (FP.l2d u1) (FP.l2d u2) (FP.l2d u3) b1 b74) [(.long pl)])) (fun t k => XS.lload Xj.here hx rfl (hb hby at_938) rfl k) ?_
  refine own_by (g' := (mkF m 942 (Ls20 x1 x2 x3 x4 x5 x6 pl hl u0 u1 u2 u3 (FP.l2d pl) (FP.l2d hl) (FP.l2d u0) (FP.l2d u1) (FP.l2d u2) (FP.l2d u3) b1 b74) [(.long hl), (.long pl)])) (fun t k => XS.lload Xj.here hx rfl (hb hby at_940) rfl k) ?_
  refine own_by (g' := (mkF m 943 (Ls20 x1 x2 x3 x4 x5 x6 pl hl u0 u1 u2 u3 (FP.l2d pl) (FP.l2d hl) (FP.l2d u0) (FP.l2d u1) (FP.l2d u2) (FP.l2d u3) b1 b74) [(.int (lcmpW pl hl))])) (fun t k => XS.lcmp Xj.here hx rfl (hb hby at_942) rfl k) ?_
  by_cases hc943_160 : pl < hl
  · refine oFn 946 Xj hx (hb hby at_943) ((if0 _ _).trans (tlt ((lw_lt _ _).mpr hc943_160)).2.1) rfl ?_
    refine oBi 948 Xj hx (hb hby at_946) 68 rfl rfl ?_
    refine oGo 952 Xj hx (hb hby at_948) (by decide) (by decide) ?_
    exact own_j952 l Z a0 hw hx hby hml hlk hret x1 x2 x3 x4 x5 x6 h0 n0  pl hl u0 u1 u2 u3 b1 k1 b74 k74 (68 : Int32) hZ hown (Xj) ej Zle N_ g_b1 V_b1 ne_b1_b74 g_b74 V_b74 e_pl b_pl e_hl b_hl e_u0 b_u0 e_u1 b_u1 e_u2 b_u2 e_u3 b_u3 (own_is68 hc943_160)
  · refine oFy 951 Xj hx (hb hby at_943) ((if0 _ _).trans (flt (fun q => hc943_160 ((lw_lt _ _).mp q))).2.1) (by decide) (by decide) ?_
    refine oIc 952 Xj hx (hb hby at_951) 0 rfl rfl ?_
    exact own_j952 l Z a0 hw hx hby hml hlk hret x1 x2 x3 x4 x5 x6 h0 n0  pl hl u0 u1 u2 u3 b1 k1 b74 k74 (0 : Int32) hZ hown (Xj) ej Zle N_ g_b1 V_b1 ne_b1_b74 g_b74 V_b74 e_pl b_pl e_hl b_hl e_u0 b_u0 e_u1 b_u1 e_u2 b_u2 e_u3 b_u3 (own_is0 hc943_160)
set_option maxRecDepth 65536 in
set_option maxHeartbeats 40000000 in
theorem own_l828 (l : Launch) (Z : State) (a0 : Array Value) (hw : ∀ d ∈ tables_1, d.before a0 Z = true) {p : Program} {e : Env} {s : State} {m : MethodId} {below : List Frame} {meth : Method} {c : Code} (hx : p.tables.exec = Jvm.exec) (hby : c.code = code) (hml : c.maxLocals = 38) (hlk : meth.locks = false) (hret : meth.sig.returnType = ret) (x1 : Int32) (x2 : Int32) (x3 : Int32) (x4 : Int32) (x5 : Int32) (x6 : Int32) (h0 : Heap) (n0 : Nat) (pl : Int64) (hl : Int64) (u0 : Int64) (u1 : Int64) (u2 : Int64) (u3 : Int64) (b1 : Addr) (k1 : ClassId) (b74 : Addr) (k74 : ClassId) {Tj : State} {hj : Heap} {locsj : List Loc}
    (hZ : Z.Warmed39 s.vm) (hown : s.vm.findClass "com/example/firebreak/firebreak/strategies/LazyMaxSumClearlyBetterPinLaw" = some m.cls) (Xj : Stand p l e room_1 s m #[(.int x1), (.int x2), (.int x3), (.int x4), (.int x5), (.int x6)] below meth c Tj locsj 2 144) (ej : Tj.heap = hj)
    (Zle : n0 ≤ hj.size) (N_ : Fr n0 locsj) (g_b1 : n0 ≤ b1) (V_b1 : Arv Z hj b1 k1 .double (72 : Int32) (own_Dl (own_e u0 u1 u2 pl) 72) (.double (FP.l2d 0))) (ne_b1_b74 : b1 ≠ b74) (g_b74 : n0 ≤ b74) (V_b74 : Arv Z hj b74 k74 .double (72 : Int32) (own_Dl (own_h hl u3) 54) (.double (FP.l2d 0))) (e_pl : pl = ((x1 >>> ((11 : Int32) &&& 31)).toInt64)) (b_pl : own_b20 pl) (e_hl : hl = ((x2 >>> ((11 : Int32) &&& 31)).toInt64)) (b_hl : own_b20 hl) (e_u0 : u0 = ((x3 >>> ((11 : Int32) &&& 31)).toInt64)) (b_u0 : own_b20 u0) (e_u1 : u1 = ((x4 >>> ((11 : Int32) &&& 31)).toInt64)) (b_u1 : own_b20 u1) (e_u2 : u2 = ((x5 >>> ((11 : Int32) &&& 31)).toInt64)) (b_u2 : own_b20 u2) (e_u3 : u3 = ((x6 >>> ((11 : Int32) &&& 31)).toInt64)) (b_u3 : own_b20 u3) : own_Goes p.tables e below s (Q0 Z x1 x2 x3 x4 x5 x6 h0 n0) room_1.cells room_1.slots Tj (mkF m 828 (Ls19 x1 x2 x3 x4 x5 x6 pl hl u0 u1 u2 u3 (FP.l2d pl) (FP.l2d hl) (FP.l2d u0) (FP.l2d u1) (FP.l2d u2) (FP.l2d u3) b1) [(.ref b74)]) := by
  refine oDup 829 Xj hx (hb hby at_828) rfl rfl ?_
  refine oBi 831 Xj hx (hb hby at_829) 54 rfl rfl ?_
  refine oDl 833 Xj hx (hb hby at_831) rfl rfl ?_
  refine oDsD 834 Xj hx hZ ej 54 V_b74 (hb hby at_833) (by decide) rfl (by decide) rfl rfl fun T129 h129 X129 e129 W129 V_b74_ => ?_
  replace Zle := Nat.le_trans Zle (Keep.of_wr W129).1
  replace V_b1 := V_b1.other W129 ne_b1_b74
  replace V_b74 := V_b74_
  clear V_b74_ W129
  replace N_ := Fr.snoc X129 N_ g_b74
  refine oDup 835 X129 hx (hb hby at_834) rfl rfl ?_
  refine oBi 837 X129 hx (hb hby at_835) 55 rfl rfl ?_
  refine oDl 839 X129 hx (hb hby at_837) rfl rfl ?_
  refine oDsD 840 X129 hx hZ e129 55 V_b74 (hb hby at_839) (by decide) rfl (by decide) rfl rfl fun T130 h130 X130 e130 W130 V_b74_ => ?_
  replace Zle := Nat.le_trans Zle (Keep.of_wr W130).1
  replace V_b1 := V_b1.other W130 ne_b1_b74
  replace V_b74 := V_b74_
  clear V_b74_ W130
  replace N_ := Fr.snoc X130 N_ g_b74
  clear X129 e129
  refine oDup 841 X130 hx (hb hby at_840) rfl rfl ?_
  refine oBi 843 X130 hx (hb hby at_841) 56 rfl rfl ?_
  refine oDl 845 X130 hx (hb hby at_843) rfl rfl ?_
  refine oDsD 846 X130 hx hZ e130 56 V_b74 (hb hby at_845) (by decide) rfl (by decide) rfl rfl fun T131 h131 X131 e131 W131 V_b74_ => ?_
  replace Zle := Nat.le_trans Zle (Keep.of_wr W131).1
  replace V_b1 := V_b1.other W131 ne_b1_b74
  replace V_b74 := V_b74_
  clear V_b74_ W131
  replace N_ := Fr.snoc X131 N_ g_b74
  clear X130 e130
  refine oDup 847 X131 hx (hb hby at_846) rfl rfl ?_
  refine oBi 849 X131 hx (hb hby at_847) 57 rfl rfl ?_
  refine oDl 851 X131 hx (hb hby at_849) rfl rfl ?_
  refine oDsD 852 X131 hx hZ e131 57 V_b74 (hb hby at_851) (by decide) rfl (by decide) rfl rfl fun T132 h132 X132 e132 W132 V_b74_ => ?_
  replace Zle := Nat.le_trans Zle (Keep.of_wr W132).1
  replace V_b1 := V_b1.other W132 ne_b1_b74
  replace V_b74 := V_b74_
  clear V_b74_ W132
  replace N_ := Fr.snoc X132 N_ g_b74
  clear X131 e131
  refine oDup 853 X132 hx (hb hby at_852) rfl rfl ?_
  refine oBi 855 X132 hx (hb hby at_853) 58 rfl rfl ?_
  refine oDl 857 X132 hx (hb hby at_855) rfl rfl ?_
  refine oDsD 858 X132 hx hZ e132 58 V_b74 (hb hby at_857) (by decide) rfl (by decide) rfl rfl fun T133 h133 X133 e133 W133 V_b74_ => ?_
  replace Zle := Nat.le_trans Zle (Keep.of_wr W133).1
  replace V_b1 := V_b1.other W133 ne_b1_b74
  replace V_b74 := V_b74_
  clear V_b74_ W133
  replace N_ := Fr.snoc X133 N_ g_b74
  clear X132 e132
  refine oDup 859 X133 hx (hb hby at_858) rfl rfl ?_
  refine oBi 861 X133 hx (hb hby at_859) 59 rfl rfl ?_
  refine oDl 863 X133 hx (hb hby at_861) rfl rfl ?_
  refine oDsD 864 X133 hx hZ e133 59 V_b74 (hb hby at_863) (by decide) rfl (by decide) rfl rfl fun T134 h134 X134 e134 W134 V_b74_ => ?_
  replace Zle := Nat.le_trans Zle (Keep.of_wr W134).1
  replace V_b1 := V_b1.other W134 ne_b1_b74
  replace V_b74 := V_b74_
  clear V_b74_ W134
  replace N_ := Fr.snoc X134 N_ g_b74
  clear X133 e133
  refine oDup 865 X134 hx (hb hby at_864) rfl rfl ?_
  refine oBi 867 X134 hx (hb hby at_865) 60 rfl rfl ?_
  refine oDl 869 X134 hx (hb hby at_867) rfl rfl ?_
  refine oDsD 870 X134 hx hZ e134 60 V_b74 (hb hby at_869) (by decide) rfl (by decide) rfl rfl fun T135 h135 X135 e135 W135 V_b74_ => ?_
  replace Zle := Nat.le_trans Zle (Keep.of_wr W135).1
  replace V_b1 := V_b1.other W135 ne_b1_b74
  replace V_b74 := V_b74_
  clear V_b74_ W135
  replace N_ := Fr.snoc X135 N_ g_b74
  clear X134 e134
  refine oDup 871 X135 hx (hb hby at_870) rfl rfl ?_
  refine oBi 873 X135 hx (hb hby at_871) 61 rfl rfl ?_
  refine oDl 875 X135 hx (hb hby at_873) rfl rfl ?_
  refine oDsD 876 X135 hx hZ e135 61 V_b74 (hb hby at_875) (by decide) rfl (by decide) rfl rfl fun T136 h136 X136 e136 W136 V_b74_ => ?_
  replace Zle := Nat.le_trans Zle (Keep.of_wr W136).1
  replace V_b1 := V_b1.other W136 ne_b1_b74
  replace V_b74 := V_b74_
  clear V_b74_ W136
  replace N_ := Fr.snoc X136 N_ g_b74
  clear X135 e135
  refine oDup 877 X136 hx (hb hby at_876) rfl rfl ?_
  refine oBi 879 X136 hx (hb hby at_877) 62 rfl rfl ?_
  refine oDl 881 X136 hx (hb hby at_879) rfl rfl ?_
  refine oDsD 882 X136 hx hZ e136 62 V_b74 (hb hby at_881) (by decide) rfl (by decide) rfl rfl fun T137 h137 X137 e137 W137 V_b74_ => ?_
  replace Zle := Nat.le_trans Zle (Keep.of_wr W137).1
  replace V_b1 := V_b1.other W137 ne_b1_b74
  replace V_b74 := V_b74_
  clear V_b74_ W137
  replace N_ := Fr.snoc X137 N_ g_b74
  clear X136 e136
  refine oDup 883 X137 hx (hb hby at_882) rfl rfl ?_
  refine oBi 885 X137 hx (hb hby at_883) 63 rfl rfl ?_
  refine oDl 887 X137 hx (hb hby at_885) rfl rfl ?_
  refine oDsD 888 X137 hx hZ e137 63 V_b74 (hb hby at_887) (by decide) rfl (by decide) rfl rfl fun T138 h138 X138 e138 W138 V_b74_ => ?_
  replace Zle := Nat.le_trans Zle (Keep.of_wr W138).1
  replace V_b1 := V_b1.other W138 ne_b1_b74
  replace V_b74 := V_b74_
  clear V_b74_ W138
  replace N_ := Fr.snoc X138 N_ g_b74
  clear X137 e137
  refine oDup 889 X138 hx (hb hby at_888) rfl rfl ?_
  refine oBi 891 X138 hx (hb hby at_889) 64 rfl rfl ?_
  refine oDl 893 X138 hx (hb hby at_891) rfl rfl ?_
  refine oDsD 894 X138 hx hZ e138 64 V_b74 (hb hby at_893) (by decide) rfl (by decide) rfl rfl fun T139 h139 X139 e139 W139 V_b74_ => ?_
  replace Zle := Nat.le_trans Zle (Keep.of_wr W139).1
  replace V_b1 := V_b1.other W139 ne_b1_b74
  replace V_b74 := V_b74_
  clear V_b74_ W139
  replace N_ := Fr.snoc X139 N_ g_b74
  clear X138 e138
  refine oDup 895 X139 hx (hb hby at_894) rfl rfl ?_
  refine oBi 897 X139 hx (hb hby at_895) 65 rfl rfl ?_
  refine oDl 899 X139 hx (hb hby at_897) rfl rfl ?_
  refine oDsD 900 X139 hx hZ e139 65 V_b74 (hb hby at_899) (by decide) rfl (by decide) rfl rfl fun T140 h140 X140 e140 W140 V_b74_ => ?_
  replace Zle := Nat.le_trans Zle (Keep.of_wr W140).1
  replace V_b1 := V_b1.other W140 ne_b1_b74
  replace V_b74 := V_b74_
  clear V_b74_ W140
  replace N_ := Fr.snoc X140 N_ g_b74
  clear X139 e139
  refine oDup 901 X140 hx (hb hby at_900) rfl rfl ?_
  refine oBi 903 X140 hx (hb hby at_901) 66 rfl rfl ?_
  refine oDl 905 X140 hx (hb hby at_903) rfl rfl ?_
  refine oDsD 906 X140 hx hZ e140 66 V_b74 (hb hby at_905) (by decide) rfl (by decide) rfl rfl fun T141 h141 X141 e141 W141 V_b74_ => ?_
  replace Zle := Nat.le_trans Zle (Keep.of_wr W141).1
  replace V_b1 := V_b1.other W141 ne_b1_b74
  replace V_b74 := V_b74_
  clear V_b74_ W141
  replace N_ := Fr.snoc X141 N_ g_b74
  clear X140 e140
  refine oDup 907 X141 hx (hb hby at_906) rfl rfl ?_
  refine oBi 909 X141 hx (hb hby at_907) 67 rfl rfl ?_
  refine oDl 911 X141 hx (hb hby at_909) rfl rfl ?_
  refine oDsD 912 X141 hx hZ e141 67 V_b74 (hb hby at_911) (by decide) rfl (by decide) rfl rfl fun T142 h142 X142 e142 W142 V_b74_ => ?_
  replace Zle := Nat.le_trans Zle (Keep.of_wr W142).1
  replace V_b1 := V_b1.other W142 ne_b1_b74
  replace V_b74 := V_b74_
  clear V_b74_ W142
  replace N_ := Fr.snoc X142 N_ g_b74
  clear X141 e141
  refine oDup 913 X142 hx (hb hby at_912) rfl rfl ?_
  refine oBi 915 X142 hx (hb hby at_913) 68 rfl rfl ?_
  refine oDl 917 X142 hx (hb hby at_915) rfl rfl ?_
  refine oDsD 918 X142 hx hZ e142 68 V_b74 (hb hby at_917) (by decide) rfl (by decide) rfl rfl fun T143 h143 X143 e143 W143 V_b74_ => ?_
  replace Zle := Nat.le_trans Zle (Keep.of_wr W143).1
  replace V_b1 := V_b1.other W143 ne_b1_b74
  replace V_b74 := V_b74_
  clear V_b74_ W143
  replace N_ := Fr.snoc X143 N_ g_b74
  clear X142 e142
  refine oDup 919 X143 hx (hb hby at_918) rfl rfl ?_
  refine oBi 921 X143 hx (hb hby at_919) 69 rfl rfl ?_
  refine oDl 923 X143 hx (hb hby at_921) rfl rfl ?_
  refine oDsD 924 X143 hx hZ e143 69 V_b74 (hb hby at_923) (by decide) rfl (by decide) rfl rfl fun T144 h144 X144 e144 W144 V_b74_ => ?_
  replace Zle := Nat.le_trans Zle (Keep.of_wr W144).1
  replace V_b1 := V_b1.other W144 ne_b1_b74
  replace V_b74 := V_b74_
  clear V_b74_ W144
  replace N_ := Fr.snoc X144 N_ g_b74
  clear X143 e143
  refine oDup 925 X144 hx (hb hby at_924) rfl rfl ?_
  refine oBi 927 X144 hx (hb hby at_925) 70 rfl rfl ?_
  refine oDl 929 X144 hx (hb hby at_927) rfl rfl ?_
  refine oDsD 930 X144 hx hZ e144 70 V_b74 (hb hby at_929) (by decide) rfl (by decide) rfl rfl fun T145 h145 X145 e145 W145 V_b74_ => ?_
  replace Zle := Nat.le_trans Zle (Keep.of_wr W145).1
  replace V_b1 := V_b1.other W145 ne_b1_b74
  replace V_b74 := V_b74_
  clear V_b74_ W145
  replace N_ := Fr.snoc X145 N_ g_b74
  clear X144 e144
  refine oDup 931 X145 hx (hb hby at_930) rfl rfl ?_
  refine oBi 933 X145 hx (hb hby at_931) 71 rfl rfl ?_
  refine oDl 935 X145 hx (hb hby at_933) rfl rfl ?_
  refine oDsD 936 X145 hx hZ e145 71 V_b74 (hb hby at_935) (by decide) rfl (by decide) rfl rfl fun T146 h146 X146 e146 W146 V_b74_ => ?_
  replace Zle := Nat.le_trans Zle (Keep.of_wr W146).1
  replace V_b1 := V_b1.other W146 ne_b1_b74
  replace V_b74 := V_b74_
  clear V_b74_ W146
  replace N_ := Fr.snoc X146 N_ g_b74
  clear X145 e145
  refine oAst 938 X146 hx (hb hby at_936) (Ls20 x1 x2 x3 x4 x5 x6 pl hl u0 u1 u2 u3 (FP.l2d pl) (FP.l2d hl) (FP.l2d u0) (FP.l2d u1) (FP.l2d u2) (FP.l2d u3) b1 b74) rfl rfl ?_
  exact own_l938 l Z a0 hw hx hby hml hlk hret x1 x2 x3 x4 x5 x6 h0 n0  pl hl u0 u1 u2 u3 b1 k1 b74 k74 hZ hown (X146) e146 Zle N_ g_b1 V_b1 ne_b1_b74 g_b74 V_b74 e_pl b_pl e_hl b_hl e_u0 b_u0 e_u1 b_u1 e_u2 b_u2 e_u3 b_u3
set_option maxRecDepth 65536 in
set_option maxHeartbeats 40000000 in
theorem own_l720 (l : Launch) (Z : State) (a0 : Array Value) (hw : ∀ d ∈ tables_1, d.before a0 Z = true) {p : Program} {e : Env} {s : State} {m : MethodId} {below : List Frame} {meth : Method} {c : Code} (hx : p.tables.exec = Jvm.exec) (hby : c.code = code) (hml : c.maxLocals = 38) (hlk : meth.locks = false) (hret : meth.sig.returnType = ret) (x1 : Int32) (x2 : Int32) (x3 : Int32) (x4 : Int32) (x5 : Int32) (x6 : Int32) (h0 : Heap) (n0 : Nat) (pl : Int64) (hl : Int64) (u0 : Int64) (u1 : Int64) (u2 : Int64) (u3 : Int64) (b1 : Addr) (k1 : ClassId) (b74 : Addr) (k74 : ClassId) {Tj : State} {hj : Heap} {locsj : List Loc}
    (hZ : Z.Warmed39 s.vm) (hown : s.vm.findClass "com/example/firebreak/firebreak/strategies/LazyMaxSumClearlyBetterPinLaw" = some m.cls) (Xj : Stand p l e room_1 s m #[(.int x1), (.int x2), (.int x3), (.int x4), (.int x5), (.int x6)] below meth c Tj locsj 2 144) (ej : Tj.heap = hj)
    (Zle : n0 ≤ hj.size) (N_ : Fr n0 locsj) (g_b1 : n0 ≤ b1) (V_b1 : Arv Z hj b1 k1 .double (72 : Int32) (own_Dl (own_e u0 u1 u2 pl) 72) (.double (FP.l2d 0))) (ne_b1_b74 : b1 ≠ b74) (g_b74 : n0 ≤ b74) (V_b74 : Arv Z hj b74 k74 .double (72 : Int32) (own_Dl (own_h hl u3) 36) (.double (FP.l2d 0))) (e_pl : pl = ((x1 >>> ((11 : Int32) &&& 31)).toInt64)) (b_pl : own_b20 pl) (e_hl : hl = ((x2 >>> ((11 : Int32) &&& 31)).toInt64)) (b_hl : own_b20 hl) (e_u0 : u0 = ((x3 >>> ((11 : Int32) &&& 31)).toInt64)) (b_u0 : own_b20 u0) (e_u1 : u1 = ((x4 >>> ((11 : Int32) &&& 31)).toInt64)) (b_u1 : own_b20 u1) (e_u2 : u2 = ((x5 >>> ((11 : Int32) &&& 31)).toInt64)) (b_u2 : own_b20 u2) (e_u3 : u3 = ((x6 >>> ((11 : Int32) &&& 31)).toInt64)) (b_u3 : own_b20 u3) : own_Goes p.tables e below s (Q0 Z x1 x2 x3 x4 x5 x6 h0 n0) room_1.cells room_1.slots Tj (mkF m 720 (Ls19 x1 x2 x3 x4 x5 x6 pl hl u0 u1 u2 u3 (FP.l2d pl) (FP.l2d hl) (FP.l2d u0) (FP.l2d u1) (FP.l2d u2) (FP.l2d u3) b1) [(.ref b74)]) := by
  refine oDup 721 Xj hx (hb hby at_720) rfl rfl ?_
  refine oBi 723 Xj hx (hb hby at_721) 36 rfl rfl ?_
  refine oDl 725 Xj hx (hb hby at_723) rfl rfl ?_
  refine oDsD 726 Xj hx hZ ej 36 V_b74 (hb hby at_725) (by decide) rfl (by decide) rfl rfl fun T111 h111 X111 e111 W111 V_b74_ => ?_
  replace Zle := Nat.le_trans Zle (Keep.of_wr W111).1
  replace V_b1 := V_b1.other W111 ne_b1_b74
  replace V_b74 := V_b74_
  clear V_b74_ W111
  replace N_ := Fr.snoc X111 N_ g_b74
  refine oDup 727 X111 hx (hb hby at_726) rfl rfl ?_
  refine oBi 729 X111 hx (hb hby at_727) 37 rfl rfl ?_
  refine oDl 731 X111 hx (hb hby at_729) rfl rfl ?_
  refine oDsD 732 X111 hx hZ e111 37 V_b74 (hb hby at_731) (by decide) rfl (by decide) rfl rfl fun T112 h112 X112 e112 W112 V_b74_ => ?_
  replace Zle := Nat.le_trans Zle (Keep.of_wr W112).1
  replace V_b1 := V_b1.other W112 ne_b1_b74
  replace V_b74 := V_b74_
  clear V_b74_ W112
  replace N_ := Fr.snoc X112 N_ g_b74
  clear X111 e111
  refine oDup 733 X112 hx (hb hby at_732) rfl rfl ?_
  refine oBi 735 X112 hx (hb hby at_733) 38 rfl rfl ?_
  refine oDl 737 X112 hx (hb hby at_735) rfl rfl ?_
  refine oDsD 738 X112 hx hZ e112 38 V_b74 (hb hby at_737) (by decide) rfl (by decide) rfl rfl fun T113 h113 X113 e113 W113 V_b74_ => ?_
  replace Zle := Nat.le_trans Zle (Keep.of_wr W113).1
  replace V_b1 := V_b1.other W113 ne_b1_b74
  replace V_b74 := V_b74_
  clear V_b74_ W113
  replace N_ := Fr.snoc X113 N_ g_b74
  clear X112 e112
  refine oDup 739 X113 hx (hb hby at_738) rfl rfl ?_
  refine oBi 741 X113 hx (hb hby at_739) 39 rfl rfl ?_
  refine oDl 743 X113 hx (hb hby at_741) rfl rfl ?_
  refine oDsD 744 X113 hx hZ e113 39 V_b74 (hb hby at_743) (by decide) rfl (by decide) rfl rfl fun T114 h114 X114 e114 W114 V_b74_ => ?_
  replace Zle := Nat.le_trans Zle (Keep.of_wr W114).1
  replace V_b1 := V_b1.other W114 ne_b1_b74
  replace V_b74 := V_b74_
  clear V_b74_ W114
  replace N_ := Fr.snoc X114 N_ g_b74
  clear X113 e113
  refine oDup 745 X114 hx (hb hby at_744) rfl rfl ?_
  refine oBi 747 X114 hx (hb hby at_745) 40 rfl rfl ?_
  refine oDl 749 X114 hx (hb hby at_747) rfl rfl ?_
  refine oDsD 750 X114 hx hZ e114 40 V_b74 (hb hby at_749) (by decide) rfl (by decide) rfl rfl fun T115 h115 X115 e115 W115 V_b74_ => ?_
  replace Zle := Nat.le_trans Zle (Keep.of_wr W115).1
  replace V_b1 := V_b1.other W115 ne_b1_b74
  replace V_b74 := V_b74_
  clear V_b74_ W115
  replace N_ := Fr.snoc X115 N_ g_b74
  clear X114 e114
  refine oDup 751 X115 hx (hb hby at_750) rfl rfl ?_
  refine oBi 753 X115 hx (hb hby at_751) 41 rfl rfl ?_
  refine oDl 755 X115 hx (hb hby at_753) rfl rfl ?_
  refine oDsD 756 X115 hx hZ e115 41 V_b74 (hb hby at_755) (by decide) rfl (by decide) rfl rfl fun T116 h116 X116 e116 W116 V_b74_ => ?_
  replace Zle := Nat.le_trans Zle (Keep.of_wr W116).1
  replace V_b1 := V_b1.other W116 ne_b1_b74
  replace V_b74 := V_b74_
  clear V_b74_ W116
  replace N_ := Fr.snoc X116 N_ g_b74
  clear X115 e115
  refine oDup 757 X116 hx (hb hby at_756) rfl rfl ?_
  refine oBi 759 X116 hx (hb hby at_757) 42 rfl rfl ?_
  refine oDl 761 X116 hx (hb hby at_759) rfl rfl ?_
  refine oDsD 762 X116 hx hZ e116 42 V_b74 (hb hby at_761) (by decide) rfl (by decide) rfl rfl fun T117 h117 X117 e117 W117 V_b74_ => ?_
  replace Zle := Nat.le_trans Zle (Keep.of_wr W117).1
  replace V_b1 := V_b1.other W117 ne_b1_b74
  replace V_b74 := V_b74_
  clear V_b74_ W117
  replace N_ := Fr.snoc X117 N_ g_b74
  clear X116 e116
  refine oDup 763 X117 hx (hb hby at_762) rfl rfl ?_
  refine oBi 765 X117 hx (hb hby at_763) 43 rfl rfl ?_
  refine oDl 767 X117 hx (hb hby at_765) rfl rfl ?_
  refine oDsD 768 X117 hx hZ e117 43 V_b74 (hb hby at_767) (by decide) rfl (by decide) rfl rfl fun T118 h118 X118 e118 W118 V_b74_ => ?_
  replace Zle := Nat.le_trans Zle (Keep.of_wr W118).1
  replace V_b1 := V_b1.other W118 ne_b1_b74
  replace V_b74 := V_b74_
  clear V_b74_ W118
  replace N_ := Fr.snoc X118 N_ g_b74
  clear X117 e117
  refine oDup 769 X118 hx (hb hby at_768) rfl rfl ?_
  refine oBi 771 X118 hx (hb hby at_769) 44 rfl rfl ?_
  refine oDl 773 X118 hx (hb hby at_771) rfl rfl ?_
  refine oDsD 774 X118 hx hZ e118 44 V_b74 (hb hby at_773) (by decide) rfl (by decide) rfl rfl fun T119 h119 X119 e119 W119 V_b74_ => ?_
  replace Zle := Nat.le_trans Zle (Keep.of_wr W119).1
  replace V_b1 := V_b1.other W119 ne_b1_b74
  replace V_b74 := V_b74_
  clear V_b74_ W119
  replace N_ := Fr.snoc X119 N_ g_b74
  clear X118 e118
  refine oDup 775 X119 hx (hb hby at_774) rfl rfl ?_
  refine oBi 777 X119 hx (hb hby at_775) 45 rfl rfl ?_
  refine oDl 779 X119 hx (hb hby at_777) rfl rfl ?_
  refine oDsD 780 X119 hx hZ e119 45 V_b74 (hb hby at_779) (by decide) rfl (by decide) rfl rfl fun T120 h120 X120 e120 W120 V_b74_ => ?_
  replace Zle := Nat.le_trans Zle (Keep.of_wr W120).1
  replace V_b1 := V_b1.other W120 ne_b1_b74
  replace V_b74 := V_b74_
  clear V_b74_ W120
  replace N_ := Fr.snoc X120 N_ g_b74
  clear X119 e119
  refine oDup 781 X120 hx (hb hby at_780) rfl rfl ?_
  refine oBi 783 X120 hx (hb hby at_781) 46 rfl rfl ?_
  refine oDl 785 X120 hx (hb hby at_783) rfl rfl ?_
  refine oDsD 786 X120 hx hZ e120 46 V_b74 (hb hby at_785) (by decide) rfl (by decide) rfl rfl fun T121 h121 X121 e121 W121 V_b74_ => ?_
  replace Zle := Nat.le_trans Zle (Keep.of_wr W121).1
  replace V_b1 := V_b1.other W121 ne_b1_b74
  replace V_b74 := V_b74_
  clear V_b74_ W121
  replace N_ := Fr.snoc X121 N_ g_b74
  clear X120 e120
  refine oDup 787 X121 hx (hb hby at_786) rfl rfl ?_
  refine oBi 789 X121 hx (hb hby at_787) 47 rfl rfl ?_
  refine oDl 791 X121 hx (hb hby at_789) rfl rfl ?_
  refine oDsD 792 X121 hx hZ e121 47 V_b74 (hb hby at_791) (by decide) rfl (by decide) rfl rfl fun T122 h122 X122 e122 W122 V_b74_ => ?_
  replace Zle := Nat.le_trans Zle (Keep.of_wr W122).1
  replace V_b1 := V_b1.other W122 ne_b1_b74
  replace V_b74 := V_b74_
  clear V_b74_ W122
  replace N_ := Fr.snoc X122 N_ g_b74
  clear X121 e121
  refine oDup 793 X122 hx (hb hby at_792) rfl rfl ?_
  refine oBi 795 X122 hx (hb hby at_793) 48 rfl rfl ?_
  refine oDl 797 X122 hx (hb hby at_795) rfl rfl ?_
  refine oDsD 798 X122 hx hZ e122 48 V_b74 (hb hby at_797) (by decide) rfl (by decide) rfl rfl fun T123 h123 X123 e123 W123 V_b74_ => ?_
  replace Zle := Nat.le_trans Zle (Keep.of_wr W123).1
  replace V_b1 := V_b1.other W123 ne_b1_b74
  replace V_b74 := V_b74_
  clear V_b74_ W123
  replace N_ := Fr.snoc X123 N_ g_b74
  clear X122 e122
  refine oDup 799 X123 hx (hb hby at_798) rfl rfl ?_
  refine oBi 801 X123 hx (hb hby at_799) 49 rfl rfl ?_
  refine oDl 803 X123 hx (hb hby at_801) rfl rfl ?_
  refine oDsD 804 X123 hx hZ e123 49 V_b74 (hb hby at_803) (by decide) rfl (by decide) rfl rfl fun T124 h124 X124 e124 W124 V_b74_ => ?_
  replace Zle := Nat.le_trans Zle (Keep.of_wr W124).1
  replace V_b1 := V_b1.other W124 ne_b1_b74
  replace V_b74 := V_b74_
  clear V_b74_ W124
  replace N_ := Fr.snoc X124 N_ g_b74
  clear X123 e123
  refine oDup 805 X124 hx (hb hby at_804) rfl rfl ?_
  refine oBi 807 X124 hx (hb hby at_805) 50 rfl rfl ?_
  refine oDl 809 X124 hx (hb hby at_807) rfl rfl ?_
  refine oDsD 810 X124 hx hZ e124 50 V_b74 (hb hby at_809) (by decide) rfl (by decide) rfl rfl fun T125 h125 X125 e125 W125 V_b74_ => ?_
  replace Zle := Nat.le_trans Zle (Keep.of_wr W125).1
  replace V_b1 := V_b1.other W125 ne_b1_b74
  replace V_b74 := V_b74_
  clear V_b74_ W125
  replace N_ := Fr.snoc X125 N_ g_b74
  clear X124 e124
  refine oDup 811 X125 hx (hb hby at_810) rfl rfl ?_
  refine oBi 813 X125 hx (hb hby at_811) 51 rfl rfl ?_
  refine oDl 815 X125 hx (hb hby at_813) rfl rfl ?_
  refine oDsD 816 X125 hx hZ e125 51 V_b74 (hb hby at_815) (by decide) rfl (by decide) rfl rfl fun T126 h126 X126 e126 W126 V_b74_ => ?_
  replace Zle := Nat.le_trans Zle (Keep.of_wr W126).1
  replace V_b1 := V_b1.other W126 ne_b1_b74
  replace V_b74 := V_b74_
  clear V_b74_ W126
  replace N_ := Fr.snoc X126 N_ g_b74
  clear X125 e125
  refine oDup 817 X126 hx (hb hby at_816) rfl rfl ?_
  refine oBi 819 X126 hx (hb hby at_817) 52 rfl rfl ?_
  refine oDl 821 X126 hx (hb hby at_819) rfl rfl ?_
  refine oDsD 822 X126 hx hZ e126 52 V_b74 (hb hby at_821) (by decide) rfl (by decide) rfl rfl fun T127 h127 X127 e127 W127 V_b74_ => ?_
  replace Zle := Nat.le_trans Zle (Keep.of_wr W127).1
  replace V_b1 := V_b1.other W127 ne_b1_b74
  replace V_b74 := V_b74_
  clear V_b74_ W127
  replace N_ := Fr.snoc X127 N_ g_b74
  clear X126 e126
  refine oDup 823 X127 hx (hb hby at_822) rfl rfl ?_
  refine oBi 825 X127 hx (hb hby at_823) 53 rfl rfl ?_
  refine oDl 827 X127 hx (hb hby at_825) rfl rfl ?_
  refine oDsD 828 X127 hx hZ e127 53 V_b74 (hb hby at_827) (by decide) rfl (by decide) rfl rfl fun T128 h128 X128 e128 W128 V_b74_ => ?_
  replace Zle := Nat.le_trans Zle (Keep.of_wr W128).1
  replace V_b1 := V_b1.other W128 ne_b1_b74
  replace V_b74 := V_b74_
  clear V_b74_ W128
  replace N_ := Fr.snoc X128 N_ g_b74
  clear X127 e127
  exact own_l828 l Z a0 hw hx hby hml hlk hret x1 x2 x3 x4 x5 x6 h0 n0  pl hl u0 u1 u2 u3 b1 k1 b74 k74 hZ hown (X128) e128 Zle N_ g_b1 V_b1 ne_b1_b74 g_b74 V_b74 e_pl b_pl e_hl b_hl e_u0 b_u0 e_u1 b_u1 e_u2 b_u2 e_u3 b_u3
set_option maxRecDepth 65536 in
set_option maxHeartbeats 40000000 in
theorem own_l612 (l : Launch) (Z : State) (a0 : Array Value) (hw : ∀ d ∈ tables_1, d.before a0 Z = true) {p : Program} {e : Env} {s : State} {m : MethodId} {below : List Frame} {meth : Method} {c : Code} (hx : p.tables.exec = Jvm.exec) (hby : c.code = code) (hml : c.maxLocals = 38) (hlk : meth.locks = false) (hret : meth.sig.returnType = ret) (x1 : Int32) (x2 : Int32) (x3 : Int32) (x4 : Int32) (x5 : Int32) (x6 : Int32) (h0 : Heap) (n0 : Nat) (pl : Int64) (hl : Int64) (u0 : Int64) (u1 : Int64) (u2 : Int64) (u3 : Int64) (b1 : Addr) (k1 : ClassId) (b74 : Addr) (k74 : ClassId) {Tj : State} {hj : Heap} {locsj : List Loc}
    (hZ : Z.Warmed39 s.vm) (hown : s.vm.findClass "com/example/firebreak/firebreak/strategies/LazyMaxSumClearlyBetterPinLaw" = some m.cls) (Xj : Stand p l e room_1 s m #[(.int x1), (.int x2), (.int x3), (.int x4), (.int x5), (.int x6)] below meth c Tj locsj 2 144) (ej : Tj.heap = hj)
    (Zle : n0 ≤ hj.size) (N_ : Fr n0 locsj) (g_b1 : n0 ≤ b1) (V_b1 : Arv Z hj b1 k1 .double (72 : Int32) (own_Dl (own_e u0 u1 u2 pl) 72) (.double (FP.l2d 0))) (ne_b1_b74 : b1 ≠ b74) (g_b74 : n0 ≤ b74) (V_b74 : Arv Z hj b74 k74 .double (72 : Int32) (own_Dl (own_h hl u3) 18) (.double (FP.l2d 0))) (e_pl : pl = ((x1 >>> ((11 : Int32) &&& 31)).toInt64)) (b_pl : own_b20 pl) (e_hl : hl = ((x2 >>> ((11 : Int32) &&& 31)).toInt64)) (b_hl : own_b20 hl) (e_u0 : u0 = ((x3 >>> ((11 : Int32) &&& 31)).toInt64)) (b_u0 : own_b20 u0) (e_u1 : u1 = ((x4 >>> ((11 : Int32) &&& 31)).toInt64)) (b_u1 : own_b20 u1) (e_u2 : u2 = ((x5 >>> ((11 : Int32) &&& 31)).toInt64)) (b_u2 : own_b20 u2) (e_u3 : u3 = ((x6 >>> ((11 : Int32) &&& 31)).toInt64)) (b_u3 : own_b20 u3) : own_Goes p.tables e below s (Q0 Z x1 x2 x3 x4 x5 x6 h0 n0) room_1.cells room_1.slots Tj (mkF m 612 (Ls19 x1 x2 x3 x4 x5 x6 pl hl u0 u1 u2 u3 (FP.l2d pl) (FP.l2d hl) (FP.l2d u0) (FP.l2d u1) (FP.l2d u2) (FP.l2d u3) b1) [(.ref b74)]) := by
  refine oDup 613 Xj hx (hb hby at_612) rfl rfl ?_
  refine oBi 615 Xj hx (hb hby at_613) 18 rfl rfl ?_
  refine oDl 617 Xj hx (hb hby at_615) rfl rfl ?_
  refine oDsD 618 Xj hx hZ ej 18 V_b74 (hb hby at_617) (by decide) rfl (by decide) rfl rfl fun T93 h93 X93 e93 W93 V_b74_ => ?_
  replace Zle := Nat.le_trans Zle (Keep.of_wr W93).1
  replace V_b1 := V_b1.other W93 ne_b1_b74
  replace V_b74 := V_b74_
  clear V_b74_ W93
  replace N_ := Fr.snoc X93 N_ g_b74
  refine oDup 619 X93 hx (hb hby at_618) rfl rfl ?_
  refine oBi 621 X93 hx (hb hby at_619) 19 rfl rfl ?_
  refine oDl 623 X93 hx (hb hby at_621) rfl rfl ?_
  refine oDsD 624 X93 hx hZ e93 19 V_b74 (hb hby at_623) (by decide) rfl (by decide) rfl rfl fun T94 h94 X94 e94 W94 V_b74_ => ?_
  replace Zle := Nat.le_trans Zle (Keep.of_wr W94).1
  replace V_b1 := V_b1.other W94 ne_b1_b74
  replace V_b74 := V_b74_
  clear V_b74_ W94
  replace N_ := Fr.snoc X94 N_ g_b74
  clear X93 e93
  refine oDup 625 X94 hx (hb hby at_624) rfl rfl ?_
  refine oBi 627 X94 hx (hb hby at_625) 20 rfl rfl ?_
  refine oDl 629 X94 hx (hb hby at_627) rfl rfl ?_
  refine oDsD 630 X94 hx hZ e94 20 V_b74 (hb hby at_629) (by decide) rfl (by decide) rfl rfl fun T95 h95 X95 e95 W95 V_b74_ => ?_
  replace Zle := Nat.le_trans Zle (Keep.of_wr W95).1
  replace V_b1 := V_b1.other W95 ne_b1_b74
  replace V_b74 := V_b74_
  clear V_b74_ W95
  replace N_ := Fr.snoc X95 N_ g_b74
  clear X94 e94
  refine oDup 631 X95 hx (hb hby at_630) rfl rfl ?_
  refine oBi 633 X95 hx (hb hby at_631) 21 rfl rfl ?_
  refine oDl 635 X95 hx (hb hby at_633) rfl rfl ?_
  refine oDsD 636 X95 hx hZ e95 21 V_b74 (hb hby at_635) (by decide) rfl (by decide) rfl rfl fun T96 h96 X96 e96 W96 V_b74_ => ?_
  replace Zle := Nat.le_trans Zle (Keep.of_wr W96).1
  replace V_b1 := V_b1.other W96 ne_b1_b74
  replace V_b74 := V_b74_
  clear V_b74_ W96
  replace N_ := Fr.snoc X96 N_ g_b74
  clear X95 e95
  refine oDup 637 X96 hx (hb hby at_636) rfl rfl ?_
  refine oBi 639 X96 hx (hb hby at_637) 22 rfl rfl ?_
  refine oDl 641 X96 hx (hb hby at_639) rfl rfl ?_
  refine oDsD 642 X96 hx hZ e96 22 V_b74 (hb hby at_641) (by decide) rfl (by decide) rfl rfl fun T97 h97 X97 e97 W97 V_b74_ => ?_
  replace Zle := Nat.le_trans Zle (Keep.of_wr W97).1
  replace V_b1 := V_b1.other W97 ne_b1_b74
  replace V_b74 := V_b74_
  clear V_b74_ W97
  replace N_ := Fr.snoc X97 N_ g_b74
  clear X96 e96
  refine oDup 643 X97 hx (hb hby at_642) rfl rfl ?_
  refine oBi 645 X97 hx (hb hby at_643) 23 rfl rfl ?_
  refine oDl 647 X97 hx (hb hby at_645) rfl rfl ?_
  refine oDsD 648 X97 hx hZ e97 23 V_b74 (hb hby at_647) (by decide) rfl (by decide) rfl rfl fun T98 h98 X98 e98 W98 V_b74_ => ?_
  replace Zle := Nat.le_trans Zle (Keep.of_wr W98).1
  replace V_b1 := V_b1.other W98 ne_b1_b74
  replace V_b74 := V_b74_
  clear V_b74_ W98
  replace N_ := Fr.snoc X98 N_ g_b74
  clear X97 e97
  refine oDup 649 X98 hx (hb hby at_648) rfl rfl ?_
  refine oBi 651 X98 hx (hb hby at_649) 24 rfl rfl ?_
  refine oDl 653 X98 hx (hb hby at_651) rfl rfl ?_
  refine oDsD 654 X98 hx hZ e98 24 V_b74 (hb hby at_653) (by decide) rfl (by decide) rfl rfl fun T99 h99 X99 e99 W99 V_b74_ => ?_
  replace Zle := Nat.le_trans Zle (Keep.of_wr W99).1
  replace V_b1 := V_b1.other W99 ne_b1_b74
  replace V_b74 := V_b74_
  clear V_b74_ W99
  replace N_ := Fr.snoc X99 N_ g_b74
  clear X98 e98
  refine oDup 655 X99 hx (hb hby at_654) rfl rfl ?_
  refine oBi 657 X99 hx (hb hby at_655) 25 rfl rfl ?_
  refine oDl 659 X99 hx (hb hby at_657) rfl rfl ?_
  refine oDsD 660 X99 hx hZ e99 25 V_b74 (hb hby at_659) (by decide) rfl (by decide) rfl rfl fun T100 h100 X100 e100 W100 V_b74_ => ?_
  replace Zle := Nat.le_trans Zle (Keep.of_wr W100).1
  replace V_b1 := V_b1.other W100 ne_b1_b74
  replace V_b74 := V_b74_
  clear V_b74_ W100
  replace N_ := Fr.snoc X100 N_ g_b74
  clear X99 e99
  refine oDup 661 X100 hx (hb hby at_660) rfl rfl ?_
  refine oBi 663 X100 hx (hb hby at_661) 26 rfl rfl ?_
  refine oDl 665 X100 hx (hb hby at_663) rfl rfl ?_
  refine oDsD 666 X100 hx hZ e100 26 V_b74 (hb hby at_665) (by decide) rfl (by decide) rfl rfl fun T101 h101 X101 e101 W101 V_b74_ => ?_
  replace Zle := Nat.le_trans Zle (Keep.of_wr W101).1
  replace V_b1 := V_b1.other W101 ne_b1_b74
  replace V_b74 := V_b74_
  clear V_b74_ W101
  replace N_ := Fr.snoc X101 N_ g_b74
  clear X100 e100
  refine oDup 667 X101 hx (hb hby at_666) rfl rfl ?_
  refine oBi 669 X101 hx (hb hby at_667) 27 rfl rfl ?_
  refine oDl 671 X101 hx (hb hby at_669) rfl rfl ?_
  refine oDsD 672 X101 hx hZ e101 27 V_b74 (hb hby at_671) (by decide) rfl (by decide) rfl rfl fun T102 h102 X102 e102 W102 V_b74_ => ?_
  replace Zle := Nat.le_trans Zle (Keep.of_wr W102).1
  replace V_b1 := V_b1.other W102 ne_b1_b74
  replace V_b74 := V_b74_
  clear V_b74_ W102
  replace N_ := Fr.snoc X102 N_ g_b74
  clear X101 e101
  refine oDup 673 X102 hx (hb hby at_672) rfl rfl ?_
  refine oBi 675 X102 hx (hb hby at_673) 28 rfl rfl ?_
  refine oDl 677 X102 hx (hb hby at_675) rfl rfl ?_
  refine oDsD 678 X102 hx hZ e102 28 V_b74 (hb hby at_677) (by decide) rfl (by decide) rfl rfl fun T103 h103 X103 e103 W103 V_b74_ => ?_
  replace Zle := Nat.le_trans Zle (Keep.of_wr W103).1
  replace V_b1 := V_b1.other W103 ne_b1_b74
  replace V_b74 := V_b74_
  clear V_b74_ W103
  replace N_ := Fr.snoc X103 N_ g_b74
  clear X102 e102
  refine oDup 679 X103 hx (hb hby at_678) rfl rfl ?_
  refine oBi 681 X103 hx (hb hby at_679) 29 rfl rfl ?_
  refine oDl 683 X103 hx (hb hby at_681) rfl rfl ?_
  refine oDsD 684 X103 hx hZ e103 29 V_b74 (hb hby at_683) (by decide) rfl (by decide) rfl rfl fun T104 h104 X104 e104 W104 V_b74_ => ?_
  replace Zle := Nat.le_trans Zle (Keep.of_wr W104).1
  replace V_b1 := V_b1.other W104 ne_b1_b74
  replace V_b74 := V_b74_
  clear V_b74_ W104
  replace N_ := Fr.snoc X104 N_ g_b74
  clear X103 e103
  refine oDup 685 X104 hx (hb hby at_684) rfl rfl ?_
  refine oBi 687 X104 hx (hb hby at_685) 30 rfl rfl ?_
  refine oDl 689 X104 hx (hb hby at_687) rfl rfl ?_
  refine oDsD 690 X104 hx hZ e104 30 V_b74 (hb hby at_689) (by decide) rfl (by decide) rfl rfl fun T105 h105 X105 e105 W105 V_b74_ => ?_
  replace Zle := Nat.le_trans Zle (Keep.of_wr W105).1
  replace V_b1 := V_b1.other W105 ne_b1_b74
  replace V_b74 := V_b74_
  clear V_b74_ W105
  replace N_ := Fr.snoc X105 N_ g_b74
  clear X104 e104
  refine oDup 691 X105 hx (hb hby at_690) rfl rfl ?_
  refine oBi 693 X105 hx (hb hby at_691) 31 rfl rfl ?_
  refine oDl 695 X105 hx (hb hby at_693) rfl rfl ?_
  refine oDsD 696 X105 hx hZ e105 31 V_b74 (hb hby at_695) (by decide) rfl (by decide) rfl rfl fun T106 h106 X106 e106 W106 V_b74_ => ?_
  replace Zle := Nat.le_trans Zle (Keep.of_wr W106).1
  replace V_b1 := V_b1.other W106 ne_b1_b74
  replace V_b74 := V_b74_
  clear V_b74_ W106
  replace N_ := Fr.snoc X106 N_ g_b74
  clear X105 e105
  refine oDup 697 X106 hx (hb hby at_696) rfl rfl ?_
  refine oBi 699 X106 hx (hb hby at_697) 32 rfl rfl ?_
  refine oDl 701 X106 hx (hb hby at_699) rfl rfl ?_
  refine oDsD 702 X106 hx hZ e106 32 V_b74 (hb hby at_701) (by decide) rfl (by decide) rfl rfl fun T107 h107 X107 e107 W107 V_b74_ => ?_
  replace Zle := Nat.le_trans Zle (Keep.of_wr W107).1
  replace V_b1 := V_b1.other W107 ne_b1_b74
  replace V_b74 := V_b74_
  clear V_b74_ W107
  replace N_ := Fr.snoc X107 N_ g_b74
  clear X106 e106
  refine oDup 703 X107 hx (hb hby at_702) rfl rfl ?_
  refine oBi 705 X107 hx (hb hby at_703) 33 rfl rfl ?_
  refine oDl 707 X107 hx (hb hby at_705) rfl rfl ?_
  refine oDsD 708 X107 hx hZ e107 33 V_b74 (hb hby at_707) (by decide) rfl (by decide) rfl rfl fun T108 h108 X108 e108 W108 V_b74_ => ?_
  replace Zle := Nat.le_trans Zle (Keep.of_wr W108).1
  replace V_b1 := V_b1.other W108 ne_b1_b74
  replace V_b74 := V_b74_
  clear V_b74_ W108
  replace N_ := Fr.snoc X108 N_ g_b74
  clear X107 e107
  refine oDup 709 X108 hx (hb hby at_708) rfl rfl ?_
  refine oBi 711 X108 hx (hb hby at_709) 34 rfl rfl ?_
  refine oDl 713 X108 hx (hb hby at_711) rfl rfl ?_
  refine oDsD 714 X108 hx hZ e108 34 V_b74 (hb hby at_713) (by decide) rfl (by decide) rfl rfl fun T109 h109 X109 e109 W109 V_b74_ => ?_
  replace Zle := Nat.le_trans Zle (Keep.of_wr W109).1
  replace V_b1 := V_b1.other W109 ne_b1_b74
  replace V_b74 := V_b74_
  clear V_b74_ W109
  replace N_ := Fr.snoc X109 N_ g_b74
  clear X108 e108
  refine oDup 715 X109 hx (hb hby at_714) rfl rfl ?_
  refine oBi 717 X109 hx (hb hby at_715) 35 rfl rfl ?_
  refine oDl 719 X109 hx (hb hby at_717) rfl rfl ?_
  refine oDsD 720 X109 hx hZ e109 35 V_b74 (hb hby at_719) (by decide) rfl (by decide) rfl rfl fun T110 h110 X110 e110 W110 V_b74_ => ?_
  replace Zle := Nat.le_trans Zle (Keep.of_wr W110).1
  replace V_b1 := V_b1.other W110 ne_b1_b74
  replace V_b74 := V_b74_
  clear V_b74_ W110
  replace N_ := Fr.snoc X110 N_ g_b74
  clear X109 e109
  exact own_l720 l Z a0 hw hx hby hml hlk hret x1 x2 x3 x4 x5 x6 h0 n0  pl hl u0 u1 u2 u3 b1 k1 b74 k74 hZ hown (X110) e110 Zle N_ g_b1 V_b1 ne_b1_b74 g_b74 V_b74 e_pl b_pl e_hl b_hl e_u0 b_u0 e_u1 b_u1 e_u2 b_u2 e_u3 b_u3
set_option maxRecDepth 65536 in
set_option maxHeartbeats 40000000 in
theorem own_l506 (l : Launch) (Z : State) (a0 : Array Value) (hw : ∀ d ∈ tables_1, d.before a0 Z = true) {p : Program} {e : Env} {s : State} {m : MethodId} {below : List Frame} {meth : Method} {c : Code} (hx : p.tables.exec = Jvm.exec) (hby : c.code = code) (hml : c.maxLocals = 38) (hlk : meth.locks = false) (hret : meth.sig.returnType = ret) (x1 : Int32) (x2 : Int32) (x3 : Int32) (x4 : Int32) (x5 : Int32) (x6 : Int32) (h0 : Heap) (n0 : Nat) (pl : Int64) (hl : Int64) (u0 : Int64) (u1 : Int64) (u2 : Int64) (u3 : Int64) (b1 : Addr) (k1 : ClassId) {Tj : State} {hj : Heap} {locsj : List Loc}
    (hZ : Z.Warmed39 s.vm) (hown : s.vm.findClass "com/example/firebreak/firebreak/strategies/LazyMaxSumClearlyBetterPinLaw" = some m.cls) (Xj : Stand p l e room_1 s m #[(.int x1), (.int x2), (.int x3), (.int x4), (.int x5), (.int x6)] below meth c Tj locsj 1 72) (ej : Tj.heap = hj)
    (Zle : n0 ≤ hj.size) (N_ : Fr n0 locsj) (g_b1 : n0 ≤ b1) (V_b1 : Arv Z hj b1 k1 .double (72 : Int32) (own_Dl (own_e u0 u1 u2 pl) 72) (.double (FP.l2d 0))) (e_pl : pl = ((x1 >>> ((11 : Int32) &&& 31)).toInt64)) (b_pl : own_b20 pl) (e_hl : hl = ((x2 >>> ((11 : Int32) &&& 31)).toInt64)) (b_hl : own_b20 hl) (e_u0 : u0 = ((x3 >>> ((11 : Int32) &&& 31)).toInt64)) (b_u0 : own_b20 u0) (e_u1 : u1 = ((x4 >>> ((11 : Int32) &&& 31)).toInt64)) (b_u1 : own_b20 u1) (e_u2 : u2 = ((x5 >>> ((11 : Int32) &&& 31)).toInt64)) (b_u2 : own_b20 u2) (e_u3 : u3 = ((x6 >>> ((11 : Int32) &&& 31)).toInt64)) (b_u3 : own_b20 u3) : own_Goes p.tables e below s (Q0 Z x1 x2 x3 x4 x5 x6 h0 n0) room_1.cells room_1.slots Tj (mkF m 506 (Ls19 x1 x2 x3 x4 x5 x6 pl hl u0 u1 u2 u3 (FP.l2d pl) (FP.l2d hl) (FP.l2d u0) (FP.l2d u1) (FP.l2d u2) (FP.l2d u3) b1) []) := by
  refine oBi 508 Xj hx (hb hby at_506) 72 rfl rfl ?_
  obtain ⟨T74, h74, k74, X74, e74, E74, A74, st74⟩ := newP Xj hx hZ (hw _ (own_m 0 rfl)) ej (g := (mkF m 508 (Ls19 x1 x2 x3 x4 x5 x6 pl hl u0 u1 u2 u3 (FP.l2d pl) (FP.l2d hl) (FP.l2d u0) (FP.l2d u1) (FP.l2d u2) (FP.l2d u3) b1) [(.int 72)])) rfl (hb hby at_508) rfl (by decide) (cap := 72) (by decide) (by decide) (by decide) (by decide)
  obtain ⟨b74, g74⟩ : ∃ z, z = hj.size := ⟨_, rfl⟩
  rw [← g74] at A74 st74
  have ne_b1_b74 : b1 ≠ b74 := Nat.ne_of_lt (Nat.lt_of_lt_of_eq V_b1.lt g74.symm)
  have g_b74 : n0 ≤ b74 := Nat.le_trans Zle (Nat.le_of_eq g74.symm)
  replace Zle := Nat.le_trans Zle E74.1
  replace V_b1 := V_b1.ext E74
  have V_b74 : Arv Z h74 b74 k74 .double (72 : Int32) (own_Dl (own_h hl u3) 0) (.double (FP.l2d 0)) := (Arv.newD A74 (by decide)).pad (own_Dl_pad (own_h hl u3))
  refine own_by (T' := T74) (g' := (mkF m 510 (Ls19 x1 x2 x3 x4 x5 x6 pl hl u0 u1 u2 u3 (FP.l2d pl) (FP.l2d hl) (FP.l2d u0) (FP.l2d u1) (FP.l2d u2) (FP.l2d u3) b1) [(.ref b74)])) (fun t k => st74 t k) ?_
  clear st74
  refine oDup 511 X74 hx (hb hby at_510) rfl rfl ?_
  refine oIc 512 X74 hx (hb hby at_511) 0 rfl rfl ?_
  refine oDl 514 X74 hx (hb hby at_512) rfl rfl ?_
  refine oDsD 515 X74 hx hZ e74 0 V_b74 (hb hby at_514) (by decide) rfl (by decide) rfl rfl fun T75 h75 X75 e75 W75 V_b74_ => ?_
  replace Zle := Nat.le_trans Zle (Keep.of_wr W75).1
  replace V_b1 := V_b1.other W75 ne_b1_b74
  replace V_b74 := V_b74_
  clear V_b74_ W75
  replace N_ := Fr.snoc X75 N_ g_b74
  clear X74 e74
  refine oDup 516 X75 hx (hb hby at_515) rfl rfl ?_
  refine oIc 517 X75 hx (hb hby at_516) 1 rfl rfl ?_
  refine oDl 519 X75 hx (hb hby at_517) rfl rfl ?_
  refine oDsD 520 X75 hx hZ e75 1 V_b74 (hb hby at_519) (by decide) rfl (by decide) rfl rfl fun T76 h76 X76 e76 W76 V_b74_ => ?_
  replace Zle := Nat.le_trans Zle (Keep.of_wr W76).1
  replace V_b1 := V_b1.other W76 ne_b1_b74
  replace V_b74 := V_b74_
  clear V_b74_ W76
  replace N_ := Fr.snoc X76 N_ g_b74
  clear X75 e75
  refine oDup 521 X76 hx (hb hby at_520) rfl rfl ?_
  refine oIc 522 X76 hx (hb hby at_521) 2 rfl rfl ?_
  refine oDl 524 X76 hx (hb hby at_522) rfl rfl ?_
  refine oDsD 525 X76 hx hZ e76 2 V_b74 (hb hby at_524) (by decide) rfl (by decide) rfl rfl fun T77 h77 X77 e77 W77 V_b74_ => ?_
  replace Zle := Nat.le_trans Zle (Keep.of_wr W77).1
  replace V_b1 := V_b1.other W77 ne_b1_b74
  replace V_b74 := V_b74_
  clear V_b74_ W77
  replace N_ := Fr.snoc X77 N_ g_b74
  clear X76 e76
  refine oDup 526 X77 hx (hb hby at_525) rfl rfl ?_
  refine oIc 527 X77 hx (hb hby at_526) 3 rfl rfl ?_
  refine oDl 529 X77 hx (hb hby at_527) rfl rfl ?_
  refine oDsD 530 X77 hx hZ e77 3 V_b74 (hb hby at_529) (by decide) rfl (by decide) rfl rfl fun T78 h78 X78 e78 W78 V_b74_ => ?_
  replace Zle := Nat.le_trans Zle (Keep.of_wr W78).1
  replace V_b1 := V_b1.other W78 ne_b1_b74
  replace V_b74 := V_b74_
  clear V_b74_ W78
  replace N_ := Fr.snoc X78 N_ g_b74
  clear X77 e77
  refine oDup 531 X78 hx (hb hby at_530) rfl rfl ?_
  refine oIc 532 X78 hx (hb hby at_531) 4 rfl rfl ?_
  refine oDl 534 X78 hx (hb hby at_532) rfl rfl ?_
  refine oDsD 535 X78 hx hZ e78 4 V_b74 (hb hby at_534) (by decide) rfl (by decide) rfl rfl fun T79 h79 X79 e79 W79 V_b74_ => ?_
  replace Zle := Nat.le_trans Zle (Keep.of_wr W79).1
  replace V_b1 := V_b1.other W79 ne_b1_b74
  replace V_b74 := V_b74_
  clear V_b74_ W79
  replace N_ := Fr.snoc X79 N_ g_b74
  clear X78 e78
  refine oDup 536 X79 hx (hb hby at_535) rfl rfl ?_
  refine oIc 537 X79 hx (hb hby at_536) 5 rfl rfl ?_
  refine oDl 539 X79 hx (hb hby at_537) rfl rfl ?_
  refine oDsD 540 X79 hx hZ e79 5 V_b74 (hb hby at_539) (by decide) rfl (by decide) rfl rfl fun T80 h80 X80 e80 W80 V_b74_ => ?_
  replace Zle := Nat.le_trans Zle (Keep.of_wr W80).1
  replace V_b1 := V_b1.other W80 ne_b1_b74
  replace V_b74 := V_b74_
  clear V_b74_ W80
  replace N_ := Fr.snoc X80 N_ g_b74
  clear X79 e79
  refine oDup 541 X80 hx (hb hby at_540) rfl rfl ?_
  refine oBi 543 X80 hx (hb hby at_541) 6 rfl rfl ?_
  refine oDl 545 X80 hx (hb hby at_543) rfl rfl ?_
  refine oDsD 546 X80 hx hZ e80 6 V_b74 (hb hby at_545) (by decide) rfl (by decide) rfl rfl fun T81 h81 X81 e81 W81 V_b74_ => ?_
  replace Zle := Nat.le_trans Zle (Keep.of_wr W81).1
  replace V_b1 := V_b1.other W81 ne_b1_b74
  replace V_b74 := V_b74_
  clear V_b74_ W81
  replace N_ := Fr.snoc X81 N_ g_b74
  clear X80 e80
  refine oDup 547 X81 hx (hb hby at_546) rfl rfl ?_
  refine oBi 549 X81 hx (hb hby at_547) 7 rfl rfl ?_
  refine oDl 551 X81 hx (hb hby at_549) rfl rfl ?_
  refine oDsD 552 X81 hx hZ e81 7 V_b74 (hb hby at_551) (by decide) rfl (by decide) rfl rfl fun T82 h82 X82 e82 W82 V_b74_ => ?_
  replace Zle := Nat.le_trans Zle (Keep.of_wr W82).1
  replace V_b1 := V_b1.other W82 ne_b1_b74
  replace V_b74 := V_b74_
  clear V_b74_ W82
  replace N_ := Fr.snoc X82 N_ g_b74
  clear X81 e81
  refine oDup 553 X82 hx (hb hby at_552) rfl rfl ?_
  refine oBi 555 X82 hx (hb hby at_553) 8 rfl rfl ?_
  refine oDl 557 X82 hx (hb hby at_555) rfl rfl ?_
  refine oDsD 558 X82 hx hZ e82 8 V_b74 (hb hby at_557) (by decide) rfl (by decide) rfl rfl fun T83 h83 X83 e83 W83 V_b74_ => ?_
  replace Zle := Nat.le_trans Zle (Keep.of_wr W83).1
  replace V_b1 := V_b1.other W83 ne_b1_b74
  replace V_b74 := V_b74_
  clear V_b74_ W83
  replace N_ := Fr.snoc X83 N_ g_b74
  clear X82 e82
  refine oDup 559 X83 hx (hb hby at_558) rfl rfl ?_
  refine oBi 561 X83 hx (hb hby at_559) 9 rfl rfl ?_
  refine oDl 563 X83 hx (hb hby at_561) rfl rfl ?_
  refine oDsD 564 X83 hx hZ e83 9 V_b74 (hb hby at_563) (by decide) rfl (by decide) rfl rfl fun T84 h84 X84 e84 W84 V_b74_ => ?_
  replace Zle := Nat.le_trans Zle (Keep.of_wr W84).1
  replace V_b1 := V_b1.other W84 ne_b1_b74
  replace V_b74 := V_b74_
  clear V_b74_ W84
  replace N_ := Fr.snoc X84 N_ g_b74
  clear X83 e83
  refine oDup 565 X84 hx (hb hby at_564) rfl rfl ?_
  refine oBi 567 X84 hx (hb hby at_565) 10 rfl rfl ?_
  refine oDl 569 X84 hx (hb hby at_567) rfl rfl ?_
  refine oDsD 570 X84 hx hZ e84 10 V_b74 (hb hby at_569) (by decide) rfl (by decide) rfl rfl fun T85 h85 X85 e85 W85 V_b74_ => ?_
  replace Zle := Nat.le_trans Zle (Keep.of_wr W85).1
  replace V_b1 := V_b1.other W85 ne_b1_b74
  replace V_b74 := V_b74_
  clear V_b74_ W85
  replace N_ := Fr.snoc X85 N_ g_b74
  clear X84 e84
  refine oDup 571 X85 hx (hb hby at_570) rfl rfl ?_
  refine oBi 573 X85 hx (hb hby at_571) 11 rfl rfl ?_
  refine oDl 575 X85 hx (hb hby at_573) rfl rfl ?_
  refine oDsD 576 X85 hx hZ e85 11 V_b74 (hb hby at_575) (by decide) rfl (by decide) rfl rfl fun T86 h86 X86 e86 W86 V_b74_ => ?_
  replace Zle := Nat.le_trans Zle (Keep.of_wr W86).1
  replace V_b1 := V_b1.other W86 ne_b1_b74
  replace V_b74 := V_b74_
  clear V_b74_ W86
  replace N_ := Fr.snoc X86 N_ g_b74
  clear X85 e85
  refine oDup 577 X86 hx (hb hby at_576) rfl rfl ?_
  refine oBi 579 X86 hx (hb hby at_577) 12 rfl rfl ?_
  refine oDl 581 X86 hx (hb hby at_579) rfl rfl ?_
  refine oDsD 582 X86 hx hZ e86 12 V_b74 (hb hby at_581) (by decide) rfl (by decide) rfl rfl fun T87 h87 X87 e87 W87 V_b74_ => ?_
  replace Zle := Nat.le_trans Zle (Keep.of_wr W87).1
  replace V_b1 := V_b1.other W87 ne_b1_b74
  replace V_b74 := V_b74_
  clear V_b74_ W87
  replace N_ := Fr.snoc X87 N_ g_b74
  clear X86 e86
  refine oDup 583 X87 hx (hb hby at_582) rfl rfl ?_
  refine oBi 585 X87 hx (hb hby at_583) 13 rfl rfl ?_
  refine oDl 587 X87 hx (hb hby at_585) rfl rfl ?_
  refine oDsD 588 X87 hx hZ e87 13 V_b74 (hb hby at_587) (by decide) rfl (by decide) rfl rfl fun T88 h88 X88 e88 W88 V_b74_ => ?_
  replace Zle := Nat.le_trans Zle (Keep.of_wr W88).1
  replace V_b1 := V_b1.other W88 ne_b1_b74
  replace V_b74 := V_b74_
  clear V_b74_ W88
  replace N_ := Fr.snoc X88 N_ g_b74
  clear X87 e87
  refine oDup 589 X88 hx (hb hby at_588) rfl rfl ?_
  refine oBi 591 X88 hx (hb hby at_589) 14 rfl rfl ?_
  refine oDl 593 X88 hx (hb hby at_591) rfl rfl ?_
  refine oDsD 594 X88 hx hZ e88 14 V_b74 (hb hby at_593) (by decide) rfl (by decide) rfl rfl fun T89 h89 X89 e89 W89 V_b74_ => ?_
  replace Zle := Nat.le_trans Zle (Keep.of_wr W89).1
  replace V_b1 := V_b1.other W89 ne_b1_b74
  replace V_b74 := V_b74_
  clear V_b74_ W89
  replace N_ := Fr.snoc X89 N_ g_b74
  clear X88 e88
  refine oDup 595 X89 hx (hb hby at_594) rfl rfl ?_
  refine oBi 597 X89 hx (hb hby at_595) 15 rfl rfl ?_
  refine oDl 599 X89 hx (hb hby at_597) rfl rfl ?_
  refine oDsD 600 X89 hx hZ e89 15 V_b74 (hb hby at_599) (by decide) rfl (by decide) rfl rfl fun T90 h90 X90 e90 W90 V_b74_ => ?_
  replace Zle := Nat.le_trans Zle (Keep.of_wr W90).1
  replace V_b1 := V_b1.other W90 ne_b1_b74
  replace V_b74 := V_b74_
  clear V_b74_ W90
  replace N_ := Fr.snoc X90 N_ g_b74
  clear X89 e89
  refine oDup 601 X90 hx (hb hby at_600) rfl rfl ?_
  refine oBi 603 X90 hx (hb hby at_601) 16 rfl rfl ?_
  refine oDl 605 X90 hx (hb hby at_603) rfl rfl ?_
  refine oDsD 606 X90 hx hZ e90 16 V_b74 (hb hby at_605) (by decide) rfl (by decide) rfl rfl fun T91 h91 X91 e91 W91 V_b74_ => ?_
  replace Zle := Nat.le_trans Zle (Keep.of_wr W91).1
  replace V_b1 := V_b1.other W91 ne_b1_b74
  replace V_b74 := V_b74_
  clear V_b74_ W91
  replace N_ := Fr.snoc X91 N_ g_b74
  clear X90 e90
  refine oDup 607 X91 hx (hb hby at_606) rfl rfl ?_
  refine oBi 609 X91 hx (hb hby at_607) 17 rfl rfl ?_
  refine oDl 611 X91 hx (hb hby at_609) rfl rfl ?_
  refine oDsD 612 X91 hx hZ e91 17 V_b74 (hb hby at_611) (by decide) rfl (by decide) rfl rfl fun T92 h92 X92 e92 W92 V_b74_ => ?_
  replace Zle := Nat.le_trans Zle (Keep.of_wr W92).1
  replace V_b1 := V_b1.other W92 ne_b1_b74
  replace V_b74 := V_b74_
  clear V_b74_ W92
  replace N_ := Fr.snoc X92 N_ g_b74
  clear X91 e91
  exact own_l612 l Z a0 hw hx hby hml hlk hret x1 x2 x3 x4 x5 x6 h0 n0  pl hl u0 u1 u2 u3 b1 k1 b74 k74 hZ hown (X92) e92 Zle N_ g_b1 V_b1 ne_b1_b74 g_b74 V_b74 e_pl b_pl e_hl b_hl e_u0 b_u0 e_u1 b_u1 e_u2 b_u2 e_u3 b_u3
set_option maxRecDepth 65536 in
set_option maxHeartbeats 40000000 in
theorem own_l396 (l : Launch) (Z : State) (a0 : Array Value) (hw : ∀ d ∈ tables_1, d.before a0 Z = true) {p : Program} {e : Env} {s : State} {m : MethodId} {below : List Frame} {meth : Method} {c : Code} (hx : p.tables.exec = Jvm.exec) (hby : c.code = code) (hml : c.maxLocals = 38) (hlk : meth.locks = false) (hret : meth.sig.returnType = ret) (x1 : Int32) (x2 : Int32) (x3 : Int32) (x4 : Int32) (x5 : Int32) (x6 : Int32) (h0 : Heap) (n0 : Nat) (pl : Int64) (hl : Int64) (u0 : Int64) (u1 : Int64) (u2 : Int64) (u3 : Int64) (b1 : Addr) (k1 : ClassId) {Tj : State} {hj : Heap} {locsj : List Loc}
    (hZ : Z.Warmed39 s.vm) (hown : s.vm.findClass "com/example/firebreak/firebreak/strategies/LazyMaxSumClearlyBetterPinLaw" = some m.cls) (Xj : Stand p l e room_1 s m #[(.int x1), (.int x2), (.int x3), (.int x4), (.int x5), (.int x6)] below meth c Tj locsj 1 72) (ej : Tj.heap = hj)
    (Zle : n0 ≤ hj.size) (N_ : Fr n0 locsj) (g_b1 : n0 ≤ b1) (V_b1 : Arv Z hj b1 k1 .double (72 : Int32) (own_Dl (own_e u0 u1 u2 pl) 54) (.double (FP.l2d 0))) (e_pl : pl = ((x1 >>> ((11 : Int32) &&& 31)).toInt64)) (b_pl : own_b20 pl) (e_hl : hl = ((x2 >>> ((11 : Int32) &&& 31)).toInt64)) (b_hl : own_b20 hl) (e_u0 : u0 = ((x3 >>> ((11 : Int32) &&& 31)).toInt64)) (b_u0 : own_b20 u0) (e_u1 : u1 = ((x4 >>> ((11 : Int32) &&& 31)).toInt64)) (b_u1 : own_b20 u1) (e_u2 : u2 = ((x5 >>> ((11 : Int32) &&& 31)).toInt64)) (b_u2 : own_b20 u2) (e_u3 : u3 = ((x6 >>> ((11 : Int32) &&& 31)).toInt64)) (b_u3 : own_b20 u3) : own_Goes p.tables e below s (Q0 Z x1 x2 x3 x4 x5 x6 h0 n0) room_1.cells room_1.slots Tj (mkF m 396 (Ls18 x1 x2 x3 x4 x5 x6 pl hl u0 u1 u2 u3 (FP.l2d pl) (FP.l2d hl) (FP.l2d u0) (FP.l2d u1) (FP.l2d u2) (FP.l2d u3)) [(.ref b1)]) := by
  refine oDup 397 Xj hx (hb hby at_396) rfl rfl ?_
  refine oBi 399 Xj hx (hb hby at_397) 54 rfl rfl ?_
  refine oDl 401 Xj hx (hb hby at_399) rfl rfl ?_
  refine oDsD 402 Xj hx hZ ej 54 V_b1 (hb hby at_401) (by decide) rfl (by decide) rfl rfl fun T56 h56 X56 e56 W56 V_b1_ => ?_
  replace Zle := Nat.le_trans Zle (Keep.of_wr W56).1
  replace V_b1 := V_b1_
  clear V_b1_ W56
  replace N_ := Fr.snoc X56 N_ g_b1
  refine oDup 403 X56 hx (hb hby at_402) rfl rfl ?_
  refine oBi 405 X56 hx (hb hby at_403) 55 rfl rfl ?_
  refine oDl 407 X56 hx (hb hby at_405) rfl rfl ?_
  refine oDsD 408 X56 hx hZ e56 55 V_b1 (hb hby at_407) (by decide) rfl (by decide) rfl rfl fun T57 h57 X57 e57 W57 V_b1_ => ?_
  replace Zle := Nat.le_trans Zle (Keep.of_wr W57).1
  replace V_b1 := V_b1_
  clear V_b1_ W57
  replace N_ := Fr.snoc X57 N_ g_b1
  clear X56 e56
  refine oDup 409 X57 hx (hb hby at_408) rfl rfl ?_
  refine oBi 411 X57 hx (hb hby at_409) 56 rfl rfl ?_
  refine oDl 413 X57 hx (hb hby at_411) rfl rfl ?_
  refine oDsD 414 X57 hx hZ e57 56 V_b1 (hb hby at_413) (by decide) rfl (by decide) rfl rfl fun T58 h58 X58 e58 W58 V_b1_ => ?_
  replace Zle := Nat.le_trans Zle (Keep.of_wr W58).1
  replace V_b1 := V_b1_
  clear V_b1_ W58
  replace N_ := Fr.snoc X58 N_ g_b1
  clear X57 e57
  refine oDup 415 X58 hx (hb hby at_414) rfl rfl ?_
  refine oBi 417 X58 hx (hb hby at_415) 57 rfl rfl ?_
  refine oDl 419 X58 hx (hb hby at_417) rfl rfl ?_
  refine oDsD 420 X58 hx hZ e58 57 V_b1 (hb hby at_419) (by decide) rfl (by decide) rfl rfl fun T59 h59 X59 e59 W59 V_b1_ => ?_
  replace Zle := Nat.le_trans Zle (Keep.of_wr W59).1
  replace V_b1 := V_b1_
  clear V_b1_ W59
  replace N_ := Fr.snoc X59 N_ g_b1
  clear X58 e58
  refine oDup 421 X59 hx (hb hby at_420) rfl rfl ?_
  refine oBi 423 X59 hx (hb hby at_421) 58 rfl rfl ?_
  refine oDl 425 X59 hx (hb hby at_423) rfl rfl ?_
  refine oDsD 426 X59 hx hZ e59 58 V_b1 (hb hby at_425) (by decide) rfl (by decide) rfl rfl fun T60 h60 X60 e60 W60 V_b1_ => ?_
  replace Zle := Nat.le_trans Zle (Keep.of_wr W60).1
  replace V_b1 := V_b1_
  clear V_b1_ W60
  replace N_ := Fr.snoc X60 N_ g_b1
  clear X59 e59
  refine oDup 427 X60 hx (hb hby at_426) rfl rfl ?_
  refine oBi 429 X60 hx (hb hby at_427) 59 rfl rfl ?_
  refine oDl 431 X60 hx (hb hby at_429) rfl rfl ?_
  refine oDsD 432 X60 hx hZ e60 59 V_b1 (hb hby at_431) (by decide) rfl (by decide) rfl rfl fun T61 h61 X61 e61 W61 V_b1_ => ?_
  replace Zle := Nat.le_trans Zle (Keep.of_wr W61).1
  replace V_b1 := V_b1_
  clear V_b1_ W61
  replace N_ := Fr.snoc X61 N_ g_b1
  clear X60 e60
  refine oDup 433 X61 hx (hb hby at_432) rfl rfl ?_
  refine oBi 435 X61 hx (hb hby at_433) 60 rfl rfl ?_
  refine oDl 437 X61 hx (hb hby at_435) rfl rfl ?_
  refine oDsD 438 X61 hx hZ e61 60 V_b1 (hb hby at_437) (by decide) rfl (by decide) rfl rfl fun T62 h62 X62 e62 W62 V_b1_ => ?_
  replace Zle := Nat.le_trans Zle (Keep.of_wr W62).1
  replace V_b1 := V_b1_
  clear V_b1_ W62
  replace N_ := Fr.snoc X62 N_ g_b1
  clear X61 e61
  refine oDup 439 X62 hx (hb hby at_438) rfl rfl ?_
  refine oBi 441 X62 hx (hb hby at_439) 61 rfl rfl ?_
  refine oDl 443 X62 hx (hb hby at_441) rfl rfl ?_
  refine oDsD 444 X62 hx hZ e62 61 V_b1 (hb hby at_443) (by decide) rfl (by decide) rfl rfl fun T63 h63 X63 e63 W63 V_b1_ => ?_
  replace Zle := Nat.le_trans Zle (Keep.of_wr W63).1
  replace V_b1 := V_b1_
  clear V_b1_ W63
  replace N_ := Fr.snoc X63 N_ g_b1
  clear X62 e62
  refine oDup 445 X63 hx (hb hby at_444) rfl rfl ?_
  refine oBi 447 X63 hx (hb hby at_445) 62 rfl rfl ?_
  refine oDl 449 X63 hx (hb hby at_447) rfl rfl ?_
  refine oDsD 450 X63 hx hZ e63 62 V_b1 (hb hby at_449) (by decide) rfl (by decide) rfl rfl fun T64 h64 X64 e64 W64 V_b1_ => ?_
  replace Zle := Nat.le_trans Zle (Keep.of_wr W64).1
  replace V_b1 := V_b1_
  clear V_b1_ W64
  replace N_ := Fr.snoc X64 N_ g_b1
  clear X63 e63
  refine oDup 451 X64 hx (hb hby at_450) rfl rfl ?_
  refine oBi 453 X64 hx (hb hby at_451) 63 rfl rfl ?_
  refine oDl 455 X64 hx (hb hby at_453) rfl rfl ?_
  refine oDsD 456 X64 hx hZ e64 63 V_b1 (hb hby at_455) (by decide) rfl (by decide) rfl rfl fun T65 h65 X65 e65 W65 V_b1_ => ?_
  replace Zle := Nat.le_trans Zle (Keep.of_wr W65).1
  replace V_b1 := V_b1_
  clear V_b1_ W65
  replace N_ := Fr.snoc X65 N_ g_b1
  clear X64 e64
  refine oDup 457 X65 hx (hb hby at_456) rfl rfl ?_
  refine oBi 459 X65 hx (hb hby at_457) 64 rfl rfl ?_
  refine oDl 461 X65 hx (hb hby at_459) rfl rfl ?_
  refine oDsD 462 X65 hx hZ e65 64 V_b1 (hb hby at_461) (by decide) rfl (by decide) rfl rfl fun T66 h66 X66 e66 W66 V_b1_ => ?_
  replace Zle := Nat.le_trans Zle (Keep.of_wr W66).1
  replace V_b1 := V_b1_
  clear V_b1_ W66
  replace N_ := Fr.snoc X66 N_ g_b1
  clear X65 e65
  refine oDup 463 X66 hx (hb hby at_462) rfl rfl ?_
  refine oBi 465 X66 hx (hb hby at_463) 65 rfl rfl ?_
  refine oDl 467 X66 hx (hb hby at_465) rfl rfl ?_
  refine oDsD 468 X66 hx hZ e66 65 V_b1 (hb hby at_467) (by decide) rfl (by decide) rfl rfl fun T67 h67 X67 e67 W67 V_b1_ => ?_
  replace Zle := Nat.le_trans Zle (Keep.of_wr W67).1
  replace V_b1 := V_b1_
  clear V_b1_ W67
  replace N_ := Fr.snoc X67 N_ g_b1
  clear X66 e66
  refine oDup 469 X67 hx (hb hby at_468) rfl rfl ?_
  refine oBi 471 X67 hx (hb hby at_469) 66 rfl rfl ?_
  refine oDl 473 X67 hx (hb hby at_471) rfl rfl ?_
  refine oDsD 474 X67 hx hZ e67 66 V_b1 (hb hby at_473) (by decide) rfl (by decide) rfl rfl fun T68 h68 X68 e68 W68 V_b1_ => ?_
  replace Zle := Nat.le_trans Zle (Keep.of_wr W68).1
  replace V_b1 := V_b1_
  clear V_b1_ W68
  replace N_ := Fr.snoc X68 N_ g_b1
  clear X67 e67
  refine oDup 475 X68 hx (hb hby at_474) rfl rfl ?_
  refine oBi 477 X68 hx (hb hby at_475) 67 rfl rfl ?_
  refine oDl 479 X68 hx (hb hby at_477) rfl rfl ?_
  refine oDsD 480 X68 hx hZ e68 67 V_b1 (hb hby at_479) (by decide) rfl (by decide) rfl rfl fun T69 h69 X69 e69 W69 V_b1_ => ?_
  replace Zle := Nat.le_trans Zle (Keep.of_wr W69).1
  replace V_b1 := V_b1_
  clear V_b1_ W69
  replace N_ := Fr.snoc X69 N_ g_b1
  clear X68 e68
  refine oDup 481 X69 hx (hb hby at_480) rfl rfl ?_
  refine oBi 483 X69 hx (hb hby at_481) 68 rfl rfl ?_
  refine oDl 485 X69 hx (hb hby at_483) rfl rfl ?_
  refine oDsD 486 X69 hx hZ e69 68 V_b1 (hb hby at_485) (by decide) rfl (by decide) rfl rfl fun T70 h70 X70 e70 W70 V_b1_ => ?_
  replace Zle := Nat.le_trans Zle (Keep.of_wr W70).1
  replace V_b1 := V_b1_
  clear V_b1_ W70
  replace N_ := Fr.snoc X70 N_ g_b1
  clear X69 e69
  refine oDup 487 X70 hx (hb hby at_486) rfl rfl ?_
  refine oBi 489 X70 hx (hb hby at_487) 69 rfl rfl ?_
  refine oDl 491 X70 hx (hb hby at_489) rfl rfl ?_
  refine oDsD 492 X70 hx hZ e70 69 V_b1 (hb hby at_491) (by decide) rfl (by decide) rfl rfl fun T71 h71 X71 e71 W71 V_b1_ => ?_
  replace Zle := Nat.le_trans Zle (Keep.of_wr W71).1
  replace V_b1 := V_b1_
  clear V_b1_ W71
  replace N_ := Fr.snoc X71 N_ g_b1
  clear X70 e70
  refine oDup 493 X71 hx (hb hby at_492) rfl rfl ?_
  refine oBi 495 X71 hx (hb hby at_493) 70 rfl rfl ?_
  refine oDl 497 X71 hx (hb hby at_495) rfl rfl ?_
  refine oDsD 498 X71 hx hZ e71 70 V_b1 (hb hby at_497) (by decide) rfl (by decide) rfl rfl fun T72 h72 X72 e72 W72 V_b1_ => ?_
  replace Zle := Nat.le_trans Zle (Keep.of_wr W72).1
  replace V_b1 := V_b1_
  clear V_b1_ W72
  replace N_ := Fr.snoc X72 N_ g_b1
  clear X71 e71
  refine oDup 499 X72 hx (hb hby at_498) rfl rfl ?_
  refine oBi 501 X72 hx (hb hby at_499) 71 rfl rfl ?_
  refine oDl 503 X72 hx (hb hby at_501) rfl rfl ?_
  refine oDsD 504 X72 hx hZ e72 71 V_b1 (hb hby at_503) (by decide) rfl (by decide) rfl rfl fun T73 h73 X73 e73 W73 V_b1_ => ?_
  replace Zle := Nat.le_trans Zle (Keep.of_wr W73).1
  replace V_b1 := V_b1_
  clear V_b1_ W73
  replace N_ := Fr.snoc X73 N_ g_b1
  clear X72 e72
  refine oAst 506 X73 hx (hb hby at_504) (Ls19 x1 x2 x3 x4 x5 x6 pl hl u0 u1 u2 u3 (FP.l2d pl) (FP.l2d hl) (FP.l2d u0) (FP.l2d u1) (FP.l2d u2) (FP.l2d u3) b1) rfl rfl ?_
  exact own_l506 l Z a0 hw hx hby hml hlk hret x1 x2 x3 x4 x5 x6 h0 n0  pl hl u0 u1 u2 u3 b1 k1 hZ hown (X73) e73 Zle N_ g_b1 V_b1 e_pl b_pl e_hl b_hl e_u0 b_u0 e_u1 b_u1 e_u2 b_u2 e_u3 b_u3
set_option maxRecDepth 65536 in
set_option maxHeartbeats 40000000 in
theorem own_l288 (l : Launch) (Z : State) (a0 : Array Value) (hw : ∀ d ∈ tables_1, d.before a0 Z = true) {p : Program} {e : Env} {s : State} {m : MethodId} {below : List Frame} {meth : Method} {c : Code} (hx : p.tables.exec = Jvm.exec) (hby : c.code = code) (hml : c.maxLocals = 38) (hlk : meth.locks = false) (hret : meth.sig.returnType = ret) (x1 : Int32) (x2 : Int32) (x3 : Int32) (x4 : Int32) (x5 : Int32) (x6 : Int32) (h0 : Heap) (n0 : Nat) (pl : Int64) (hl : Int64) (u0 : Int64) (u1 : Int64) (u2 : Int64) (u3 : Int64) (b1 : Addr) (k1 : ClassId) {Tj : State} {hj : Heap} {locsj : List Loc}
    (hZ : Z.Warmed39 s.vm) (hown : s.vm.findClass "com/example/firebreak/firebreak/strategies/LazyMaxSumClearlyBetterPinLaw" = some m.cls) (Xj : Stand p l e room_1 s m #[(.int x1), (.int x2), (.int x3), (.int x4), (.int x5), (.int x6)] below meth c Tj locsj 1 72) (ej : Tj.heap = hj)
    (Zle : n0 ≤ hj.size) (N_ : Fr n0 locsj) (g_b1 : n0 ≤ b1) (V_b1 : Arv Z hj b1 k1 .double (72 : Int32) (own_Dl (own_e u0 u1 u2 pl) 36) (.double (FP.l2d 0))) (e_pl : pl = ((x1 >>> ((11 : Int32) &&& 31)).toInt64)) (b_pl : own_b20 pl) (e_hl : hl = ((x2 >>> ((11 : Int32) &&& 31)).toInt64)) (b_hl : own_b20 hl) (e_u0 : u0 = ((x3 >>> ((11 : Int32) &&& 31)).toInt64)) (b_u0 : own_b20 u0) (e_u1 : u1 = ((x4 >>> ((11 : Int32) &&& 31)).toInt64)) (b_u1 : own_b20 u1) (e_u2 : u2 = ((x5 >>> ((11 : Int32) &&& 31)).toInt64)) (b_u2 : own_b20 u2) (e_u3 : u3 = ((x6 >>> ((11 : Int32) &&& 31)).toInt64)) (b_u3 : own_b20 u3) : own_Goes p.tables e below s (Q0 Z x1 x2 x3 x4 x5 x6 h0 n0) room_1.cells room_1.slots Tj (mkF m 288 (Ls18 x1 x2 x3 x4 x5 x6 pl hl u0 u1 u2 u3 (FP.l2d pl) (FP.l2d hl) (FP.l2d u0) (FP.l2d u1) (FP.l2d u2) (FP.l2d u3)) [(.ref b1)]) := by
  refine oDup 289 Xj hx (hb hby at_288) rfl rfl ?_
  refine oBi 291 Xj hx (hb hby at_289) 36 rfl rfl ?_
  refine oDl 293 Xj hx (hb hby at_291) rfl rfl ?_
  refine oDsD 294 Xj hx hZ ej 36 V_b1 (hb hby at_293) (by decide) rfl (by decide) rfl rfl fun T38 h38 X38 e38 W38 V_b1_ => ?_
  replace Zle := Nat.le_trans Zle (Keep.of_wr W38).1
  replace V_b1 := V_b1_
  clear V_b1_ W38
  replace N_ := Fr.snoc X38 N_ g_b1
  refine oDup 295 X38 hx (hb hby at_294) rfl rfl ?_
  refine oBi 297 X38 hx (hb hby at_295) 37 rfl rfl ?_
  refine oDl 299 X38 hx (hb hby at_297) rfl rfl ?_
  refine oDsD 300 X38 hx hZ e38 37 V_b1 (hb hby at_299) (by decide) rfl (by decide) rfl rfl fun T39 h39 X39 e39 W39 V_b1_ => ?_
  replace Zle := Nat.le_trans Zle (Keep.of_wr W39).1
  replace V_b1 := V_b1_
  clear V_b1_ W39
  replace N_ := Fr.snoc X39 N_ g_b1
  clear X38 e38
  refine oDup 301 X39 hx (hb hby at_300) rfl rfl ?_
  refine oBi 303 X39 hx (hb hby at_301) 38 rfl rfl ?_
  refine oDl 305 X39 hx (hb hby at_303) rfl rfl ?_
  refine oDsD 306 X39 hx hZ e39 38 V_b1 (hb hby at_305) (by decide) rfl (by decide) rfl rfl fun T40 h40 X40 e40 W40 V_b1_ => ?_
  replace Zle := Nat.le_trans Zle (Keep.of_wr W40).1
  replace V_b1 := V_b1_
  clear V_b1_ W40
  replace N_ := Fr.snoc X40 N_ g_b1
  clear X39 e39
  refine oDup 307 X40 hx (hb hby at_306) rfl rfl ?_
  refine oBi 309 X40 hx (hb hby at_307) 39 rfl rfl ?_
  refine oDl 311 X40 hx (hb hby at_309) rfl rfl ?_
  refine oDsD 312 X40 hx hZ e40 39 V_b1 (hb hby at_311) (by decide) rfl (by decide) rfl rfl fun T41 h41 X41 e41 W41 V_b1_ => ?_
  replace Zle := Nat.le_trans Zle (Keep.of_wr W41).1
  replace V_b1 := V_b1_
  clear V_b1_ W41
  replace N_ := Fr.snoc X41 N_ g_b1
  clear X40 e40
  refine oDup 313 X41 hx (hb hby at_312) rfl rfl ?_
  refine oBi 315 X41 hx (hb hby at_313) 40 rfl rfl ?_
  refine oDl 317 X41 hx (hb hby at_315) rfl rfl ?_
  refine oDsD 318 X41 hx hZ e41 40 V_b1 (hb hby at_317) (by decide) rfl (by decide) rfl rfl fun T42 h42 X42 e42 W42 V_b1_ => ?_
  replace Zle := Nat.le_trans Zle (Keep.of_wr W42).1
  replace V_b1 := V_b1_
  clear V_b1_ W42
  replace N_ := Fr.snoc X42 N_ g_b1
  clear X41 e41
  refine oDup 319 X42 hx (hb hby at_318) rfl rfl ?_
  refine oBi 321 X42 hx (hb hby at_319) 41 rfl rfl ?_
  refine oDl 323 X42 hx (hb hby at_321) rfl rfl ?_
  refine oDsD 324 X42 hx hZ e42 41 V_b1 (hb hby at_323) (by decide) rfl (by decide) rfl rfl fun T43 h43 X43 e43 W43 V_b1_ => ?_
  replace Zle := Nat.le_trans Zle (Keep.of_wr W43).1
  replace V_b1 := V_b1_
  clear V_b1_ W43
  replace N_ := Fr.snoc X43 N_ g_b1
  clear X42 e42
  refine oDup 325 X43 hx (hb hby at_324) rfl rfl ?_
  refine oBi 327 X43 hx (hb hby at_325) 42 rfl rfl ?_
  refine oDl 329 X43 hx (hb hby at_327) rfl rfl ?_
  refine oDsD 330 X43 hx hZ e43 42 V_b1 (hb hby at_329) (by decide) rfl (by decide) rfl rfl fun T44 h44 X44 e44 W44 V_b1_ => ?_
  replace Zle := Nat.le_trans Zle (Keep.of_wr W44).1
  replace V_b1 := V_b1_
  clear V_b1_ W44
  replace N_ := Fr.snoc X44 N_ g_b1
  clear X43 e43
  refine oDup 331 X44 hx (hb hby at_330) rfl rfl ?_
  refine oBi 333 X44 hx (hb hby at_331) 43 rfl rfl ?_
  refine oDl 335 X44 hx (hb hby at_333) rfl rfl ?_
  refine oDsD 336 X44 hx hZ e44 43 V_b1 (hb hby at_335) (by decide) rfl (by decide) rfl rfl fun T45 h45 X45 e45 W45 V_b1_ => ?_
  replace Zle := Nat.le_trans Zle (Keep.of_wr W45).1
  replace V_b1 := V_b1_
  clear V_b1_ W45
  replace N_ := Fr.snoc X45 N_ g_b1
  clear X44 e44
  refine oDup 337 X45 hx (hb hby at_336) rfl rfl ?_
  refine oBi 339 X45 hx (hb hby at_337) 44 rfl rfl ?_
  refine oDl 341 X45 hx (hb hby at_339) rfl rfl ?_
  refine oDsD 342 X45 hx hZ e45 44 V_b1 (hb hby at_341) (by decide) rfl (by decide) rfl rfl fun T46 h46 X46 e46 W46 V_b1_ => ?_
  replace Zle := Nat.le_trans Zle (Keep.of_wr W46).1
  replace V_b1 := V_b1_
  clear V_b1_ W46
  replace N_ := Fr.snoc X46 N_ g_b1
  clear X45 e45
  refine oDup 343 X46 hx (hb hby at_342) rfl rfl ?_
  refine oBi 345 X46 hx (hb hby at_343) 45 rfl rfl ?_
  refine oDl 347 X46 hx (hb hby at_345) rfl rfl ?_
  refine oDsD 348 X46 hx hZ e46 45 V_b1 (hb hby at_347) (by decide) rfl (by decide) rfl rfl fun T47 h47 X47 e47 W47 V_b1_ => ?_
  replace Zle := Nat.le_trans Zle (Keep.of_wr W47).1
  replace V_b1 := V_b1_
  clear V_b1_ W47
  replace N_ := Fr.snoc X47 N_ g_b1
  clear X46 e46
  refine oDup 349 X47 hx (hb hby at_348) rfl rfl ?_
  refine oBi 351 X47 hx (hb hby at_349) 46 rfl rfl ?_
  refine oDl 353 X47 hx (hb hby at_351) rfl rfl ?_
  refine oDsD 354 X47 hx hZ e47 46 V_b1 (hb hby at_353) (by decide) rfl (by decide) rfl rfl fun T48 h48 X48 e48 W48 V_b1_ => ?_
  replace Zle := Nat.le_trans Zle (Keep.of_wr W48).1
  replace V_b1 := V_b1_
  clear V_b1_ W48
  replace N_ := Fr.snoc X48 N_ g_b1
  clear X47 e47
  refine oDup 355 X48 hx (hb hby at_354) rfl rfl ?_
  refine oBi 357 X48 hx (hb hby at_355) 47 rfl rfl ?_
  refine oDl 359 X48 hx (hb hby at_357) rfl rfl ?_
  refine oDsD 360 X48 hx hZ e48 47 V_b1 (hb hby at_359) (by decide) rfl (by decide) rfl rfl fun T49 h49 X49 e49 W49 V_b1_ => ?_
  replace Zle := Nat.le_trans Zle (Keep.of_wr W49).1
  replace V_b1 := V_b1_
  clear V_b1_ W49
  replace N_ := Fr.snoc X49 N_ g_b1
  clear X48 e48
  refine oDup 361 X49 hx (hb hby at_360) rfl rfl ?_
  refine oBi 363 X49 hx (hb hby at_361) 48 rfl rfl ?_
  refine oDl 365 X49 hx (hb hby at_363) rfl rfl ?_
  refine oDsD 366 X49 hx hZ e49 48 V_b1 (hb hby at_365) (by decide) rfl (by decide) rfl rfl fun T50 h50 X50 e50 W50 V_b1_ => ?_
  replace Zle := Nat.le_trans Zle (Keep.of_wr W50).1
  replace V_b1 := V_b1_
  clear V_b1_ W50
  replace N_ := Fr.snoc X50 N_ g_b1
  clear X49 e49
  refine oDup 367 X50 hx (hb hby at_366) rfl rfl ?_
  refine oBi 369 X50 hx (hb hby at_367) 49 rfl rfl ?_
  refine oDl 371 X50 hx (hb hby at_369) rfl rfl ?_
  refine oDsD 372 X50 hx hZ e50 49 V_b1 (hb hby at_371) (by decide) rfl (by decide) rfl rfl fun T51 h51 X51 e51 W51 V_b1_ => ?_
  replace Zle := Nat.le_trans Zle (Keep.of_wr W51).1
  replace V_b1 := V_b1_
  clear V_b1_ W51
  replace N_ := Fr.snoc X51 N_ g_b1
  clear X50 e50
  refine oDup 373 X51 hx (hb hby at_372) rfl rfl ?_
  refine oBi 375 X51 hx (hb hby at_373) 50 rfl rfl ?_
  refine oDl 377 X51 hx (hb hby at_375) rfl rfl ?_
  refine oDsD 378 X51 hx hZ e51 50 V_b1 (hb hby at_377) (by decide) rfl (by decide) rfl rfl fun T52 h52 X52 e52 W52 V_b1_ => ?_
  replace Zle := Nat.le_trans Zle (Keep.of_wr W52).1
  replace V_b1 := V_b1_
  clear V_b1_ W52
  replace N_ := Fr.snoc X52 N_ g_b1
  clear X51 e51
  refine oDup 379 X52 hx (hb hby at_378) rfl rfl ?_
  refine oBi 381 X52 hx (hb hby at_379) 51 rfl rfl ?_
  refine oDl 383 X52 hx (hb hby at_381) rfl rfl ?_
  refine oDsD 384 X52 hx hZ e52 51 V_b1 (hb hby at_383) (by decide) rfl (by decide) rfl rfl fun T53 h53 X53 e53 W53 V_b1_ => ?_
  replace Zle := Nat.le_trans Zle (Keep.of_wr W53).1
  replace V_b1 := V_b1_
  clear V_b1_ W53
  replace N_ := Fr.snoc X53 N_ g_b1
  clear X52 e52
  refine oDup 385 X53 hx (hb hby at_384) rfl rfl ?_
  refine oBi 387 X53 hx (hb hby at_385) 52 rfl rfl ?_
  refine oDl 389 X53 hx (hb hby at_387) rfl rfl ?_
  refine oDsD 390 X53 hx hZ e53 52 V_b1 (hb hby at_389) (by decide) rfl (by decide) rfl rfl fun T54 h54 X54 e54 W54 V_b1_ => ?_
  replace Zle := Nat.le_trans Zle (Keep.of_wr W54).1
  replace V_b1 := V_b1_
  clear V_b1_ W54
  replace N_ := Fr.snoc X54 N_ g_b1
  clear X53 e53
  refine oDup 391 X54 hx (hb hby at_390) rfl rfl ?_
  refine oBi 393 X54 hx (hb hby at_391) 53 rfl rfl ?_
  refine oDl 395 X54 hx (hb hby at_393) rfl rfl ?_
  refine oDsD 396 X54 hx hZ e54 53 V_b1 (hb hby at_395) (by decide) rfl (by decide) rfl rfl fun T55 h55 X55 e55 W55 V_b1_ => ?_
  replace Zle := Nat.le_trans Zle (Keep.of_wr W55).1
  replace V_b1 := V_b1_
  clear V_b1_ W55
  replace N_ := Fr.snoc X55 N_ g_b1
  clear X54 e54
  exact own_l396 l Z a0 hw hx hby hml hlk hret x1 x2 x3 x4 x5 x6 h0 n0  pl hl u0 u1 u2 u3 b1 k1 hZ hown (X55) e55 Zle N_ g_b1 V_b1 e_pl b_pl e_hl b_hl e_u0 b_u0 e_u1 b_u1 e_u2 b_u2 e_u3 b_u3
set_option maxRecDepth 65536 in
set_option maxHeartbeats 40000000 in
theorem own_l180 (l : Launch) (Z : State) (a0 : Array Value) (hw : ∀ d ∈ tables_1, d.before a0 Z = true) {p : Program} {e : Env} {s : State} {m : MethodId} {below : List Frame} {meth : Method} {c : Code} (hx : p.tables.exec = Jvm.exec) (hby : c.code = code) (hml : c.maxLocals = 38) (hlk : meth.locks = false) (hret : meth.sig.returnType = ret) (x1 : Int32) (x2 : Int32) (x3 : Int32) (x4 : Int32) (x5 : Int32) (x6 : Int32) (h0 : Heap) (n0 : Nat) (pl : Int64) (hl : Int64) (u0 : Int64) (u1 : Int64) (u2 : Int64) (u3 : Int64) (b1 : Addr) (k1 : ClassId) {Tj : State} {hj : Heap} {locsj : List Loc}
    (hZ : Z.Warmed39 s.vm) (hown : s.vm.findClass "com/example/firebreak/firebreak/strategies/LazyMaxSumClearlyBetterPinLaw" = some m.cls) (Xj : Stand p l e room_1 s m #[(.int x1), (.int x2), (.int x3), (.int x4), (.int x5), (.int x6)] below meth c Tj locsj 1 72) (ej : Tj.heap = hj)
    (Zle : n0 ≤ hj.size) (N_ : Fr n0 locsj) (g_b1 : n0 ≤ b1) (V_b1 : Arv Z hj b1 k1 .double (72 : Int32) (own_Dl (own_e u0 u1 u2 pl) 18) (.double (FP.l2d 0))) (e_pl : pl = ((x1 >>> ((11 : Int32) &&& 31)).toInt64)) (b_pl : own_b20 pl) (e_hl : hl = ((x2 >>> ((11 : Int32) &&& 31)).toInt64)) (b_hl : own_b20 hl) (e_u0 : u0 = ((x3 >>> ((11 : Int32) &&& 31)).toInt64)) (b_u0 : own_b20 u0) (e_u1 : u1 = ((x4 >>> ((11 : Int32) &&& 31)).toInt64)) (b_u1 : own_b20 u1) (e_u2 : u2 = ((x5 >>> ((11 : Int32) &&& 31)).toInt64)) (b_u2 : own_b20 u2) (e_u3 : u3 = ((x6 >>> ((11 : Int32) &&& 31)).toInt64)) (b_u3 : own_b20 u3) : own_Goes p.tables e below s (Q0 Z x1 x2 x3 x4 x5 x6 h0 n0) room_1.cells room_1.slots Tj (mkF m 180 (Ls18 x1 x2 x3 x4 x5 x6 pl hl u0 u1 u2 u3 (FP.l2d pl) (FP.l2d hl) (FP.l2d u0) (FP.l2d u1) (FP.l2d u2) (FP.l2d u3)) [(.ref b1)]) := by
  refine oDup 181 Xj hx (hb hby at_180) rfl rfl ?_
  refine oBi 183 Xj hx (hb hby at_181) 18 rfl rfl ?_
  refine oDl 185 Xj hx (hb hby at_183) rfl rfl ?_
  refine oDsD 186 Xj hx hZ ej 18 V_b1 (hb hby at_185) (by decide) rfl (by decide) rfl rfl fun T20 h20 X20 e20 W20 V_b1_ => ?_
  replace Zle := Nat.le_trans Zle (Keep.of_wr W20).1
  replace V_b1 := V_b1_
  clear V_b1_ W20
  replace N_ := Fr.snoc X20 N_ g_b1
  refine oDup 187 X20 hx (hb hby at_186) rfl rfl ?_
  refine oBi 189 X20 hx (hb hby at_187) 19 rfl rfl ?_
  refine oDl 191 X20 hx (hb hby at_189) rfl rfl ?_
  refine oDsD 192 X20 hx hZ e20 19 V_b1 (hb hby at_191) (by decide) rfl (by decide) rfl rfl fun T21 h21 X21 e21 W21 V_b1_ => ?_
  replace Zle := Nat.le_trans Zle (Keep.of_wr W21).1
  replace V_b1 := V_b1_
  clear V_b1_ W21
  replace N_ := Fr.snoc X21 N_ g_b1
  clear X20 e20
  refine oDup 193 X21 hx (hb hby at_192) rfl rfl ?_
  refine oBi 195 X21 hx (hb hby at_193) 20 rfl rfl ?_
  refine oDl 197 X21 hx (hb hby at_195) rfl rfl ?_
  refine oDsD 198 X21 hx hZ e21 20 V_b1 (hb hby at_197) (by decide) rfl (by decide) rfl rfl fun T22 h22 X22 e22 W22 V_b1_ => ?_
  replace Zle := Nat.le_trans Zle (Keep.of_wr W22).1
  replace V_b1 := V_b1_
  clear V_b1_ W22
  replace N_ := Fr.snoc X22 N_ g_b1
  clear X21 e21
  refine oDup 199 X22 hx (hb hby at_198) rfl rfl ?_
  refine oBi 201 X22 hx (hb hby at_199) 21 rfl rfl ?_
  refine oDl 203 X22 hx (hb hby at_201) rfl rfl ?_
  refine oDsD 204 X22 hx hZ e22 21 V_b1 (hb hby at_203) (by decide) rfl (by decide) rfl rfl fun T23 h23 X23 e23 W23 V_b1_ => ?_
  replace Zle := Nat.le_trans Zle (Keep.of_wr W23).1
  replace V_b1 := V_b1_
  clear V_b1_ W23
  replace N_ := Fr.snoc X23 N_ g_b1
  clear X22 e22
  refine oDup 205 X23 hx (hb hby at_204) rfl rfl ?_
  refine oBi 207 X23 hx (hb hby at_205) 22 rfl rfl ?_
  refine oDl 209 X23 hx (hb hby at_207) rfl rfl ?_
  refine oDsD 210 X23 hx hZ e23 22 V_b1 (hb hby at_209) (by decide) rfl (by decide) rfl rfl fun T24 h24 X24 e24 W24 V_b1_ => ?_
  replace Zle := Nat.le_trans Zle (Keep.of_wr W24).1
  replace V_b1 := V_b1_
  clear V_b1_ W24
  replace N_ := Fr.snoc X24 N_ g_b1
  clear X23 e23
  refine oDup 211 X24 hx (hb hby at_210) rfl rfl ?_
  refine oBi 213 X24 hx (hb hby at_211) 23 rfl rfl ?_
  refine oDl 215 X24 hx (hb hby at_213) rfl rfl ?_
  refine oDsD 216 X24 hx hZ e24 23 V_b1 (hb hby at_215) (by decide) rfl (by decide) rfl rfl fun T25 h25 X25 e25 W25 V_b1_ => ?_
  replace Zle := Nat.le_trans Zle (Keep.of_wr W25).1
  replace V_b1 := V_b1_
  clear V_b1_ W25
  replace N_ := Fr.snoc X25 N_ g_b1
  clear X24 e24
  refine oDup 217 X25 hx (hb hby at_216) rfl rfl ?_
  refine oBi 219 X25 hx (hb hby at_217) 24 rfl rfl ?_
  refine oDl 221 X25 hx (hb hby at_219) rfl rfl ?_
  refine oDsD 222 X25 hx hZ e25 24 V_b1 (hb hby at_221) (by decide) rfl (by decide) rfl rfl fun T26 h26 X26 e26 W26 V_b1_ => ?_
  replace Zle := Nat.le_trans Zle (Keep.of_wr W26).1
  replace V_b1 := V_b1_
  clear V_b1_ W26
  replace N_ := Fr.snoc X26 N_ g_b1
  clear X25 e25
  refine oDup 223 X26 hx (hb hby at_222) rfl rfl ?_
  refine oBi 225 X26 hx (hb hby at_223) 25 rfl rfl ?_
  refine oDl 227 X26 hx (hb hby at_225) rfl rfl ?_
  refine oDsD 228 X26 hx hZ e26 25 V_b1 (hb hby at_227) (by decide) rfl (by decide) rfl rfl fun T27 h27 X27 e27 W27 V_b1_ => ?_
  replace Zle := Nat.le_trans Zle (Keep.of_wr W27).1
  replace V_b1 := V_b1_
  clear V_b1_ W27
  replace N_ := Fr.snoc X27 N_ g_b1
  clear X26 e26
  refine oDup 229 X27 hx (hb hby at_228) rfl rfl ?_
  refine oBi 231 X27 hx (hb hby at_229) 26 rfl rfl ?_
  refine oDl 233 X27 hx (hb hby at_231) rfl rfl ?_
  refine oDsD 234 X27 hx hZ e27 26 V_b1 (hb hby at_233) (by decide) rfl (by decide) rfl rfl fun T28 h28 X28 e28 W28 V_b1_ => ?_
  replace Zle := Nat.le_trans Zle (Keep.of_wr W28).1
  replace V_b1 := V_b1_
  clear V_b1_ W28
  replace N_ := Fr.snoc X28 N_ g_b1
  clear X27 e27
  refine oDup 235 X28 hx (hb hby at_234) rfl rfl ?_
  refine oBi 237 X28 hx (hb hby at_235) 27 rfl rfl ?_
  refine oDl 239 X28 hx (hb hby at_237) rfl rfl ?_
  refine oDsD 240 X28 hx hZ e28 27 V_b1 (hb hby at_239) (by decide) rfl (by decide) rfl rfl fun T29 h29 X29 e29 W29 V_b1_ => ?_
  replace Zle := Nat.le_trans Zle (Keep.of_wr W29).1
  replace V_b1 := V_b1_
  clear V_b1_ W29
  replace N_ := Fr.snoc X29 N_ g_b1
  clear X28 e28
  refine oDup 241 X29 hx (hb hby at_240) rfl rfl ?_
  refine oBi 243 X29 hx (hb hby at_241) 28 rfl rfl ?_
  refine oDl 245 X29 hx (hb hby at_243) rfl rfl ?_
  refine oDsD 246 X29 hx hZ e29 28 V_b1 (hb hby at_245) (by decide) rfl (by decide) rfl rfl fun T30 h30 X30 e30 W30 V_b1_ => ?_
  replace Zle := Nat.le_trans Zle (Keep.of_wr W30).1
  replace V_b1 := V_b1_
  clear V_b1_ W30
  replace N_ := Fr.snoc X30 N_ g_b1
  clear X29 e29
  refine oDup 247 X30 hx (hb hby at_246) rfl rfl ?_
  refine oBi 249 X30 hx (hb hby at_247) 29 rfl rfl ?_
  refine oDl 251 X30 hx (hb hby at_249) rfl rfl ?_
  refine oDsD 252 X30 hx hZ e30 29 V_b1 (hb hby at_251) (by decide) rfl (by decide) rfl rfl fun T31 h31 X31 e31 W31 V_b1_ => ?_
  replace Zle := Nat.le_trans Zle (Keep.of_wr W31).1
  replace V_b1 := V_b1_
  clear V_b1_ W31
  replace N_ := Fr.snoc X31 N_ g_b1
  clear X30 e30
  refine oDup 253 X31 hx (hb hby at_252) rfl rfl ?_
  refine oBi 255 X31 hx (hb hby at_253) 30 rfl rfl ?_
  refine oDl 257 X31 hx (hb hby at_255) rfl rfl ?_
  refine oDsD 258 X31 hx hZ e31 30 V_b1 (hb hby at_257) (by decide) rfl (by decide) rfl rfl fun T32 h32 X32 e32 W32 V_b1_ => ?_
  replace Zle := Nat.le_trans Zle (Keep.of_wr W32).1
  replace V_b1 := V_b1_
  clear V_b1_ W32
  replace N_ := Fr.snoc X32 N_ g_b1
  clear X31 e31
  refine oDup 259 X32 hx (hb hby at_258) rfl rfl ?_
  refine oBi 261 X32 hx (hb hby at_259) 31 rfl rfl ?_
  refine oDl 263 X32 hx (hb hby at_261) rfl rfl ?_
  refine oDsD 264 X32 hx hZ e32 31 V_b1 (hb hby at_263) (by decide) rfl (by decide) rfl rfl fun T33 h33 X33 e33 W33 V_b1_ => ?_
  replace Zle := Nat.le_trans Zle (Keep.of_wr W33).1
  replace V_b1 := V_b1_
  clear V_b1_ W33
  replace N_ := Fr.snoc X33 N_ g_b1
  clear X32 e32
  refine oDup 265 X33 hx (hb hby at_264) rfl rfl ?_
  refine oBi 267 X33 hx (hb hby at_265) 32 rfl rfl ?_
  refine oDl 269 X33 hx (hb hby at_267) rfl rfl ?_
  refine oDsD 270 X33 hx hZ e33 32 V_b1 (hb hby at_269) (by decide) rfl (by decide) rfl rfl fun T34 h34 X34 e34 W34 V_b1_ => ?_
  replace Zle := Nat.le_trans Zle (Keep.of_wr W34).1
  replace V_b1 := V_b1_
  clear V_b1_ W34
  replace N_ := Fr.snoc X34 N_ g_b1
  clear X33 e33
  refine oDup 271 X34 hx (hb hby at_270) rfl rfl ?_
  refine oBi 273 X34 hx (hb hby at_271) 33 rfl rfl ?_
  refine oDl 275 X34 hx (hb hby at_273) rfl rfl ?_
  refine oDsD 276 X34 hx hZ e34 33 V_b1 (hb hby at_275) (by decide) rfl (by decide) rfl rfl fun T35 h35 X35 e35 W35 V_b1_ => ?_
  replace Zle := Nat.le_trans Zle (Keep.of_wr W35).1
  replace V_b1 := V_b1_
  clear V_b1_ W35
  replace N_ := Fr.snoc X35 N_ g_b1
  clear X34 e34
  refine oDup 277 X35 hx (hb hby at_276) rfl rfl ?_
  refine oBi 279 X35 hx (hb hby at_277) 34 rfl rfl ?_
  refine oDl 281 X35 hx (hb hby at_279) rfl rfl ?_
  refine oDsD 282 X35 hx hZ e35 34 V_b1 (hb hby at_281) (by decide) rfl (by decide) rfl rfl fun T36 h36 X36 e36 W36 V_b1_ => ?_
  replace Zle := Nat.le_trans Zle (Keep.of_wr W36).1
  replace V_b1 := V_b1_
  clear V_b1_ W36
  replace N_ := Fr.snoc X36 N_ g_b1
  clear X35 e35
  refine oDup 283 X36 hx (hb hby at_282) rfl rfl ?_
  refine oBi 285 X36 hx (hb hby at_283) 35 rfl rfl ?_
  refine oDl 287 X36 hx (hb hby at_285) rfl rfl ?_
  refine oDsD 288 X36 hx hZ e36 35 V_b1 (hb hby at_287) (by decide) rfl (by decide) rfl rfl fun T37 h37 X37 e37 W37 V_b1_ => ?_
  replace Zle := Nat.le_trans Zle (Keep.of_wr W37).1
  replace V_b1 := V_b1_
  clear V_b1_ W37
  replace N_ := Fr.snoc X37 N_ g_b1
  clear X36 e36
  exact own_l288 l Z a0 hw hx hby hml hlk hret x1 x2 x3 x4 x5 x6 h0 n0  pl hl u0 u1 u2 u3 b1 k1 hZ hown (X37) e37 Zle N_ g_b1 V_b1 e_pl b_pl e_hl b_hl e_u0 b_u0 e_u1 b_u1 e_u2 b_u2 e_u3 b_u3
set_option maxRecDepth 65536 in
set_option maxHeartbeats 40000000 in
theorem rm0 (l : Launch) (Z : State) (a0 : Array Value) (hw : ∀ d ∈ tables_1, d.before a0 Z = true) (ws : List Jvm.Cond) (x1 : Int32) (x2 : Int32) (x3 : Int32) (x4 : Int32) (x5 : Int32) (x6 : Int32) (h0 : Heap) (n0 : Nat) (Zle : n0 ≤ h0.size) :
    MetFree l x (head1 (Jvm.Cond.code x code maxLocals ret :: ws) room_1) (fun a U => a = #[(.int x1), (.int x2), (.int x3), (.int x4), (.int x5), (.int x6)] ∧ Z.Warmed39 U.vm ∧ U.heap = h0) (fun _ _ _ _ _ => True) (fun _ U o U' => ∃ v L, o = .returned v ∧ Q0 Z x1 x2 x3 x4 x5 x6 h0 n0 v U'.heap L ∧ FrameEnd U o U' L room_1.cells room_1.slots) := by
  refine MetFree.of_bodySF (plainFor_of_name pn_com_example_firebreak_firebreak_strategies_LazyMaxSumClearlyBetterPinLaw) hisR ?_
  intro p e s m args below meth c s₁ Bd hml0 hP hK
  obtain ⟨rfl, hZ, hh⟩ := hP
  have hx := Bd.exec
  have hby := Bd.bytes
  have hml : c.maxLocals = 38 := hml0
  have hown : s.vm.findClass "com/example/firebreak/firebreak/strategies/LazyMaxSumClearlyBetterPinLaw" = some m.cls := findClass_of_methodNamed Bd.named
  have hnm := (name_of_methodNamed Bd.named Bd.method).1
  have X0 : Stand p l e room_1 s m #[(.int x1), (.int x2), (.int x3), (.int x4), (.int x5), (.int x6)] below meth c s₁ [] 0 0 := Stand.of_body Bd
  have e0 : s₁.heap = h0 := by rw [← hh, Bd.state]; rfl
  have N_ := Fr.nil n0
  show own_Goes p.tables e below s (Q0 Z x1 x2 x3 x4 x5 x6 h0 n0) room_1.cells room_1.slots s₁ (entryFrame m #[(.int x1), (.int x2), (.int x3), (.int x4), (.int x5), (.int x6)] maxLocals)
  refine own_by (T' := s₁) (g' := (mkF m 0 (Ls6 x1 x2 x3 x4 x5 x6) [])) (fun t k => castTop (ef_0 m x1 x2 x3 x4 x5 x6) k) ?_
  refine oIlN 1 X0 hx (hb hby at_0) rfl rfl ?_
  refine oBi 3 X0 hx (hb hby at_1) 11 rfl rfl ?_
  refine own_by (g' := (mkF m 4 (Ls6 x1 x2 x3 x4 x5 x6) [(.int (x1 >>> ((11 : Int32) &&& 31)))])) (fun t k => XS.ishr X0.here hx rfl (hb hby at_3) rfl k) ?_
  refine own_by (g' := (mkF m 5 (Ls6 x1 x2 x3 x4 x5 x6) [(.long ((x1 >>> ((11 : Int32) &&& 31)).toInt64))])) (fun t k => XS.i2l X0.here hx rfl (hb hby at_4) rfl k) ?_
  refine own_by (g' := (mkF m 7 (Ls7 x1 x2 x3 x4 x5 x6 ((x1 >>> ((11 : Int32) &&& 31)).toInt64)) [])) (fun t k => XS.lstore X0.here hx rfl (hb hby at_5) rfl (l' := (Ls7 x1 x2 x3 x4 x5 x6 ((x1 >>> ((11 : Int32) &&& 31)).toInt64))) rfl k) ?_
  obtain ⟨pl, e_pl⟩ : ∃ z : Int64, z = ((x1 >>> ((11 : Int32) &&& 31)).toInt64) := ⟨_, rfl⟩
  rw [← e_pl]
  have b_pl : own_b20 pl := by rw [e_pl]; exact own_b20s _
  refine oIlN 8 X0 hx (hb hby at_7) rfl rfl ?_
  refine oBi 10 X0 hx (hb hby at_8) 11 rfl rfl ?_
  refine own_by (g' := (mkF m 11 (Ls7 x1 x2 x3 x4 x5 x6 pl) [(.int (x2 >>> ((11 : Int32) &&& 31)))])) (fun t k => XS.ishr X0.here hx rfl (hb hby at_10) rfl k) ?_
  refine own_by (g' := (mkF m 12 (Ls7 x1 x2 x3 x4 x5 x6 pl) [(.long ((x2 >>> ((11 : Int32) &&& 31)).toInt64))])) (fun t k => XS.i2l X0.here hx rfl (hb hby at_11) rfl k) ?_
  refine own_by (g' := (mkF m 14 (Ls8 x1 x2 x3 x4 x5 x6 pl ((x2 >>> ((11 : Int32) &&& 31)).toInt64)) [])) (fun t k => XS.lstore X0.here hx rfl (hb hby at_12) rfl (l' := (Ls8 x1 x2 x3 x4 x5 x6 pl ((x2 >>> ((11 : Int32) &&& 31)).toInt64))) rfl k) ?_
  obtain ⟨hl, e_hl⟩ : ∃ z : Int64, z = ((x2 >>> ((11 : Int32) &&& 31)).toInt64) := ⟨_, rfl⟩
  rw [← e_hl]
  have b_hl : own_b20 hl := by rw [e_hl]; exact own_b20s _
  refine oIlN 15 X0 hx (hb hby at_14) rfl rfl ?_
  refine oBi 17 X0 hx (hb hby at_15) 11 rfl rfl ?_
  refine own_by (g' := (mkF m 18 (Ls8 x1 x2 x3 x4 x5 x6 pl hl) [(.int (x3 >>> ((11 : Int32) &&& 31)))])) (fun t k => XS.ishr X0.here hx rfl (hb hby at_17) rfl k) ?_
  refine own_by (g' := (mkF m 19 (Ls8 x1 x2 x3 x4 x5 x6 pl hl) [(.long ((x3 >>> ((11 : Int32) &&& 31)).toInt64))])) (fun t k => XS.i2l X0.here hx rfl (hb hby at_18) rfl k) ?_
  refine own_by (g' := (mkF m 21 (Ls9 x1 x2 x3 x4 x5 x6 pl hl ((x3 >>> ((11 : Int32) &&& 31)).toInt64)) [])) (fun t k => XS.lstore X0.here hx rfl (hb hby at_19) rfl (l' := (Ls9 x1 x2 x3 x4 x5 x6 pl hl ((x3 >>> ((11 : Int32) &&& 31)).toInt64))) rfl k) ?_
  obtain ⟨u0, e_u0⟩ : ∃ z : Int64, z = ((x3 >>> ((11 : Int32) &&& 31)).toInt64) := ⟨_, rfl⟩
  rw [← e_u0]
  have b_u0 : own_b20 u0 := by rw [e_u0]; exact own_b20s _
  refine oIlN 22 X0 hx (hb hby at_21) rfl rfl ?_
  refine oBi 24 X0 hx (hb hby at_22) 11 rfl rfl ?_
  refine own_by (g' := (mkF m 25 (Ls9 x1 x2 x3 x4 x5 x6 pl hl u0) [(.int (x4 >>> ((11 : Int32) &&& 31)))])) (fun t k => XS.ishr X0.here hx rfl (hb hby at_24) rfl k) ?_
  refine own_by (g' := (mkF m 26 (Ls9 x1 x2 x3 x4 x5 x6 pl hl u0) [(.long ((x4 >>> ((11 : Int32) &&& 31)).toInt64))])) (fun t k => XS.i2l X0.here hx rfl (hb hby at_25) rfl k) ?_
  refine own_by (g' := (mkF m 28 (Ls10 x1 x2 x3 x4 x5 x6 pl hl u0 ((x4 >>> ((11 : Int32) &&& 31)).toInt64)) [])) (fun t k => XS.lstore X0.here hx rfl (hb hby at_26) rfl (l' := (Ls10 x1 x2 x3 x4 x5 x6 pl hl u0 ((x4 >>> ((11 : Int32) &&& 31)).toInt64))) rfl k) ?_
  obtain ⟨u1, e_u1⟩ : ∃ z : Int64, z = ((x4 >>> ((11 : Int32) &&& 31)).toInt64) := ⟨_, rfl⟩
  rw [← e_u1]
  have b_u1 : own_b20 u1 := by rw [e_u1]; exact own_b20s _
  refine oIl 30 X0 hx (hb hby at_28) rfl rfl ?_
  refine oBi 32 X0 hx (hb hby at_30) 11 rfl rfl ?_
  refine own_by (g' := (mkF m 33 (Ls10 x1 x2 x3 x4 x5 x6 pl hl u0 u1) [(.int (x5 >>> ((11 : Int32) &&& 31)))])) (fun t k => XS.ishr X0.here hx rfl (hb hby at_32) rfl k) ?_
  refine own_by (g' := (mkF m 34 (Ls10 x1 x2 x3 x4 x5 x6 pl hl u0 u1) [(.long ((x5 >>> ((11 : Int32) &&& 31)).toInt64))])) (fun t k => XS.i2l X0.here hx rfl (hb hby at_33) rfl k) ?_
  refine own_by (g' := (mkF m 36 (Ls11 x1 x2 x3 x4 x5 x6 pl hl u0 u1 ((x5 >>> ((11 : Int32) &&& 31)).toInt64)) [])) (fun t k => XS.lstore X0.here hx rfl (hb hby at_34) rfl (l' := (Ls11 x1 x2 x3 x4 x5 x6 pl hl u0 u1 ((x5 >>> ((11 : Int32) &&& 31)).toInt64))) rfl k) ?_
  obtain ⟨u2, e_u2⟩ : ∃ z : Int64, z = ((x5 >>> ((11 : Int32) &&& 31)).toInt64) := ⟨_, rfl⟩
  rw [← e_u2]
  have b_u2 : own_b20 u2 := by rw [e_u2]; exact own_b20s _
  refine oIl 38 X0 hx (hb hby at_36) rfl rfl ?_
  refine oBi 40 X0 hx (hb hby at_38) 11 rfl rfl ?_
  refine own_by (g' := (mkF m 41 (Ls11 x1 x2 x3 x4 x5 x6 pl hl u0 u1 u2) [(.int (x6 >>> ((11 : Int32) &&& 31)))])) (fun t k => XS.ishr X0.here hx rfl (hb hby at_40) rfl k) ?_
  refine own_by (g' := (mkF m 42 (Ls11 x1 x2 x3 x4 x5 x6 pl hl u0 u1 u2) [(.long ((x6 >>> ((11 : Int32) &&& 31)).toInt64))])) (fun t k => XS.i2l X0.here hx rfl (hb hby at_41) rfl k) ?_
  refine own_by (g' := (mkF m 44 (Ls12 x1 x2 x3 x4 x5 x6 pl hl u0 u1 u2 ((x6 >>> ((11 : Int32) &&& 31)).toInt64)) [])) (fun t k => XS.lstore X0.here hx rfl (hb hby at_42) rfl (l' := (Ls12 x1 x2 x3 x4 x5 x6 pl hl u0 u1 u2 ((x6 >>> ((11 : Int32) &&& 31)).toInt64))) rfl k) ?_
  obtain ⟨u3, e_u3⟩ : ∃ z : Int64, z = ((x6 >>> ((11 : Int32) &&& 31)).toInt64) := ⟨_, rfl⟩
  rw [← e_u3]
  have b_u3 : own_b20 u3 := by rw [e_u3]; exact own_b20s _
  refine own_by (g' := (mkF m 46 (Ls12 x1 x2 x3 x4 x5 x6 pl hl u0 u1 u2 u3) [(.long pl)])) (fun t k => XS.lload X0.here hx rfl (hb hby at_44) rfl k) ?_
  refine own_by (g' := (mkF m 47 (Ls12 x1 x2 x3 x4 x5 x6 pl hl u0 u1 u2 u3) [(.double (FP.l2d pl))])) (fun t k => XS.l2dS X0.here hx rfl (hb hby at_46) rfl rfl k) ?_
  refine oDst 49 X0 hx (hb hby at_47) (Ls13 x1 x2 x3 x4 x5 x6 pl hl u0 u1 u2 u3 (FP.l2d pl)) rfl rfl ?_
  refine own_by (g' := (mkF m 51 (Ls13 x1 x2 x3 x4 x5 x6 pl hl u0 u1 u2 u3 (FP.l2d pl)) [(.long hl)])) (fun t k => XS.lload X0.here hx rfl (hb hby at_49) rfl k) ?_
  refine own_by (g' := (mkF m 52 (Ls13 x1 x2 x3 x4 x5 x6 pl hl u0 u1 u2 u3 (FP.l2d pl)) [(.double (FP.l2d hl))])) (fun t k => XS.l2dS X0.here hx rfl (hb hby at_51) rfl rfl k) ?_
  refine oDst 54 X0 hx (hb hby at_52) (Ls14 x1 x2 x3 x4 x5 x6 pl hl u0 u1 u2 u3 (FP.l2d pl) (FP.l2d hl)) rfl rfl ?_
  refine own_by (g' := (mkF m 56 (Ls14 x1 x2 x3 x4 x5 x6 pl hl u0 u1 u2 u3 (FP.l2d pl) (FP.l2d hl)) [(.long u0)])) (fun t k => XS.lload X0.here hx rfl (hb hby at_54) rfl k) ?_
  refine own_by (g' := (mkF m 57 (Ls14 x1 x2 x3 x4 x5 x6 pl hl u0 u1 u2 u3 (FP.l2d pl) (FP.l2d hl)) [(.double (FP.l2d u0))])) (fun t k => XS.l2dS X0.here hx rfl (hb hby at_56) rfl rfl k) ?_
  refine oDst 59 X0 hx (hb hby at_57) (Ls15 x1 x2 x3 x4 x5 x6 pl hl u0 u1 u2 u3 (FP.l2d pl) (FP.l2d hl) (FP.l2d u0)) rfl rfl ?_
  refine own_by (g' := (mkF m 61 (Ls15 x1 x2 x3 x4 x5 x6 pl hl u0 u1 u2 u3 (FP.l2d pl) (FP.l2d hl) (FP.l2d u0)) [(.long u1)])) (fun t k => XS.lload X0.here hx rfl (hb hby at_59) rfl k) ?_
  refine own_by (g' := (mkF m 62 (Ls15 x1 x2 x3 x4 x5 x6 pl hl u0 u1 u2 u3 (FP.l2d pl) (FP.l2d hl) (FP.l2d u0)) [(.double (FP.l2d u1))])) (fun t k => XS.l2dS X0.here hx rfl (hb hby at_61) rfl rfl k) ?_
  refine oDst 64 X0 hx (hb hby at_62) (Ls16 x1 x2 x3 x4 x5 x6 pl hl u0 u1 u2 u3 (FP.l2d pl) (FP.l2d hl) (FP.l2d u0) (FP.l2d u1)) rfl rfl ?_
  refine own_by (g' := (mkF m 66 (Ls16 x1 x2 x3 x4 x5 x6 pl hl u0 u1 u2 u3 (FP.l2d pl) (FP.l2d hl) (FP.l2d u0) (FP.l2d u1)) [(.long u2)])) (fun t k => XS.lload X0.here hx rfl (hb hby at_64) rfl k) ?_
  refine own_by (g' := (mkF m 67 (Ls16 x1 x2 x3 x4 x5 x6 pl hl u0 u1 u2 u3 (FP.l2d pl) (FP.l2d hl) (FP.l2d u0) (FP.l2d u1)) [(.double (FP.l2d u2))])) (fun t k => XS.l2dS X0.here hx rfl (hb hby at_66) rfl rfl k) ?_
  refine oDst 69 X0 hx (hb hby at_67) (Ls17 x1 x2 x3 x4 x5 x6 pl hl u0 u1 u2 u3 (FP.l2d pl) (FP.l2d hl) (FP.l2d u0) (FP.l2d u1) (FP.l2d u2)) rfl rfl ?_
  refine own_by (g' := (mkF m 71 (Ls17 x1 x2 x3 x4 x5 x6 pl hl u0 u1 u2 u3 (FP.l2d pl) (FP.l2d hl) (FP.l2d u0) (FP.l2d u1) (FP.l2d u2)) [(.long u3)])) (fun t k => XS.lload X0.here hx rfl (hb hby at_69) rfl k) ?_
  refine own_by (g' := (mkF m 72 (Ls17 x1 x2 x3 x4 x5 x6 pl hl u0 u1 u2 u3 (FP.l2d pl) (FP.l2d hl) (FP.l2d u0) (FP.l2d u1) (FP.l2d u2)) [(.double (FP.l2d u3))])) (fun t k => XS.l2dS X0.here hx rfl (hb hby at_71) rfl rfl k) ?_
  refine oDst 74 X0 hx (hb hby at_72) (Ls18 x1 x2 x3 x4 x5 x6 pl hl u0 u1 u2 u3 (FP.l2d pl) (FP.l2d hl) (FP.l2d u0) (FP.l2d u1) (FP.l2d u2) (FP.l2d u3)) rfl rfl ?_
  refine oBi 76 X0 hx (hb hby at_74) 72 rfl rfl ?_
  obtain ⟨T1, h1, k1, X1, e1, E1, A1, st1⟩ := newP X0 hx hZ (hw _ (own_m 0 rfl)) e0 (g := (mkF m 76 (Ls18 x1 x2 x3 x4 x5 x6 pl hl u0 u1 u2 u3 (FP.l2d pl) (FP.l2d hl) (FP.l2d u0) (FP.l2d u1) (FP.l2d u2) (FP.l2d u3)) [(.int 72)])) rfl (hb hby at_76) rfl (by decide) (cap := 72) (by decide) (by decide) (by decide) (by decide)
  obtain ⟨b1, g1⟩ : ∃ z, z = h0.size := ⟨_, rfl⟩
  rw [← g1] at A1 st1
  have g_b1 : n0 ≤ b1 := Nat.le_trans Zle (Nat.le_of_eq g1.symm)
  replace Zle := Nat.le_trans Zle E1.1
  have V_b1 : Arv Z h1 b1 k1 .double (72 : Int32) (own_Dl (own_e u0 u1 u2 pl) 0) (.double (FP.l2d 0)) := (Arv.newD A1 (by decide)).pad (own_Dl_pad (own_e u0 u1 u2 pl))
  refine own_by (T' := T1) (g' := (mkF m 78 (Ls18 x1 x2 x3 x4 x5 x6 pl hl u0 u1 u2 u3 (FP.l2d pl) (FP.l2d hl) (FP.l2d u0) (FP.l2d u1) (FP.l2d u2) (FP.l2d u3)) [(.ref b1)])) (fun t k => st1 t k) ?_
  clear st1 X0 e0
  refine oDup 79 X1 hx (hb hby at_78) rfl rfl ?_
  refine oIc 80 X1 hx (hb hby at_79) 0 rfl rfl ?_
  refine oDl 82 X1 hx (hb hby at_80) rfl rfl ?_
  refine oDsD 83 X1 hx hZ e1 0 V_b1 (hb hby at_82) (by decide) rfl (by decide) rfl rfl fun T2 h2 X2 e2 W2 V_b1_ => ?_
  replace Zle := Nat.le_trans Zle (Keep.of_wr W2).1
  replace V_b1 := V_b1_
  clear V_b1_ W2
  replace N_ := Fr.snoc X2 N_ g_b1
  clear X1 e1
  refine oDup 84 X2 hx (hb hby at_83) rfl rfl ?_
  refine oIc 85 X2 hx (hb hby at_84) 1 rfl rfl ?_
  refine oDl 87 X2 hx (hb hby at_85) rfl rfl ?_
  refine oDsD 88 X2 hx hZ e2 1 V_b1 (hb hby at_87) (by decide) rfl (by decide) rfl rfl fun T3 h3 X3 e3 W3 V_b1_ => ?_
  replace Zle := Nat.le_trans Zle (Keep.of_wr W3).1
  replace V_b1 := V_b1_
  clear V_b1_ W3
  replace N_ := Fr.snoc X3 N_ g_b1
  clear X2 e2
  refine oDup 89 X3 hx (hb hby at_88) rfl rfl ?_
  refine oIc 90 X3 hx (hb hby at_89) 2 rfl rfl ?_
  refine oDl 92 X3 hx (hb hby at_90) rfl rfl ?_
  refine oDsD 93 X3 hx hZ e3 2 V_b1 (hb hby at_92) (by decide) rfl (by decide) rfl rfl fun T4 h4 X4 e4 W4 V_b1_ => ?_
  replace Zle := Nat.le_trans Zle (Keep.of_wr W4).1
  replace V_b1 := V_b1_
  clear V_b1_ W4
  replace N_ := Fr.snoc X4 N_ g_b1
  clear X3 e3
  refine oDup 94 X4 hx (hb hby at_93) rfl rfl ?_
  refine oIc 95 X4 hx (hb hby at_94) 3 rfl rfl ?_
  refine oDl 97 X4 hx (hb hby at_95) rfl rfl ?_
  refine oDsD 98 X4 hx hZ e4 3 V_b1 (hb hby at_97) (by decide) rfl (by decide) rfl rfl fun T5 h5 X5 e5 W5 V_b1_ => ?_
  replace Zle := Nat.le_trans Zle (Keep.of_wr W5).1
  replace V_b1 := V_b1_
  clear V_b1_ W5
  replace N_ := Fr.snoc X5 N_ g_b1
  clear X4 e4
  refine oDup 99 X5 hx (hb hby at_98) rfl rfl ?_
  refine oIc 100 X5 hx (hb hby at_99) 4 rfl rfl ?_
  refine oDl 102 X5 hx (hb hby at_100) rfl rfl ?_
  refine oDsD 103 X5 hx hZ e5 4 V_b1 (hb hby at_102) (by decide) rfl (by decide) rfl rfl fun T6 h6 X6 e6 W6 V_b1_ => ?_
  replace Zle := Nat.le_trans Zle (Keep.of_wr W6).1
  replace V_b1 := V_b1_
  clear V_b1_ W6
  replace N_ := Fr.snoc X6 N_ g_b1
  clear X5 e5
  refine oDup 104 X6 hx (hb hby at_103) rfl rfl ?_
  refine oIc 105 X6 hx (hb hby at_104) 5 rfl rfl ?_
  refine oDl 107 X6 hx (hb hby at_105) rfl rfl ?_
  refine oDsD 108 X6 hx hZ e6 5 V_b1 (hb hby at_107) (by decide) rfl (by decide) rfl rfl fun T7 h7 X7 e7 W7 V_b1_ => ?_
  replace Zle := Nat.le_trans Zle (Keep.of_wr W7).1
  replace V_b1 := V_b1_
  clear V_b1_ W7
  replace N_ := Fr.snoc X7 N_ g_b1
  clear X6 e6
  refine oDup 109 X7 hx (hb hby at_108) rfl rfl ?_
  refine oBi 111 X7 hx (hb hby at_109) 6 rfl rfl ?_
  refine oDl 113 X7 hx (hb hby at_111) rfl rfl ?_
  refine oDsD 114 X7 hx hZ e7 6 V_b1 (hb hby at_113) (by decide) rfl (by decide) rfl rfl fun T8 h8 X8 e8 W8 V_b1_ => ?_
  replace Zle := Nat.le_trans Zle (Keep.of_wr W8).1
  replace V_b1 := V_b1_
  clear V_b1_ W8
  replace N_ := Fr.snoc X8 N_ g_b1
  clear X7 e7
  refine oDup 115 X8 hx (hb hby at_114) rfl rfl ?_
  refine oBi 117 X8 hx (hb hby at_115) 7 rfl rfl ?_
  refine oDl 119 X8 hx (hb hby at_117) rfl rfl ?_
  refine oDsD 120 X8 hx hZ e8 7 V_b1 (hb hby at_119) (by decide) rfl (by decide) rfl rfl fun T9 h9 X9 e9 W9 V_b1_ => ?_
  replace Zle := Nat.le_trans Zle (Keep.of_wr W9).1
  replace V_b1 := V_b1_
  clear V_b1_ W9
  replace N_ := Fr.snoc X9 N_ g_b1
  clear X8 e8
  refine oDup 121 X9 hx (hb hby at_120) rfl rfl ?_
  refine oBi 123 X9 hx (hb hby at_121) 8 rfl rfl ?_
  refine oDl 125 X9 hx (hb hby at_123) rfl rfl ?_
  refine oDsD 126 X9 hx hZ e9 8 V_b1 (hb hby at_125) (by decide) rfl (by decide) rfl rfl fun T10 h10 X10 e10 W10 V_b1_ => ?_
  replace Zle := Nat.le_trans Zle (Keep.of_wr W10).1
  replace V_b1 := V_b1_
  clear V_b1_ W10
  replace N_ := Fr.snoc X10 N_ g_b1
  clear X9 e9
  refine oDup 127 X10 hx (hb hby at_126) rfl rfl ?_
  refine oBi 129 X10 hx (hb hby at_127) 9 rfl rfl ?_
  refine oDl 131 X10 hx (hb hby at_129) rfl rfl ?_
  refine oDsD 132 X10 hx hZ e10 9 V_b1 (hb hby at_131) (by decide) rfl (by decide) rfl rfl fun T11 h11 X11 e11 W11 V_b1_ => ?_
  replace Zle := Nat.le_trans Zle (Keep.of_wr W11).1
  replace V_b1 := V_b1_
  clear V_b1_ W11
  replace N_ := Fr.snoc X11 N_ g_b1
  clear X10 e10
  refine oDup 133 X11 hx (hb hby at_132) rfl rfl ?_
  refine oBi 135 X11 hx (hb hby at_133) 10 rfl rfl ?_
  refine oDl 137 X11 hx (hb hby at_135) rfl rfl ?_
  refine oDsD 138 X11 hx hZ e11 10 V_b1 (hb hby at_137) (by decide) rfl (by decide) rfl rfl fun T12 h12 X12 e12 W12 V_b1_ => ?_
  replace Zle := Nat.le_trans Zle (Keep.of_wr W12).1
  replace V_b1 := V_b1_
  clear V_b1_ W12
  replace N_ := Fr.snoc X12 N_ g_b1
  clear X11 e11
  refine oDup 139 X12 hx (hb hby at_138) rfl rfl ?_
  refine oBi 141 X12 hx (hb hby at_139) 11 rfl rfl ?_
  refine oDl 143 X12 hx (hb hby at_141) rfl rfl ?_
  refine oDsD 144 X12 hx hZ e12 11 V_b1 (hb hby at_143) (by decide) rfl (by decide) rfl rfl fun T13 h13 X13 e13 W13 V_b1_ => ?_
  replace Zle := Nat.le_trans Zle (Keep.of_wr W13).1
  replace V_b1 := V_b1_
  clear V_b1_ W13
  replace N_ := Fr.snoc X13 N_ g_b1
  clear X12 e12
  refine oDup 145 X13 hx (hb hby at_144) rfl rfl ?_
  refine oBi 147 X13 hx (hb hby at_145) 12 rfl rfl ?_
  refine oDl 149 X13 hx (hb hby at_147) rfl rfl ?_
  refine oDsD 150 X13 hx hZ e13 12 V_b1 (hb hby at_149) (by decide) rfl (by decide) rfl rfl fun T14 h14 X14 e14 W14 V_b1_ => ?_
  replace Zle := Nat.le_trans Zle (Keep.of_wr W14).1
  replace V_b1 := V_b1_
  clear V_b1_ W14
  replace N_ := Fr.snoc X14 N_ g_b1
  clear X13 e13
  refine oDup 151 X14 hx (hb hby at_150) rfl rfl ?_
  refine oBi 153 X14 hx (hb hby at_151) 13 rfl rfl ?_
  refine oDl 155 X14 hx (hb hby at_153) rfl rfl ?_
  refine oDsD 156 X14 hx hZ e14 13 V_b1 (hb hby at_155) (by decide) rfl (by decide) rfl rfl fun T15 h15 X15 e15 W15 V_b1_ => ?_
  replace Zle := Nat.le_trans Zle (Keep.of_wr W15).1
  replace V_b1 := V_b1_
  clear V_b1_ W15
  replace N_ := Fr.snoc X15 N_ g_b1
  clear X14 e14
  refine oDup 157 X15 hx (hb hby at_156) rfl rfl ?_
  refine oBi 159 X15 hx (hb hby at_157) 14 rfl rfl ?_
  refine oDl 161 X15 hx (hb hby at_159) rfl rfl ?_
  refine oDsD 162 X15 hx hZ e15 14 V_b1 (hb hby at_161) (by decide) rfl (by decide) rfl rfl fun T16 h16 X16 e16 W16 V_b1_ => ?_
  replace Zle := Nat.le_trans Zle (Keep.of_wr W16).1
  replace V_b1 := V_b1_
  clear V_b1_ W16
  replace N_ := Fr.snoc X16 N_ g_b1
  clear X15 e15
  refine oDup 163 X16 hx (hb hby at_162) rfl rfl ?_
  refine oBi 165 X16 hx (hb hby at_163) 15 rfl rfl ?_
  refine oDl 167 X16 hx (hb hby at_165) rfl rfl ?_
  refine oDsD 168 X16 hx hZ e16 15 V_b1 (hb hby at_167) (by decide) rfl (by decide) rfl rfl fun T17 h17 X17 e17 W17 V_b1_ => ?_
  replace Zle := Nat.le_trans Zle (Keep.of_wr W17).1
  replace V_b1 := V_b1_
  clear V_b1_ W17
  replace N_ := Fr.snoc X17 N_ g_b1
  clear X16 e16
  refine oDup 169 X17 hx (hb hby at_168) rfl rfl ?_
  refine oBi 171 X17 hx (hb hby at_169) 16 rfl rfl ?_
  refine oDl 173 X17 hx (hb hby at_171) rfl rfl ?_
  refine oDsD 174 X17 hx hZ e17 16 V_b1 (hb hby at_173) (by decide) rfl (by decide) rfl rfl fun T18 h18 X18 e18 W18 V_b1_ => ?_
  replace Zle := Nat.le_trans Zle (Keep.of_wr W18).1
  replace V_b1 := V_b1_
  clear V_b1_ W18
  replace N_ := Fr.snoc X18 N_ g_b1
  clear X17 e17
  refine oDup 175 X18 hx (hb hby at_174) rfl rfl ?_
  refine oBi 177 X18 hx (hb hby at_175) 17 rfl rfl ?_
  refine oDl 179 X18 hx (hb hby at_177) rfl rfl ?_
  refine oDsD 180 X18 hx hZ e18 17 V_b1 (hb hby at_179) (by decide) rfl (by decide) rfl rfl fun T19 h19 X19 e19 W19 V_b1_ => ?_
  replace Zle := Nat.le_trans Zle (Keep.of_wr W19).1
  replace V_b1 := V_b1_
  clear V_b1_ W19
  replace N_ := Fr.snoc X19 N_ g_b1
  clear X18 e18
  exact own_l180 l Z a0 hw hx hby hml Bd.notSynchronized Bd.returns x1 x2 x3 x4 x5 x6 h0 n0  pl hl u0 u1 u2 u3 b1 k1 hZ hown (X19) e19 Zle N_ g_b1 V_b1 e_pl b_pl e_hl b_hl e_u0 b_u0 e_u1 b_u1 e_u2 b_u2 e_u3 b_u3

set_option maxRecDepth 65536 in
set_option maxHeartbeats 40000000 in
theorem comes_1 {Post : Tables → Env → Array Value → State → Outcome → State → Prop} (hpost : ∀ tb e args s v u, (limb_1_1.after args s (.returned v) u = true ∧ limb_1_2.after args s (.returned v) u = true ∧ True) → FrameEnd s (.returned v) u (Jvm.fieldLocs frame_1_writes args s ++ Jvm.arrayLocs frame_1_arrays args s ++ Jvm.staticLocs frame_1_statics s) 16 384 → Post tb e args s (.returned v) u) :
    ArmFor flags0 classFile x code maxLocals ret World_1 tables_1 room_1 Calls_1 rest_1 Pre_1 Post := by
  intro l hfl _ _ p e ha hc hk s m args below hf hA hF happ hP
  obtain ⟨hcalls, hrest, hpre⟩ := hP
  obtain ⟨-, -, -, hnamed, -, -, -, hat⟩ := (Spec.applies_iff hf).mp happ
  obtain ⟨hg, hn⟩ := and_e (Cond.before_iff.mp (show (Jvm.Cond.and given_1 narrow_1).before args s = true from hpre))
  obtain ⟨hcount, g0⟩ := and_e hg
  obtain ⟨a0, g1⟩ := and_e g0
  obtain ⟨a1, g2⟩ := and_e g1
  obtain ⟨a2, g3⟩ := and_e g2
  obtain ⟨a3, g4⟩ := and_e g3
  obtain ⟨a4, g5⟩ := and_e g4
  obtain ⟨w0, w1, w2, w3, w4, w5, rfl⟩ : ∃ w0 w1 w2 w3 w4 w5 : Value, args = #[w0, w1, w2, w3, w4, w5] := by
    have hs : args.size = 6 := by simpa [Cond.value, given_1] using hcount
    obtain ⟨L⟩ := args
    match L, hs with
    | [w0, w1, w2, w3, w4, w5], _ => exact ⟨w0, w1, w2, w3, w4, w5, rfl⟩
  have hw := fun d (hd : d ∈ tables_1) => atoms_spec (ws := Jvm.Cond.code x code maxLocals ret :: tables_1) hat d (List.mem_cons_of_mem _ hd)
  have hfit : Fit s := fun {y c} hc i hi => by
    obtain ⟨ha, rfl⟩ := Array.getElem?_eq_some_iff.mp hc
    have q := List.all_eq_true.mp ((Array.all_eq_true_iff_forall_mem.mp hF) _ (Array.getElem_mem ha)) i (List.mem_range.mpr hi)
    simpa [Array.getElem?_eq_getElem hi] using q
  obtain ⟨i0, ei0⟩ := is_v a0
  obtain rfl : w0 = (.int i0) := Option.some.inj ei0
  obtain ⟨i1, ei1⟩ := is_v a1
  obtain rfl : w1 = (.int i1) := Option.some.inj ei1
  obtain ⟨i2, ei2⟩ := is_v a2
  obtain rfl : w2 = (.int i2) := Option.some.inj ei2
  obtain ⟨i3, ei3⟩ := is_v a3
  obtain rfl : w3 = (.int i3) := Option.some.inj ei3
  obtain ⟨i4, ei4⟩ := is_v a4
  obtain rfl : w4 = (.int i4) := Option.some.inj ei4
  obtain ⟨i5, ei5⟩ := is_v g5
  obtain rfl : w5 = (.int i5) := Option.some.inj ei5
  obtain ⟨n, o, h1, h2, h3, _, L, rfl, ⟨rfl, N⟩, hq⟩ := rm0 l s _ hw tables_1 i0 i1 i2 i3 i4 i5 s.heap s.heap.size (Nat.le_refl _)  p e ha hc hk s m _ below hf ((Spec.applies_iff_loose hf).mp happ).1 ⟨rfl, State.Warmed39.refl s, rfl⟩ trivial
  refine ⟨n, _, h1, h2, h3, hpost _ _ _ _ _ _ ⟨Cond.after_iff.mpr rfl, Cond.after_iff.mpr (eq_i res_at (Term.int_eval (1)) rfl), trivial⟩ ⟨hq.1, hq.2.1, (hq.2.2.sift fun y hy => Or.inr (N y hy)).mono (by decide) (by decide)⟩⟩
theorem main_1_1 : Claimed_1_1 := comes_1 fun _ _ _ _ _ _ h hF => ⟨h.1, hF⟩
theorem main_1_2 : Claimed_1_2 := comes_1 fun _ _ _ _ _ _ h hF => ⟨h.2.1, hF⟩

end Jvm.Pilot.@@N@@
namespace Jvm.Pilot.@@N@@
open Jvm Jvm.ClassFile Sem Op Lib Jvm.Free Jvm.Stand Jvm.Pilot.@@N@@.Jvm.D
/-! MADE BY PROGRAM (witnessworld.py) out of the Statement's table words and the real class files: 10 classes; the members and pool entries that the words name. The judged class is class 1, her method 2. -/
namespace start1
open Jvm.ClassFile
def u (s : String) : CpInfo := .utf8 (stringToUtf16 s)
/-- a pool by its gaps: so many unusable entries, then the entry; so many at the end -/
def gap : Nat → List CpInfo → List CpInfo
  | 0, r => r
  | n + 1, r => .unusable :: gap n r
def poolList (es : List (Nat × CpInfo)) (last : Nat) : List CpInfo := es.foldr (fun e r => gap e.1 (e.2 :: r)) (gap last [])
def pool (es : List (Nat × CpInfo)) (last : Nat) : Array CpInfo := ⟨poolList es last⟩
def fileOf (pool : Array CpInfo) (this : Nat) (attrs : Array Attribute := #[]) (ms : Array MethodInfo := #[]) (fl : Nat := 33) (sup : Nat := 0) (ifs : Array Nat := #[]) (fds : Array FieldInfo := #[]) : ClassFile where
  minorVersion := 0
  majorVersion := 65
  constantPool := pool
  accessFlags := fl
  thisClass := this
  superClass := sup
  interfaces := ifs
  fields := fds
  methods := ms
  attributes := attrs
def plain (name : String) (sup : Option ClassId) : Class where
  name := name
  kind := .ordinary
  loader := none
  accessFlags := 33
  super := sup
  interfaces := #[]
  cf := none
  fields := #[]
  methods := #[]
  instanceTypes := #[]
  staticTypes := #[]
  resolved := #[]
  callSites := []
  init := .initialized
  statics := none
  mirror := none

def pool0 : Array CpInfo := pool [(5, u "<init>"), (0, u "()V"), (1, .class_ 10), (1, u "java/lang/Object")] 113

def k0m0 : Method := { name := "<init>", desc := "()V", sig := { parameters := [], returnType := none }, accessFlags := 1, code := none }
/-- java/lang/Object -/
def k0 : Class := { plain "java/lang/Object" none with
  accessFlags := 33
  interfaces := #[]
  cf := some (fileOf pool0 8 #[] #[{ accessFlags := 1, nameIndex := 5, descriptorIndex := 6, attributes := #[] }] 33 0 #[] #[])
  fields := #[]
  methods := #[k0m0]
  instanceTypes := #[]
  staticTypes := #[]
  resolved := Array.replicate 124 none
  statics := none }

def pool1 : Array CpInfo := pool [(2, .class_ 4), (1, u "java/lang/Object"), (0, u "<init>"), (0, u "()V"), (0, .methodref 8 9), (0, .class_ 10), (0, .nameAndType 11 12), (0, u "com/example/firebreak/firebreak/strategies/LazyMaxSumClearlyBetterPinLaw"), (0, u "one"), (0, u "(Z)I"), (0, .long 69), (1, .long 71), (1, .methodref 18 19), (0, .class_ 20), (0, .nameAndType 21 22), (0, u "com/example/firebreak/firebreak/strategies/LazyMaxSum"), (0, u "clearlyBetter"), (0, u "([D[D)Z"), (3, u "law"), (0, u "(IIIIII)Z")] 4

def k1m0 : Method := { name := "<init>", desc := "()V", sig := { parameters := [], returnType := none }, accessFlags := 2, code := none }
def k1c1 : Code := { maxStack := 1, maxLocals := 1, code := method_2_code, exceptionTable := #[], attributes := #[] }
def k1m1 : Method := { name := "one", desc := "(Z)I", sig := { parameters := [.boolean], returnType := some .int }, accessFlags := 10, code := some k1c1 }
def k1c2 : Code := { maxStack := 5, maxLocals := 38, code := code, exceptionTable := #[], attributes := #[] }
def k1m2 : Method := { name := "law", desc := "(IIIIII)Z", sig := { parameters := [.int, .int, .int, .int, .int, .int], returnType := some .boolean }, accessFlags := 9, code := some k1c2 }
/-- com/example/firebreak/firebreak/strategies/LazyMaxSumClearlyBetterPinLaw -/
def k1 : Class := { plain "com/example/firebreak/firebreak/strategies/LazyMaxSumClearlyBetterPinLaw" (some 0) with
  accessFlags := 49
  interfaces := #[]
  cf := some (fileOf pool1 8 #[] #[{ accessFlags := 2, nameIndex := 5, descriptorIndex := 6, attributes := #[] }, { accessFlags := 10, nameIndex := 11, descriptorIndex := 12, attributes := #[] }, { accessFlags := 9, nameIndex := 26, descriptorIndex := 27, attributes := #[] }] 49 2 #[] #[])
  fields := #[]
  methods := #[k1m0, k1m1, k1m2]
  instanceTypes := #[]
  staticTypes := #[]
  resolved := Array.replicate 32 none
  statics := none }

def pool2 : Array CpInfo := pool [(1, .class_ 2), (0, u "com/example/firebreak/firebreak/core/Strategy"), (0, .class_ 4), (0, u "java/lang/Object")] 7

/-- com/example/firebreak/firebreak/core/Strategy -/
def k2 : Class := { plain "com/example/firebreak/firebreak/core/Strategy" (some 0) with
  accessFlags := 1537
  interfaces := #[]
  cf := some (fileOf pool2 1 #[] #[] 1537 3 #[] #[])
  fields := #[]
  methods := #[]
  instanceTypes := #[]
  staticTypes := #[]
  resolved := Array.replicate 12 none
  statics := none }

def pool3 : Array CpInfo := pool [(2, .class_ 4), (1, u "java/lang/Object"), (4, .class_ 10), (0, u "com/example/firebreak/firebreak/strategies/LazyMaxSum"), (7, u "maxSum"), (0, u "Lcom/example/firebreak/firebreak/strategies/MaxSum;"), (8, u "seed"), (0, u "J"), (6, u "assumedError"), (0, u "D"), (55, u "clearlyBetter"), (0, u "([D[D)Z"), (28, .class_ 124), (0, u "com/example/firebreak/firebreak/strategies/LazyMaxSum$SharedNormals"), (56, .class_ 182), (0, u "com/example/firebreak/firebreak/core/Strategy"), (0, u "NAME"), (0, u "Ljava/lang/String;"), (1, u "SAMPLES"), (0, u "I"), (1, u "WINS"), (1, u "DRAWS"), (21, .class_ 214), (0, u "com/example/firebreak/firebreak/strategies/LazyMaxSum$SharedNormals$1")] 19

def k3c0 : Code := { maxStack := 6, maxLocals := 8, code := prog_48_method_3_code, exceptionTable := #[], attributes := #[] }
def k3m0 : Method := { name := "clearlyBetter", desc := "([D[D)Z", sig := { parameters := [(.array .double), (.array .double)], returnType := some .boolean }, accessFlags := 8, code := some k3c0 }
/-- com/example/firebreak/firebreak/strategies/LazyMaxSum -/
def k3 : Class := { plain "com/example/firebreak/firebreak/strategies/LazyMaxSum" (some 0) with
  accessFlags := 49
  interfaces := #[2]
  cf := some (fileOf pool3 9 #[.nestMembers #[123, 213]] #[{ accessFlags := 8, nameIndex := 93, descriptorIndex := 94, attributes := #[] }] 49 2 #[181] #[{ accessFlags := 24, nameIndex := 183, descriptorIndex := 184, attributes := #[] }, { accessFlags := 24, nameIndex := 186, descriptorIndex := 187, attributes := #[] }, { accessFlags := 24, nameIndex := 189, descriptorIndex := 187, attributes := #[] }, { accessFlags := 26, nameIndex := 191, descriptorIndex := 29, attributes := #[] }, { accessFlags := 18, nameIndex := 18, descriptorIndex := 19, attributes := #[] }, { accessFlags := 18, nameIndex := 28, descriptorIndex := 29, attributes := #[] }, { accessFlags := 18, nameIndex := 36, descriptorIndex := 37, attributes := #[] }])
  fields := #[{ name := "NAME", type := (.object "java/lang/String"), accessFlags := 24, slot := 0, constantValue := 0 }, { name := "SAMPLES", type := .int, accessFlags := 24, slot := 1, constantValue := 0 }, { name := "WINS", type := .int, accessFlags := 24, slot := 2, constantValue := 0 }, { name := "DRAWS", type := .long, accessFlags := 26, slot := 3, constantValue := 0 }, { name := "maxSum", type := (.object "com/example/firebreak/firebreak/strategies/MaxSum"), accessFlags := 18, slot := 0, constantValue := 0 }, { name := "seed", type := .long, accessFlags := 18, slot := 1, constantValue := 0 }, { name := "assumedError", type := .double, accessFlags := 18, slot := 2, constantValue := 0 }]
  methods := #[k3m0]
  instanceTypes := #[(.object "com/example/firebreak/firebreak/strategies/MaxSum"), .long, .double]
  staticTypes := #[(.object "java/lang/String"), .int, .int, .long]
  resolved := Array.replicate 234 none
  statics := none }

def pool4 : Array CpInfo := pool [(1, u "java/lang/Cloneable"), (0, .class_ 1), (0, u "java/lang/Object"), (0, .class_ 3)] 3

/-- java/lang/Cloneable -/
def k4 : Class := { plain "java/lang/Cloneable" (some 0) with
  accessFlags := 1537
  interfaces := #[]
  cf := some (fileOf pool4 2 #[] #[] 1537 4 #[] #[])
  fields := #[]
  methods := #[]
  instanceTypes := #[]
  staticTypes := #[]
  resolved := Array.replicate 8 none
  statics := none }

def pool5 : Array CpInfo := pool [(1, u "java/io/Serializable"), (0, .class_ 1), (0, u "java/lang/Object"), (0, .class_ 3)] 3

/-- java/io/Serializable -/
def k5 : Class := { plain "java/io/Serializable" (some 0) with
  accessFlags := 1537
  interfaces := #[]
  cf := some (fileOf pool5 2 #[] #[] 1537 4 #[] #[])
  fields := #[]
  methods := #[]
  instanceTypes := #[]
  staticTypes := #[]
  resolved := Array.replicate 8 none
  statics := none }

/-- the primitive byte -/
def k6 : Class := { plain "byte" none with kind := .primitive 'B', accessFlags := 0x411 }
/-- [B -/
def k7 : Class := { plain "[B" (some 0) with kind := .array 6 .byte, interfaces := #[4, 5], accessFlags := 1041 }

/-- the primitive int -/
def k8 : Class := { plain "int" none with kind := .primitive 'I', accessFlags := 0x411 }
/-- [I -/
def k9 : Class := { plain "[I" (some 0) with kind := .array 8 .int, interfaces := #[4, 5], accessFlags := 1041 }

/-- the primitive double -/
def k10 : Class := { plain "double" none with kind := .primitive 'D', accessFlags := 0x411 }
/-- [D -/
def k11 : Class := { plain "[D" (some 0) with kind := .array 10 .double, interfaces := #[4, 5], accessFlags := 1041 }

def heap : Heap := #[]
def classes : Array Class := #[k0, k1, k2, k3, k4, k5, k6, k7, k8, k9, k10, k11]
def interned : List (Array UInt16 × Addr) := []
def slotsUsed : Nat := 0
def theMethod : MethodId := ⟨1, 2⟩
def args0 : Array Value := #[.int 5000, .int 6000, .int 7000, .int 8000, .int 9000, .int 10000]
def aboutOver (below : List Frame) : State where
  vm := { classes := classes, interned := interned.toArray }
  heap := heap
  slotsUsed := slotsUsed
  threads := #[{ frames := .invoking theMethod args0 :: below }]
def below0 : List Frame := [.native { method := ⟨0, 0⟩, args := #[] }]
def about1 : State := aboutOver below0
def p0 : Program := .bare "" "" ""
def e0 : Env := launch0.env 0 0 0
theorem w_frames : about1.frames = Frame.invoking theMethod args0 :: below0 := rfl
set_option maxRecDepth 65536 in
theorem w_args : argsFit about1.vm theMethod args0 = true := by decide +kernel
set_option maxRecDepth 65536 in
theorem w_heap : heapFits about1 = true := by decide +kernel
set_option maxRecDepth 65536 in
theorem w_runnable : about1.curStatus? = some .runnable := by decide +kernel
set_option maxRecDepth 65536 in
theorem w_alone : about1.alone = true := by decide +kernel
set_option maxRecDepth 65536 in
theorem w_named : about1.methodNamed? x = some theMethod := by decide +kernel
set_option maxRecDepth 65536 in
theorem w_hears : about1.hears theMethod below0 = true := by decide +kernel
set_option maxRecDepth 65536 in
theorem w_ripe : about1.ripe theMethod args0 below0 = true := by decide +kernel
theorem w_running : about1.status = .running := rfl
set_option maxRecDepth 65536 in
theorem w_room : about1.hasRoom e0.platform room_1 = true :=
  launch0.hasRoom_least _ room_1 (by decide +kernel) (by decide +kernel) (by decide +kernel) (by decide +kernel) (by decide +kernel) (by decide +kernel)
theorem allAtoms_all (ts : List Jvm.Cond) (a : Array Jvm.Value) (st : Jvm.State) : (allAtoms ts).before a st = ts.all (fun c => c.before a st) := by
  induction ts with
  | nil => rfl
  | cons c t ih =>
    show (Jvm.Cond.and c (allAtoms t)).before a st = _
    rw [Jvm.Cond.before_and, ih, List.all_cons]
def words1 : List Jvm.Cond := Jvm.Cond.code x code maxLocals ret :: tables_1
/-- a 'code' word, met by the world's own term for the bytes: nothing is compared byte by byte -/
theorem code_word {y : MethodName} {bytes : ByteArray} {mx : Nat} {rt : Option FieldType} {a : Array Value} {s : State} {m : MethodId} {meth : Method} {c : Code} (h1 : s.methodNamed? y = some m) (h2 : s.vm.method? m = some meth) (h3 : meth.code = some c) (h4 : c.code = bytes)
    (h5 : (c.maxLocals == mx && c.exceptionTable.isEmpty && decide (c.maxStack ≤ mostOperands) && decide (meth.sig.returnType = rt) && !meth.locks && decide (parseMethodDescriptor y.desc = some meth.sig)) = true) : (Jvm.Cond.code y bytes mx rt).before a s = true := by
  simp only [Bool.and_eq_true, beq_iff_eq, Bool.not_eq_true', decide_eq_true_eq] at h5
  obtain ⟨⟨⟨⟨⟨g1, g2⟩, g3⟩, g4⟩, g5⟩, g6⟩ := h5
  simp [Cond.before, Cond.holds, Cond.value, h1, h2, h3, h4, g1, g2, g3, g4, g5, g6]
def isCode : Jvm.Cond → Bool
  | .code _ _ _ _ => true
  | _ => false
theorem all_split {L : List Jvm.Cond} {P : Jvm.Cond → Bool} (h1 : L.all (fun c => isCode c || P c) = true) (h2 : ∀ c ∈ L.filter isCode, P c = true) : L.all P = true := by
  refine List.all_eq_true.mpr fun c hc => ?_
  have h := List.all_eq_true.mp h1 c hc
  rcases Bool.eq_false_or_eq_true (isCode c) with hi | hi
  · exact h2 c (List.mem_filter.mpr ⟨hc, hi⟩)
  · simpa [hi] using h
set_option maxRecDepth 65536 in
theorem w_c0 : (Jvm.Cond.code x code maxLocals ret).before args0 about1 = true := code_word (m := ⟨1, 2⟩) (meth := k1m2) (c := k1c2) (by decide +kernel) rfl rfl rfl (by decide +kernel)
set_option maxRecDepth 65536 in
theorem w_c1 : (Jvm.Cond.code ({ cls := "com/example/firebreak/firebreak/strategies/LazyMaxSumClearlyBetterPinLaw", name := "one", desc := "(Z)I" } : Jvm.MethodName) method_2_code (1 : Nat) (Option.some Jvm.ClassFile.FieldType.int)).before args0 about1 = true := code_word (m := ⟨1, 1⟩) (meth := k1m1) (c := k1c1) (by decide +kernel) rfl rfl rfl (by decide +kernel)
set_option maxRecDepth 65536 in
theorem w_c2 : (Jvm.Cond.code ({ cls := "com/example/firebreak/firebreak/strategies/LazyMaxSum", name := "clearlyBetter", desc := "([D[D)Z" } : Jvm.MethodName) prog_48_method_3_code (8 : Nat) (Option.some Jvm.ClassFile.FieldType.boolean)).before args0 about1 = true := code_word (m := ⟨3, 0⟩) (meth := k3m0) (c := k3c0) (by decide +kernel) rfl rfl rfl (by decide +kernel)
def codes1 : List Jvm.Cond := [Jvm.Cond.code x code maxLocals ret, Jvm.Cond.code ({ cls := "com/example/firebreak/firebreak/strategies/LazyMaxSumClearlyBetterPinLaw", name := "one", desc := "(Z)I" } : Jvm.MethodName) method_2_code (1 : Nat) (Option.some Jvm.ClassFile.FieldType.int), Jvm.Cond.code ({ cls := "com/example/firebreak/firebreak/strategies/LazyMaxSum", name := "clearlyBetter", desc := "([D[D)Z" } : Jvm.MethodName) prog_48_method_3_code (8 : Nat) (Option.some Jvm.ClassFile.FieldType.boolean)]
set_option maxRecDepth 65536 in
theorem codes_eq : words1.filter isCode = codes1 := rfl
theorem w_codes : ∀ c ∈ words1.filter isCode, c.before args0 about1 = true := by
  rw [codes_eq]
  intro c hc
  simp only [codes1, List.mem_cons, List.not_mem_nil, or_false] at hc
  rcases hc with rfl | rfl | rfl
  · exact w_c0
  · exact w_c1
  · exact w_c2
set_option maxRecDepth 65536 in
theorem w_t1 : words1.all (fun c => isCode c || c.before args0 about1) = true := by decide +kernel
theorem w_tables : (allAtoms (Jvm.Cond.code x code maxLocals ret :: tables_1)).before args0 about1 = true := by
  rw [allAtoms_all]
  show words1.all (fun c => c.before args0 about1) = true
  refine all_split ?_ w_codes
  rw [w_t1]
set_option maxRecDepth 65536 in
theorem w_case : (Jvm.Cond.and given_1 narrow_1).before args0 about1 = true := by decide +kernel
theorem w_applies : (headSpec (Jvm.Cond.code x code maxLocals ret :: tables_1) room_1).applies x e0.platform about1 = true :=
  (Spec.applies_iff w_frames).mpr ⟨w_running, w_runnable, w_alone, w_named, w_hears, w_ripe, w_room, w_tables⟩
theorem atStart : AtStart classFile x code maxLocals ret World_1 tables_1 room_1 Calls_1 rest_1 Pre_1 launch0 p0 e0 about1 theMethod args0 below0 :=
  ⟨lists_1, trivial, launch0.admits_env _ _ _, launch0.least_env, fairChoices_fair.cas, fairChoices_fair.clock, w_frames, w_args, w_heap, w_applies, trivial, trivial, w_case⟩
end start1
theorem witness_1 : WitnessClaimed_1 := ⟨start1.p0, start1.e0, start1.about1, start1.theMethod, start1.args0, start1.below0, start1.atStart⟩
end Jvm.Pilot.@@N@@
