import JvmDerived
import JvmDerived.Pilot.@@N@@Statement
import JvmDerived.Pilot.@@N@@Code
set_option linter.unusedVariables false
set_option linter.unusedSimpArgs false
namespace Jvm.RoadKit
open Sem ClassFile Op Lib Jvm.Stand Jvm.Free Jvm.LawKit
section New
variable {p : Program} {l : Launch} {e : Env} {R : Room} {s : State} {m : MethodId} {args : Array Value} {below : List Frame} {meth : Method} {c : Code} {T : State} {locs : List Loc} {cells slots : Nat}
theorem retI (X : Stand p l e R s m args below meth c T locs cells slots) (hx : p.tables.exec = Jvm.exec) {pc : Nat} {Ls : Array Slot} {z : Int32} {rest : List Value} (hret : meth.sig.returnType = some .int) (hd : decode c.code pc = .ok (.ireturn, 1)) {fs : List Frame}
    (hl : ∀ (f : JFrame) (acts : List Action), f.method = m → f.locked = none → f.entered = [] → (doReturn e (T.setTop f) acts (some (.int z))).1 = T.setFrames fs) : Steps p.tables e below (T.setTop (mkF m pc Ls (.int z :: rest))) (T.setFrames fs) := by
  have hm' : T.vm.method? m = some meth := X.method'
  have hn : narrow .int (.int z) = .int z := rfl
  show Steps p.tables e below (T.setTop { method := m, pc := pc, locals := Ls, stack := _ :: rest, locked := none }) _
  jvm_step X.here [X.here.top, hx, hd, hm', hret, hn]
  first | (intro acts; rw [hl _ acts rfl rfl rfl]) | rw [hl _ _ rfl rfl rfl]
  exact Steps.refl _
end New
end Jvm.RoadKit
namespace Jvm.Pilot.@@N@@
open Jvm Jvm.ClassFile Sem Op Lib Jvm.Free Jvm.Stand Jvm.LawKit Jvm.RoadKit Bundle Jvm.Pilot.@@N@@.Jvm.D
theorem own_le {a b : Nat} (h : a = b) : 2 * 0 + a ≤ b := by omega
theorem own_m (i : Nat) {d : Jvm.Cond} (h : tables_1[i]? = some d) : d ∈ tables_1 := List.mem_of_getElem? h
/-- from the state T at the frame g the method comes to its return, with Q of what it returns -/
def own_Goes (tb : Tables) (e : Env) (below : List Frame) (s : State) (Q : Option Value → Heap → List Loc → Prop) (rc rs : Nat) (T : State) (g : JFrame) : Prop :=
  ∃ s₂ o, Steps tb e below (T.setTop g) s₂ ∧ s₂.status = .running ∧ Ended s₂ below o ∧ ∃ v L, o = .returned v ∧ Q v s₂.heap L ∧ FrameEnd s o s₂ L rc rs
theorem own_by {tb : Tables} {e : Env} {below : List Frame} {s : State} {Q : Option Value → Heap → List Loc → Prop} {rc rs : Nat} {T T' : State} {g g' : JFrame} (h : ∀ t, Steps tb e below (T'.setTop g') t → Steps tb e below (T.setTop g) t) (k : own_Goes tb e below s Q rc rs T' g') : own_Goes tb e below s Q rc rs T g := by
  obtain ⟨s₂, o, h1, h2⟩ := k
  exact ⟨s₂, o, h _ h1, h2⟩
section OwnRet
variable {p : Program} {l : Launch} {e : Env} {R : Room} {s : State} {m : MethodId} {args : Array Value} {below : List Frame} {meth : Method} {c : Code} {T : State} {locs : List Loc} {cells slots : Nat} {Q : Option Value → Heap → List Loc → Prop} {rc rs : Nat} {pc : Nat} {Ls : Array Slot} {rest : List Value}
theorem own_retI (X : Stand p l e R s m args below meth c T locs cells slots) (hx : p.tables.exec = Jvm.exec) {z : Int32} (hlk : meth.locks = false) (hret : meth.sig.returnType = some .int) (hd : decode c.code pc = .ok (.ireturn, 1)) (hc : cells ≤ rc) (hs : slots ≤ rs)
    (hQ : Q (some (.int z)) T.heap locs) : own_Goes p.tables e below s Q rc rs T (mkF m pc Ls (.int z :: rest)) := by
  obtain ⟨fs, hr, hrun, hended, hW, hsame⟩ := X.leave (v := some (.int z)) (fun h => by rw [hret] at h; cases h)
  exact ⟨_, _, retI X hx hret hd hr, hrun, hended, _, _, rfl, hQ, ⟨_, rfl⟩, hW, hsame.mono hc hs⟩
theorem own_retN (X : Stand p l e R s m args below meth c T locs cells slots) (hx : p.tables.exec = Jvm.exec) {z : Int32} {t : FieldType} (hlk : meth.locks = false) (hret : meth.sig.returnType = some t) (ht : t = .boolean ∨ t = .byte ∨ t = .char ∨ t = .short) (hd : decode c.code pc = .ok (.ireturn, 1)) (hc : cells ≤ rc) (hs : slots ≤ rs)
    (hQ : Q (some (.int (nar t z))) T.heap locs) : own_Goes p.tables e below s Q rc rs T (mkF m pc Ls (.int z :: rest)) := by
  obtain ⟨fs, hr, hrun, hended, hW, hsame⟩ := X.leave (v := some (.int (nar t z))) (fun h => by rw [hret] at h; cases h)
  exact ⟨_, _, retN X hx hret ht hd hr, hrun, hended, _, _, rfl, hQ, ⟨_, rfl⟩, hW, hsame.mono hc hs⟩
theorem own_retV (X : Stand p l e R s m args below meth c T locs cells slots) (hx : p.tables.exec = Jvm.exec) (hlk : meth.locks = false) (hret : meth.sig.returnType = none) (hd : decode c.code pc = .ok (.return_, 1)) (hc : cells ≤ rc) (hs : slots ≤ rs)
    (hQ : Q none T.heap locs) : own_Goes p.tables e below s Q rc rs T (mkF m pc Ls []) := by
  obtain ⟨fs, hr, hrun, hended, hW, hsame⟩ := X.leave (v := none) (fun _ => rfl)
  exact ⟨_, _, X.returnOut hx hret hd hr, hrun, hended, _, _, rfl, hQ, ⟨_, rfl⟩, hW, hsame.mono hc hs⟩
theorem own_retJ (X : Stand p l e R s m args below meth c T locs cells slots) (hx : p.tables.exec = Jvm.exec) {z : Int64} (hlk : meth.locks = false) (hret : meth.sig.returnType = some .long) (hd : decode c.code pc = .ok (.lreturn, 1)) (hc : cells ≤ rc) (hs : slots ≤ rs)
    (hQ : Q (some (.long z)) T.heap locs) : own_Goes p.tables e below s Q rc rs T (mkF m pc Ls (.long z :: rest)) := by
  obtain ⟨fs, hr, hrun, hended, hW, hsame⟩ := X.leave (v := some (.long z)) (fun h => by rw [hret] at h; cases h)
  exact ⟨_, _, retOut X hx hret rfl (Or.inr (Or.inl ⟨rfl, rfl, _, rfl⟩)) hd hr, hrun, hended, _, _, rfl, hQ, ⟨_, rfl⟩, hW, hsame.mono hc hs⟩
theorem own_retD (X : Stand p l e R s m args below meth c T locs cells slots) (hx : p.tables.exec = Jvm.exec) {z : UInt64} (hlk : meth.locks = false) (hret : meth.sig.returnType = some .double) (hd : decode c.code pc = .ok (.dreturn, 1)) (hc : cells ≤ rc) (hs : slots ≤ rs)
    (hQ : Q (some (.double z)) T.heap locs) : own_Goes p.tables e below s Q rc rs T (mkF m pc Ls (.double z :: rest)) := by
  obtain ⟨fs, hr, hrun, hended, hW, hsame⟩ := X.leave (v := some (.double z)) (fun h => by rw [hret] at h; cases h)
  exact ⟨_, _, retOut X hx hret rfl (Or.inr (Or.inr (Or.inl ⟨rfl, rfl, _, rfl⟩))) hd hr, hrun, hended, _, _, rfl, hQ, ⟨_, rfl⟩, hW, hsame.mono hc hs⟩
theorem own_retA (X : Stand p l e R s m args below meth c T locs cells slots) (hx : p.tables.exec = Jvm.exec) {w : Value} {t : FieldType} (hlk : meth.locks = false) (hret : meth.sig.returnType = some t) (ht : t.isReference = true) (hw : w.isRef = true) (hn : narrow t w = w) (hd : decode c.code pc = .ok (.areturn, 1)) (hc : cells ≤ rc) (hs : slots ≤ rs)
    (hQ : Q (some w) T.heap locs) : own_Goes p.tables e below s Q rc rs T (mkF m pc Ls (w :: rest)) := by
  obtain ⟨fs, hr, hrun, hended, hW, hsame⟩ := X.leave (v := some w) (fun h => by rw [hret] at h; cases h)
  exact ⟨_, _, retOut X hx hret hn (Or.inr (Or.inr (Or.inr (Or.inr ⟨rfl, ht, hw⟩)))) hd hr, hrun, hended, _, _, rfl, hQ, ⟨_, rfl⟩, hW, hsame.mono hc hs⟩
end OwnRet
theorem own_nsE {Z : State} {h : Heap} {a : Addr} {C : String} (E : Exa Z h a C) : ∃ c : Cell, h[a]? = some c ∧ c.vm.isStatics = false := by
  obtain ⟨c, k, h1, -, -, h4, -⟩ := E
  exact ⟨c, h1, h4⟩
theorem own_nsV {Z : State} {h : Heap} {a : Addr} {k : ClassId} {ty : FieldType} {n : Int32} {vs : List Value} {d : Value} (F : Arv Z h a k ty n vs d) : ∃ c : Cell, h[a]? = some c ∧ c.vm.isStatics = false := by
  obtain ⟨c, A, -⟩ := F
  exact ⟨c, A.1, A.plain⟩
theorem own_staKeep {Z : State} {h h' : Heap} {C n d : String} {v : Value} {ws : List Addr} (S : Sta Z h C n d v) (K : Keep h h' ws) (q : ∀ x ∈ ws, ∃ c : Cell, h[x]? = some c ∧ c.vm.isStatics = false) : Sta Z h' C n d v := by
  obtain ⟨cf, i, k, f, st, cell, h1, h2, h3, h4, h5, h6, h7⟩ := S
  refine ⟨cf, i, k, f, st, cell, h1, h2, h3, h4, K.2.1 st cell h5 (fun hin => ?_), h6, h7⟩
  obtain ⟨c, hc, hs⟩ := q st hin
  rw [h5] at hc
  cases hc
  rw [h6] at hs
  cases hs
theorem own_arrKeep {Z : State} {h h' : Heap} {a : Addr} {c : Cell} {ty : FieldType} {ws : List Addr} (A : Arr Z h a c ty) (K : Keep h h' ws) (q : a ∉ ws) : Arr Z h' a c ty := ⟨K.2.1 a c A.1 q, A.2⟩
abbrev Ls0 (x0 : UInt64) (x1 : UInt64) : Array Slot := #[.val (.double x0), .second, .val (.double x1), .second]
abbrev Ls1 (x0 : UInt64) (x1 : UInt64) (x2 : UInt64) (x3 : UInt64) : Array Slot := #[.val (.double x0), .second, .val (.double x1), .second, .val (.double x2), .second, .val (.double x3), .second]
abbrev Ls2 (x0 : Addr) (x1 : UInt64) (x2 : UInt64) (x3 : UInt64) (x4 : UInt64) (x5 : UInt64) : Array Slot := #[.val (.ref x0), .val (.double x1), .second, .val (.double x2), .second, .val (.double x3), .second, .val (.double x4), .second, .val (.double x5), .second]
abbrev Ls3 (x0 : Addr) (x1 : Int32) : Array Slot := #[.val (.ref x0), .val (.int x1), .unset]
abbrev Ls4 (x0 : Addr) (x1 : Int32) (x2 : Int32) : Array Slot := #[.val (.ref x0), .val (.int x1), .val (.int x2)]
abbrev Ls5 (x0 : Addr) (x1 : Int32) : Array Slot := #[.val (.ref x0), .val (.int x1)]
abbrev Ls6 (x0 : Addr) (x1 : Addr) : Array Slot := #[.val (.ref x0), .val (.ref x1), .unset]
abbrev Ls7 (x0 : Addr) (x1 : Addr) (x2 : Int32) : Array Slot := #[.val (.ref x0), .val (.ref x1), .val (.int x2)]
abbrev Ls8 (x0 : Addr) : Array Slot := #[.val (.ref x0), .unset]
abbrev Ls9 (x0 : Addr) (x1 : Addr) : Array Slot := #[.val (.ref x0), .val (.ref x1)]
abbrev Ls10 (x0 : Int32) (x1 : Int32) : Array Slot := #[.val (.int x0), .val (.int x1)]
abbrev Ls11 (x0 : Addr) (x1 : Addr) (x2 : Addr) (x3 : Int32) (x4 : Int32) (x5 : Int32) : Array Slot := #[.val (.ref x0), .val (.ref x1), .val (.ref x2), .val (.int x3), .val (.int x4), .val (.int x5), .unset, .unset, .unset]
abbrev Ls12 (x0 : Addr) (x1 : Addr) (x2 : Addr) (x3 : Int32) (x4 : Int32) (x5 : Int32) (x6 : Int32) : Array Slot := #[.val (.ref x0), .val (.ref x1), .val (.ref x2), .val (.int x3), .val (.int x4), .val (.int x5), .val (.int x6), .unset, .unset]
abbrev Ls13 (x0 : Addr) (x1 : Addr) (x2 : Addr) (x3 : Int32) (x4 : Int32) (x5 : Int32) (x6 : Int32) (x7 : Int32) : Array Slot := #[.val (.ref x0), .val (.ref x1), .val (.ref x2), .val (.int x3), .val (.int x4), .val (.int x5), .val (.int x6), .val (.int x7), .unset]
abbrev Ls14 (x0 : Addr) (x1 : Addr) (x2 : Addr) (x3 : Int32) (x4 : Int32) (x5 : Int32) (x6 : Int32) (x7 : Int32) (x8 : Int32) : Array Slot := #[.val (.ref x0), .val (.ref x1), .val (.ref x2), .val (.int x3), .val (.int x4), .val (.int x5), .val (.int x6), .val (.int x7), .val (.int x8)]
abbrev Ls15 (x0 : Addr) (x1 : Addr) (x2 : Addr) : Array Slot := #[.val (.ref x0), .val (.ref x1), .val (.ref x2), .unset, .unset, .unset, .unset, .unset, .unset, .unset, .unset, .unset, .unset]
abbrev Ls16 (x0 : Addr) (x1 : Addr) (x2 : Addr) (x3 : Addr) : Array Slot := #[.val (.ref x0), .val (.ref x1), .val (.ref x2), .val (.ref x3), .unset, .unset, .unset, .unset, .unset, .unset, .unset, .unset, .unset]
abbrev Ls17 (x0 : Addr) (x1 : Addr) (x2 : Addr) (x3 : Addr) (x4 : Addr) : Array Slot := #[.val (.ref x0), .val (.ref x1), .val (.ref x2), .val (.ref x3), .val (.ref x4), .unset, .unset, .unset, .unset, .unset, .unset, .unset, .unset]
abbrev Ls18 (x0 : Addr) (x1 : Addr) (x2 : Addr) (x3 : Addr) (x4 : Addr) (x5 : Addr) : Array Slot := #[.val (.ref x0), .val (.ref x1), .val (.ref x2), .val (.ref x3), .val (.ref x4), .val (.ref x5), .unset, .unset, .unset, .unset, .unset, .unset, .unset]
abbrev Ls19 (x0 : Addr) (x1 : Addr) (x2 : Addr) (x3 : Addr) (x4 : Addr) (x5 : Addr) (x6 : Int32) : Array Slot := #[.val (.ref x0), .val (.ref x1), .val (.ref x2), .val (.ref x3), .val (.ref x4), .val (.ref x5), .val (.int x6), .unset, .unset, .unset, .unset, .unset, .unset]
abbrev Ls20 (x0 : Addr) (x1 : Addr) (x2 : Addr) (x3 : Addr) (x4 : Addr) (x5 : Addr) (x6 : Int32) (x7 : Int32) : Array Slot := #[.val (.ref x0), .val (.ref x1), .val (.ref x2), .val (.ref x3), .val (.ref x4), .val (.ref x5), .val (.int x6), .val (.int x7), .unset, .unset, .unset, .unset, .unset]
abbrev Ls21 (x0 : Addr) (x1 : Addr) (x2 : Addr) (x3 : Addr) (x4 : Addr) (x5 : Addr) (x6 : Int32) (x7 : Addr) : Array Slot := #[.val (.ref x0), .val (.ref x1), .val (.ref x2), .val (.ref x3), .val (.ref x4), .val (.ref x5), .val (.int x6), .val (.ref x7), .unset, .unset, .unset, .unset, .unset]
abbrev Ls22 (x0 : Addr) (x1 : Addr) (x2 : Addr) (x3 : Addr) (x4 : Addr) (x5 : Addr) (x6 : Int32) (x7 : Addr) (x8 : Addr) : Array Slot := #[.val (.ref x0), .val (.ref x1), .val (.ref x2), .val (.ref x3), .val (.ref x4), .val (.ref x5), .val (.int x6), .val (.ref x7), .val (.ref x8), .unset, .unset, .unset, .unset]
abbrev Ls23 (x0 : Addr) (x1 : Addr) (x2 : Addr) (x3 : Addr) (x4 : Addr) (x5 : Addr) (x6 : Int32) (x7 : Addr) (x8 : Addr) (x9 : Int32) : Array Slot := #[.val (.ref x0), .val (.ref x1), .val (.ref x2), .val (.ref x3), .val (.ref x4), .val (.ref x5), .val (.int x6), .val (.ref x7), .val (.ref x8), .val (.int x9), .unset, .unset, .unset]
abbrev Ls24 (x0 : Addr) (x1 : Addr) (x2 : Addr) (x3 : Addr) (x4 : Addr) (x5 : Addr) (x6 : Int32) (x7 : Addr) (x8 : Addr) (x9 : Int32) (x10 : Int32) : Array Slot := #[.val (.ref x0), .val (.ref x1), .val (.ref x2), .val (.ref x3), .val (.ref x4), .val (.ref x5), .val (.int x6), .val (.ref x7), .val (.ref x8), .val (.int x9), .val (.int x10), .unset, .unset]
abbrev Ls25 (x0 : Addr) (x1 : Addr) (x2 : Addr) (x3 : Addr) (x4 : Addr) (x5 : Addr) (x6 : Int32) (x7 : Addr) (x8 : Addr) (x9 : Int32) (x10 : Int32) (x11 : Int32) : Array Slot := #[.val (.ref x0), .val (.ref x1), .val (.ref x2), .val (.ref x3), .val (.ref x4), .val (.ref x5), .val (.int x6), .val (.ref x7), .val (.ref x8), .val (.int x9), .val (.int x10), .val (.int x11), .unset]
abbrev Ls26 (x0 : Addr) (x1 : Addr) (x2 : Addr) (x3 : Addr) (x4 : Addr) (x5 : Addr) (x6 : Int32) (x7 : Addr) (x8 : Addr) (x9 : Int32) (x10 : Addr) (x11 : Int32) : Array Slot := #[.val (.ref x0), .val (.ref x1), .val (.ref x2), .val (.ref x3), .val (.ref x4), .val (.ref x5), .val (.int x6), .val (.ref x7), .val (.ref x8), .val (.int x9), .val (.ref x10), .val (.int x11), .unset]
abbrev Ls27 (x0 : Addr) (x1 : Addr) (x2 : Addr) (x3 : Addr) (x4 : Addr) (x5 : Addr) (x6 : Int32) (x7 : Addr) (x8 : Addr) (x9 : Int32) (x10 : Int32) (x11 : UInt64) : Array Slot := #[.val (.ref x0), .val (.ref x1), .val (.ref x2), .val (.ref x3), .val (.ref x4), .val (.ref x5), .val (.int x6), .val (.ref x7), .val (.ref x8), .val (.int x9), .val (.int x10), .val (.double x11), .second]
abbrev Ls28 (x0 : Addr) (x1 : Addr) (x2 : Addr) : Array Slot := #[.val (.ref x0), .val (.ref x1), .val (.ref x2), .unset, .unset, .unset, .unset, .unset, .unset, .unset, .unset, .unset, .unset, .unset, .unset, .unset, .unset, .unset]
abbrev Ls29 (x0 : Addr) (x1 : Addr) (x2 : Addr) (x3 : Addr) : Array Slot := #[.val (.ref x0), .val (.ref x1), .val (.ref x2), .val (.ref x3), .unset, .unset, .unset, .unset, .unset, .unset, .unset, .unset, .unset, .unset, .unset, .unset, .unset, .unset]
abbrev Ls30 (x0 : Addr) (x1 : Addr) (x2 : Addr) (x3 : Addr) (x4 : Addr) : Array Slot := #[.val (.ref x0), .val (.ref x1), .val (.ref x2), .val (.ref x3), .val (.ref x4), .unset, .unset, .unset, .unset, .unset, .unset, .unset, .unset, .unset, .unset, .unset, .unset, .unset]
abbrev Ls31 (x0 : Addr) (x1 : Addr) (x2 : Addr) (x3 : Addr) (x4 : Addr) (x5 : Addr) : Array Slot := #[.val (.ref x0), .val (.ref x1), .val (.ref x2), .val (.ref x3), .val (.ref x4), .val (.ref x5), .unset, .unset, .unset, .unset, .unset, .unset, .unset, .unset, .unset, .unset, .unset, .unset]
abbrev Ls32 (x0 : Addr) (x1 : Addr) (x2 : Addr) (x3 : Addr) (x4 : Addr) (x5 : Addr) (x6 : Addr) : Array Slot := #[.val (.ref x0), .val (.ref x1), .val (.ref x2), .val (.ref x3), .val (.ref x4), .val (.ref x5), .val (.ref x6), .unset, .unset, .unset, .unset, .unset, .unset, .unset, .unset, .unset, .unset, .unset]
abbrev Ls33 (x0 : Addr) (x1 : Addr) (x2 : Addr) (x3 : Addr) (x4 : Addr) (x5 : Addr) (x6 : Addr) (x7 : Addr) : Array Slot := #[.val (.ref x0), .val (.ref x1), .val (.ref x2), .val (.ref x3), .val (.ref x4), .val (.ref x5), .val (.ref x6), .val (.ref x7), .unset, .unset, .unset, .unset, .unset, .unset, .unset, .unset, .unset, .unset]
abbrev Ls34 (x0 : Addr) (x1 : Addr) (x2 : Addr) (x3 : Addr) (x4 : Addr) (x5 : Addr) (x6 : Addr) (x7 : Addr) (x8 : Addr) : Array Slot := #[.val (.ref x0), .val (.ref x1), .val (.ref x2), .val (.ref x3), .val (.ref x4), .val (.ref x5), .val (.ref x6), .val (.ref x7), .val (.ref x8), .unset, .unset, .unset, .unset, .unset, .unset, .unset, .unset, .unset]
abbrev Ls35 (x0 : Addr) (x1 : Addr) (x2 : Addr) (x3 : Addr) (x4 : Addr) (x5 : Addr) (x6 : Addr) (x7 : Addr) (x8 : Addr) (x9 : Addr) : Array Slot := #[.val (.ref x0), .val (.ref x1), .val (.ref x2), .val (.ref x3), .val (.ref x4), .val (.ref x5), .val (.ref x6), .val (.ref x7), .val (.ref x8), .val (.ref x9), .unset, .unset, .unset, .unset, .unset, .unset, .unset, .unset]
abbrev Ls36 (x0 : Addr) (x1 : Addr) (x2 : Addr) (x3 : Addr) (x4 : Addr) (x5 : Addr) (x6 : Addr) (x7 : Addr) (x8 : Addr) (x9 : Addr) (x10 : Int32) : Array Slot := #[.val (.ref x0), .val (.ref x1), .val (.ref x2), .val (.ref x3), .val (.ref x4), .val (.ref x5), .val (.ref x6), .val (.ref x7), .val (.ref x8), .val (.ref x9), .val (.int x10), .unset, .unset, .unset, .unset, .unset, .unset, .unset]
abbrev Ls37 (x0 : Addr) (x1 : Addr) (x2 : Addr) (x3 : Addr) (x4 : Addr) (x5 : Addr) (x6 : Addr) (x7 : Addr) (x8 : Addr) (x9 : Addr) (x10 : Int32) (x11 : UInt64) : Array Slot := #[.val (.ref x0), .val (.ref x1), .val (.ref x2), .val (.ref x3), .val (.ref x4), .val (.ref x5), .val (.ref x6), .val (.ref x7), .val (.ref x8), .val (.ref x9), .val (.int x10), .val (.double x11), .second, .unset, .unset, .unset, .unset, .unset]
abbrev Ls38 (x0 : Addr) (x1 : Addr) (x2 : Addr) (x3 : Addr) (x4 : Addr) (x5 : Addr) (x6 : Addr) (x7 : Addr) (x8 : Addr) (x9 : Addr) (x10 : Int32) (x11 : UInt64) (x12 : UInt64) : Array Slot := #[.val (.ref x0), .val (.ref x1), .val (.ref x2), .val (.ref x3), .val (.ref x4), .val (.ref x5), .val (.ref x6), .val (.ref x7), .val (.ref x8), .val (.ref x9), .val (.int x10), .val (.double x11), .second, .val (.double x12), .second, .unset, .unset, .unset]
abbrev Ls39 (x0 : Addr) (x1 : Addr) (x2 : Addr) (x3 : Addr) (x4 : Addr) (x5 : Addr) (x6 : Addr) (x7 : Addr) (x8 : Addr) (x9 : Addr) (x10 : Int32) (x11 : UInt64) (x12 : UInt64) (x13 : UInt64) : Array Slot := #[.val (.ref x0), .val (.ref x1), .val (.ref x2), .val (.ref x3), .val (.ref x4), .val (.ref x5), .val (.ref x6), .val (.ref x7), .val (.ref x8), .val (.ref x9), .val (.int x10), .val (.double x11), .second, .val (.double x12), .second, .val (.double x13), .second, .unset]
abbrev Ls40 (x0 : Addr) (x1 : Addr) (x2 : Addr) (x3 : Addr) (x4 : Addr) (x5 : Addr) (x6 : Addr) (x7 : Addr) (x8 : Addr) (x9 : Addr) (x10 : Int32) (x11 : UInt64) (x12 : UInt64) (x13 : UInt64) (x14 : Int32) : Array Slot := #[.val (.ref x0), .val (.ref x1), .val (.ref x2), .val (.ref x3), .val (.ref x4), .val (.ref x5), .val (.ref x6), .val (.ref x7), .val (.ref x8), .val (.ref x9), .val (.int x10), .val (.double x11), .second, .val (.double x12), .second, .val (.double x13), .second, .val (.int x14)]
abbrev Ls41 (x0 : Int32) (x1 : Int32) (x2 : Int32) (x3 : Int32) (x4 : Int32) : Array Slot := #[.val (.int x0), .val (.int x1), .val (.int x2), .val (.int x3), .val (.int x4), .unset, .unset, .unset, .unset, .unset, .unset, .unset, .unset, .unset, .unset, .unset, .unset, .unset, .unset, .unset, .unset, .unset, .unset, .unset, .unset, .unset, .unset, .unset, .unset]
abbrev Ls42 (x0 : Int32) (x1 : Int32) (x2 : Int32) (x3 : Int32) (x4 : Int32) (x5 : UInt64) : Array Slot := #[.val (.int x0), .val (.int x1), .val (.int x2), .val (.int x3), .val (.int x4), .val (.double x5), .second, .unset, .unset, .unset, .unset, .unset, .unset, .unset, .unset, .unset, .unset, .unset, .unset, .unset, .unset, .unset, .unset, .unset, .unset, .unset, .unset, .unset, .unset]
abbrev Ls43 (x0 : Int32) (x1 : Int32) (x2 : Int32) (x3 : Int32) (x4 : Int32) (x5 : UInt64) (x6 : UInt64) : Array Slot := #[.val (.int x0), .val (.int x1), .val (.int x2), .val (.int x3), .val (.int x4), .val (.double x5), .second, .val (.double x6), .second, .unset, .unset, .unset, .unset, .unset, .unset, .unset, .unset, .unset, .unset, .unset, .unset, .unset, .unset, .unset, .unset, .unset, .unset, .unset, .unset]
abbrev Ls44 (x0 : Int32) (x1 : Int32) (x2 : Int32) (x3 : Int32) (x4 : Int32) (x5 : UInt64) (x6 : UInt64) (x7 : UInt64) : Array Slot := #[.val (.int x0), .val (.int x1), .val (.int x2), .val (.int x3), .val (.int x4), .val (.double x5), .second, .val (.double x6), .second, .val (.double x7), .second, .unset, .unset, .unset, .unset, .unset, .unset, .unset, .unset, .unset, .unset, .unset, .unset, .unset, .unset, .unset, .unset, .unset, .unset]
abbrev Ls45 (x0 : Int32) (x1 : Int32) (x2 : Int32) (x3 : Int32) (x4 : Int32) (x5 : UInt64) (x6 : UInt64) (x7 : UInt64) (x8 : UInt64) : Array Slot := #[.val (.int x0), .val (.int x1), .val (.int x2), .val (.int x3), .val (.int x4), .val (.double x5), .second, .val (.double x6), .second, .val (.double x7), .second, .val (.double x8), .second, .unset, .unset, .unset, .unset, .unset, .unset, .unset, .unset, .unset, .unset, .unset, .unset, .unset, .unset, .unset, .unset]
abbrev Ls46 (x0 : Int32) (x1 : Int32) (x2 : Int32) (x3 : Int32) (x4 : Int32) (x5 : UInt64) (x6 : UInt64) (x7 : UInt64) (x8 : UInt64) (x9 : UInt64) : Array Slot := #[.val (.int x0), .val (.int x1), .val (.int x2), .val (.int x3), .val (.int x4), .val (.double x5), .second, .val (.double x6), .second, .val (.double x7), .second, .val (.double x8), .second, .val (.double x9), .second, .unset, .unset, .unset, .unset, .unset, .unset, .unset, .unset, .unset, .unset, .unset, .unset, .unset, .unset]
abbrev Ls47 (x0 : Int32) (x1 : Int32) (x2 : Int32) (x3 : Int32) (x4 : Int32) (x5 : UInt64) (x6 : UInt64) (x7 : UInt64) (x8 : UInt64) (x9 : UInt64) (x10 : UInt64) : Array Slot := #[.val (.int x0), .val (.int x1), .val (.int x2), .val (.int x3), .val (.int x4), .val (.double x5), .second, .val (.double x6), .second, .val (.double x7), .second, .val (.double x8), .second, .val (.double x9), .second, .val (.double x10), .second, .unset, .unset, .unset, .unset, .unset, .unset, .unset, .unset, .unset, .unset, .unset, .unset]
abbrev Ls48 (x0 : Int32) (x1 : Int32) (x2 : Int32) (x3 : Int32) (x4 : Int32) (x5 : UInt64) (x6 : UInt64) (x7 : UInt64) (x8 : UInt64) (x9 : UInt64) (x10 : UInt64) (x11 : UInt64) : Array Slot := #[.val (.int x0), .val (.int x1), .val (.int x2), .val (.int x3), .val (.int x4), .val (.double x5), .second, .val (.double x6), .second, .val (.double x7), .second, .val (.double x8), .second, .val (.double x9), .second, .val (.double x10), .second, .val (.double x11), .second, .unset, .unset, .unset, .unset, .unset, .unset, .unset, .unset, .unset, .unset]
abbrev Ls49 (x0 : Int32) (x1 : Int32) (x2 : Int32) (x3 : Int32) (x4 : Int32) (x5 : UInt64) (x6 : UInt64) (x7 : UInt64) (x8 : UInt64) (x9 : UInt64) (x10 : UInt64) (x11 : UInt64) (x12 : Addr) : Array Slot := #[.val (.int x0), .val (.int x1), .val (.int x2), .val (.int x3), .val (.int x4), .val (.double x5), .second, .val (.double x6), .second, .val (.double x7), .second, .val (.double x8), .second, .val (.double x9), .second, .val (.double x10), .second, .val (.double x11), .second, .val (.ref x12), .unset, .unset, .unset, .unset, .unset, .unset, .unset, .unset, .unset]
abbrev Ls50 (x0 : Int32) (x1 : Int32) (x2 : Int32) (x3 : Int32) (x4 : Int32) (x5 : UInt64) (x6 : UInt64) (x7 : UInt64) (x8 : UInt64) (x9 : UInt64) (x10 : UInt64) (x11 : UInt64) (x12 : Addr) (x13 : Addr) : Array Slot := #[.val (.int x0), .val (.int x1), .val (.int x2), .val (.int x3), .val (.int x4), .val (.double x5), .second, .val (.double x6), .second, .val (.double x7), .second, .val (.double x8), .second, .val (.double x9), .second, .val (.double x10), .second, .val (.double x11), .second, .val (.ref x12), .val (.ref x13), .unset, .unset, .unset, .unset, .unset, .unset, .unset, .unset]
abbrev Ls51 (x0 : Int32) (x1 : Int32) (x2 : Int32) (x3 : Int32) (x4 : Int32) (x5 : UInt64) (x6 : UInt64) (x7 : UInt64) (x8 : UInt64) (x9 : UInt64) (x10 : UInt64) (x11 : UInt64) (x12 : Addr) (x13 : Addr) (x14 : Addr) : Array Slot := #[.val (.int x0), .val (.int x1), .val (.int x2), .val (.int x3), .val (.int x4), .val (.double x5), .second, .val (.double x6), .second, .val (.double x7), .second, .val (.double x8), .second, .val (.double x9), .second, .val (.double x10), .second, .val (.double x11), .second, .val (.ref x12), .val (.ref x13), .val (.ref x14), .unset, .unset, .unset, .unset, .unset, .unset, .unset]
abbrev Ls52 (x0 : Int32) (x1 : Int32) (x2 : Int32) (x3 : Int32) (x4 : Int32) (x5 : UInt64) (x6 : UInt64) (x7 : UInt64) (x8 : UInt64) (x9 : UInt64) (x10 : UInt64) (x11 : UInt64) (x12 : Addr) (x13 : Addr) (x14 : Addr) (x15 : Addr) : Array Slot := #[.val (.int x0), .val (.int x1), .val (.int x2), .val (.int x3), .val (.int x4), .val (.double x5), .second, .val (.double x6), .second, .val (.double x7), .second, .val (.double x8), .second, .val (.double x9), .second, .val (.double x10), .second, .val (.double x11), .second, .val (.ref x12), .val (.ref x13), .val (.ref x14), .val (.ref x15), .unset, .unset, .unset, .unset, .unset, .unset]
abbrev Ls53 (x0 : Int32) (x1 : Int32) (x2 : Int32) (x3 : Int32) (x4 : Int32) (x5 : UInt64) (x6 : UInt64) (x7 : UInt64) (x8 : UInt64) (x9 : UInt64) (x10 : UInt64) (x11 : UInt64) (x12 : Addr) (x13 : Addr) (x14 : Addr) (x15 : Addr) (x16 : Addr) : Array Slot := #[.val (.int x0), .val (.int x1), .val (.int x2), .val (.int x3), .val (.int x4), .val (.double x5), .second, .val (.double x6), .second, .val (.double x7), .second, .val (.double x8), .second, .val (.double x9), .second, .val (.double x10), .second, .val (.double x11), .second, .val (.ref x12), .val (.ref x13), .val (.ref x14), .val (.ref x15), .val (.ref x16), .unset, .unset, .unset, .unset, .unset]
abbrev Ls54 (x0 : Int32) (x1 : Int32) (x2 : Int32) (x3 : Int32) (x4 : Int32) (x5 : UInt64) (x6 : UInt64) (x7 : UInt64) (x8 : UInt64) (x9 : UInt64) (x10 : UInt64) (x11 : UInt64) (x12 : Addr) (x13 : Addr) (x14 : Addr) (x15 : Addr) (x16 : Addr) (x17 : Addr) : Array Slot := #[.val (.int x0), .val (.int x1), .val (.int x2), .val (.int x3), .val (.int x4), .val (.double x5), .second, .val (.double x6), .second, .val (.double x7), .second, .val (.double x8), .second, .val (.double x9), .second, .val (.double x10), .second, .val (.double x11), .second, .val (.ref x12), .val (.ref x13), .val (.ref x14), .val (.ref x15), .val (.ref x16), .val (.ref x17), .unset, .unset, .unset, .unset]
abbrev Ls55 (x0 : Int32) (x1 : Int32) (x2 : Int32) (x3 : Int32) (x4 : Int32) (x5 : UInt64) (x6 : UInt64) (x7 : UInt64) (x8 : UInt64) (x9 : UInt64) (x10 : UInt64) (x11 : UInt64) (x12 : Addr) (x13 : Addr) (x14 : Addr) (x15 : Addr) (x16 : Addr) (x17 : Addr) (x18 : Addr) : Array Slot := #[.val (.int x0), .val (.int x1), .val (.int x2), .val (.int x3), .val (.int x4), .val (.double x5), .second, .val (.double x6), .second, .val (.double x7), .second, .val (.double x8), .second, .val (.double x9), .second, .val (.double x10), .second, .val (.double x11), .second, .val (.ref x12), .val (.ref x13), .val (.ref x14), .val (.ref x15), .val (.ref x16), .val (.ref x17), .val (.ref x18), .unset, .unset, .unset]
abbrev Ls56 (x0 : Int32) (x1 : Int32) (x2 : Int32) (x3 : Int32) (x4 : Int32) (x5 : UInt64) (x6 : UInt64) (x7 : UInt64) (x8 : UInt64) (x9 : UInt64) (x10 : UInt64) (x11 : UInt64) (x12 : Addr) (x13 : Addr) (x14 : Addr) (x15 : Addr) (x16 : Addr) (x17 : Addr) (x18 : Addr) (x19 : Addr) : Array Slot := #[.val (.int x0), .val (.int x1), .val (.int x2), .val (.int x3), .val (.int x4), .val (.double x5), .second, .val (.double x6), .second, .val (.double x7), .second, .val (.double x8), .second, .val (.double x9), .second, .val (.double x10), .second, .val (.double x11), .second, .val (.ref x12), .val (.ref x13), .val (.ref x14), .val (.ref x15), .val (.ref x16), .val (.ref x17), .val (.ref x18), .val (.ref x19), .unset, .unset]
abbrev Ls57 (x0 : Int32) (x1 : Int32) (x2 : Int32) (x3 : Int32) (x4 : Int32) (x5 : UInt64) (x6 : UInt64) (x7 : UInt64) (x8 : UInt64) (x9 : UInt64) (x10 : UInt64) (x11 : UInt64) (x12 : Addr) (x13 : Addr) (x14 : Addr) (x15 : Addr) (x16 : Addr) (x17 : Addr) (x18 : Addr) (x19 : Addr) (x20 : Addr) : Array Slot := #[.val (.int x0), .val (.int x1), .val (.int x2), .val (.int x3), .val (.int x4), .val (.double x5), .second, .val (.double x6), .second, .val (.double x7), .second, .val (.double x8), .second, .val (.double x9), .second, .val (.double x10), .second, .val (.double x11), .second, .val (.ref x12), .val (.ref x13), .val (.ref x14), .val (.ref x15), .val (.ref x16), .val (.ref x17), .val (.ref x18), .val (.ref x19), .val (.ref x20), .unset]
abbrev Ls58 (x0 : Int32) (x1 : Int32) (x2 : Int32) (x3 : Int32) (x4 : Int32) (x5 : UInt64) (x6 : UInt64) (x7 : UInt64) (x8 : UInt64) (x9 : UInt64) (x10 : UInt64) (x11 : UInt64) (x12 : Addr) (x13 : Addr) (x14 : Addr) (x15 : Addr) (x16 : Addr) (x17 : Addr) (x18 : Addr) (x19 : Addr) (x20 : Addr) (x21 : Int32) : Array Slot := #[.val (.int x0), .val (.int x1), .val (.int x2), .val (.int x3), .val (.int x4), .val (.double x5), .second, .val (.double x6), .second, .val (.double x7), .second, .val (.double x8), .second, .val (.double x9), .second, .val (.double x10), .second, .val (.double x11), .second, .val (.ref x12), .val (.ref x13), .val (.ref x14), .val (.ref x15), .val (.ref x16), .val (.ref x17), .val (.ref x18), .val (.ref x19), .val (.ref x20), .val (.int x21)]

section OwnC
variable {p : Program} {l : Launch} {e : Env} {R : Room} {s s0 : State} {m : MethodId} {args : Array Value} {below : List Frame} {meth : Method} {c : Code} {T : State} {locs : List Loc} {cells slots : Nat} {Q : Option Value → Heap → List Loc → Prop} {rc rs pc : Nat} {Ls : Array Slot} {S : List Value}
theorem oIl (q : Nat) (X : Stand p l e R s m args below meth c T locs cells slots) (hx : p.tables.exec = Jvm.exec) {k : Nat} {v : Int32} (hd : decode c.code pc = .ok (.iload k, 2)) (hl : Ls[k]? = some (.val (.int v))) (hq : pc + 2 = q) (G : own_Goes p.tables e below s0 Q rc rs T (mkF m q Ls (.int v :: S))) : own_Goes p.tables e below s0 Q rc rs T (mkF m pc Ls S) := by subst hq; exact own_by (fun t u => XS.iload X.here hx rfl hd hl u) G
theorem oIlN (q : Nat) (X : Stand p l e R s m args below meth c T locs cells slots) (hx : p.tables.exec = Jvm.exec) {k : Fin 4} {v : Int32} (hd : decode c.code pc = .ok (.iload_n k, 1)) (hl : Ls[k.val]? = some (.val (.int v))) (hq : pc + 1 = q) (G : own_Goes p.tables e below s0 Q rc rs T (mkF m q Ls (.int v :: S))) : own_Goes p.tables e below s0 Q rc rs T (mkF m pc Ls S) := by subst hq; exact own_by (fun t u => XS.iloadN X.here hx rfl hd hl u) G
theorem oDl (q : Nat) (X : Stand p l e R s m args below meth c T locs cells slots) (hx : p.tables.exec = Jvm.exec) {k : Nat} {v : UInt64} (hd : decode c.code pc = .ok (.dload k, 2)) (hl : Ls[k]? = some (.val (.double v))) (hq : pc + 2 = q) (G : own_Goes p.tables e below s0 Q rc rs T (mkF m q Ls (.double v :: S))) : own_Goes p.tables e below s0 Q rc rs T (mkF m pc Ls S) := by subst hq; exact own_by (fun t u => XS.dload X.here hx rfl hd hl u) G
theorem oDlN (q : Nat) (X : Stand p l e R s m args below meth c T locs cells slots) (hx : p.tables.exec = Jvm.exec) {k : Fin 4} {v : UInt64} (hd : decode c.code pc = .ok (.dload_n k, 1)) (hl : Ls[k.val]? = some (.val (.double v))) (hq : pc + 1 = q) (G : own_Goes p.tables e below s0 Q rc rs T (mkF m q Ls (.double v :: S))) : own_Goes p.tables e below s0 Q rc rs T (mkF m pc Ls S) := by subst hq; exact own_by (fun t u => XS.dloadN X.here hx rfl hd hl u) G
theorem oAl (q : Nat) (X : Stand p l e R s m args below meth c T locs cells slots) (hx : p.tables.exec = Jvm.exec) {k : Nat} {v : Addr} (hd : decode c.code pc = .ok (.aload k, 2)) (hl : Ls[k]? = some (.val (.ref v))) (hq : pc + 2 = q) (G : own_Goes p.tables e below s0 Q rc rs T (mkF m q Ls (.ref v :: S))) : own_Goes p.tables e below s0 Q rc rs T (mkF m pc Ls S) := by subst hq; exact own_by (fun t u => XS.aload X.here hx rfl hd hl rfl u) G
theorem oAlN (q : Nat) (X : Stand p l e R s m args below meth c T locs cells slots) (hx : p.tables.exec = Jvm.exec) {k : Fin 4} {v : Addr} (hd : decode c.code pc = .ok (.aload_n k, 1)) (hl : Ls[k.val]? = some (.val (.ref v))) (hq : pc + 1 = q) (G : own_Goes p.tables e below s0 Q rc rs T (mkF m q Ls (.ref v :: S))) : own_Goes p.tables e below s0 Q rc rs T (mkF m pc Ls S) := by subst hq; exact own_by (fun t u => XS.aloadN X.here hx rfl hd hl rfl u) G
theorem oIst (q : Nat) (X : Stand p l e R s m args below meth c T locs cells slots) (hx : p.tables.exec = Jvm.exec) {k : Nat} {v : Int32} (hd : decode c.code pc = .ok (.istore k, 2)) (L' : Array Slot) (hl : storeLocals Ls k (.int v) = some L') (hq : pc + 2 = q) (G : own_Goes p.tables e below s0 Q rc rs T (mkF m q L' S)) : own_Goes p.tables e below s0 Q rc rs T (mkF m pc Ls (.int v :: S)) := by subst hq; exact own_by (fun t u => XS.istore X.here hx rfl hd rfl hl u) G
theorem oIstN (q : Nat) (X : Stand p l e R s m args below meth c T locs cells slots) (hx : p.tables.exec = Jvm.exec) {k : Fin 4} {v : Int32} (hd : decode c.code pc = .ok (.istore_n k, 1)) (L' : Array Slot) (hl : storeLocals Ls k.val (.int v) = some L') (hq : pc + 1 = q) (G : own_Goes p.tables e below s0 Q rc rs T (mkF m q L' S)) : own_Goes p.tables e below s0 Q rc rs T (mkF m pc Ls (.int v :: S)) := by subst hq; exact own_by (fun t u => XS.istoreN X.here hx rfl hd rfl hl u) G
theorem oDst (q : Nat) (X : Stand p l e R s m args below meth c T locs cells slots) (hx : p.tables.exec = Jvm.exec) {k : Nat} {v : UInt64} (hd : decode c.code pc = .ok (.dstore k, 2)) (L' : Array Slot) (hl : storeLocals Ls k (.double v) = some L') (hq : pc + 2 = q) (G : own_Goes p.tables e below s0 Q rc rs T (mkF m q L' S)) : own_Goes p.tables e below s0 Q rc rs T (mkF m pc Ls (.double v :: S)) := by subst hq; exact own_by (fun t u => XS.dstore X.here hx rfl hd rfl hl u) G
theorem oAst (q : Nat) (X : Stand p l e R s m args below meth c T locs cells slots) (hx : p.tables.exec = Jvm.exec) {k : Nat} {v : Addr} (hd : decode c.code pc = .ok (.astore k, 2)) (L' : Array Slot) (hl : storeLocals Ls k (.ref v) = some L') (hq : pc + 2 = q) (G : own_Goes p.tables e below s0 Q rc rs T (mkF m q L' S)) : own_Goes p.tables e below s0 Q rc rs T (mkF m pc Ls (.ref v :: S)) := by subst hq; exact own_by (fun t u => XS.astore X.here hx rfl hd rfl rfl hl u) G
theorem oAstN (q : Nat) (X : Stand p l e R s m args below meth c T locs cells slots) (hx : p.tables.exec = Jvm.exec) {k : Fin 4} {v : Addr} (hd : decode c.code pc = .ok (.astore_n k, 1)) (L' : Array Slot) (hl : storeLocals Ls k.val (.ref v) = some L') (hq : pc + 1 = q) (G : own_Goes p.tables e below s0 Q rc rs T (mkF m q L' S)) : own_Goes p.tables e below s0 Q rc rs T (mkF m pc Ls (.ref v :: S)) := by subst hq; exact own_by (fun t u => XS.astoreN X.here hx rfl hd rfl rfl hl u) G
theorem oIc (q : Nat) (X : Stand p l e R s m args below meth c T locs cells slots) (hx : p.tables.exec = Jvm.exec) {i : Int} (hd : decode c.code pc = .ok (.iconst i, 1)) (z : Int32) (hz : Int32.ofInt i = z) (hq : pc + 1 = q) (G : own_Goes p.tables e below s0 Q rc rs T (mkF m q Ls (.int z :: S))) : own_Goes p.tables e below s0 Q rc rs T (mkF m pc Ls S) := by subst hq; exact own_by (fun t u => by subst hz; exact XS.iconst X.here hx rfl hd u) G
theorem oInc (q : Nat) (X : Stand p l e R s m args below meth c T locs cells slots) (hx : p.tables.exec = Jvm.exec) {k : Nat} {i : Int} {v : Int32} (hd : decode c.code pc = .ok (.iinc k i, 3)) (L' : Array Slot) (hv : Ls[k]? = some (.val (.int v))) (hl : storeLocals Ls k (.int (v + Int32.ofInt i)) = some L') (hq : pc + 3 = q) (G : own_Goes p.tables e below s0 Q rc rs T (mkF m q L' S)) : own_Goes p.tables e below s0 Q rc rs T (mkF m pc Ls S) := by subst hq; exact own_by (fun t u => XS.iinc X.here hx rfl hd hv hl u) G
theorem oAdd (q : Nat) (X : Stand p l e R s m args below meth c T locs cells slots) (hx : p.tables.exec = Jvm.exec) {x y : Int32} (hd : decode c.code pc = .ok (.iadd, 1)) (z : Int32) (hz : x + y = z) (hq : pc + 1 = q) (G : own_Goes p.tables e below s0 Q rc rs T (mkF m q Ls (.int z :: S))) : own_Goes p.tables e below s0 Q rc rs T (mkF m pc Ls (.int y :: .int x :: S)) := by subst hq; exact own_by (fun t u => by subst hz; exact XS.iadd X.here hx rfl hd rfl u) G
theorem oSub (q : Nat) (X : Stand p l e R s m args below meth c T locs cells slots) (hx : p.tables.exec = Jvm.exec) {x y : Int32} (hd : decode c.code pc = .ok (.isub, 1)) (z : Int32) (hz : x - y = z) (hq : pc + 1 = q) (G : own_Goes p.tables e below s0 Q rc rs T (mkF m q Ls (.int z :: S))) : own_Goes p.tables e below s0 Q rc rs T (mkF m pc Ls (.int y :: .int x :: S)) := by subst hq; exact own_by (fun t u => by subst hz; exact XS.isub X.here hx rfl hd rfl u) G
theorem oGo (q : Nat) (X : Stand p l e R s m args below meth c T locs cells slots) (hx : p.tables.exec = Jvm.exec) {o : Int} (hd : decode c.code pc = .ok (.goto o, 3))  (ho : 0 ≤ (pc : Int) + o) (hp : ((pc : Int) + o).toNat = q) (G : own_Goes p.tables e below s0 Q rc rs T (mkF m q Ls S)) : own_Goes p.tables e below s0 Q rc rs T (mkF m pc Ls S) := own_by (fun t u => XS.goto X.here hx rfl (pc0 := pc) (pc' := q) rfl hd ho hp u) G
theorem oCy (q : Nat) (X : Stand p l e R s m args below meth c T locs cells slots) (hx : p.tables.exec = Jvm.exec) {o : Int} {cd : ClassFile.Cond} {x y : Int32} (hd : decode c.code pc = .ok (.if_icmp cd o, 3)) (hc : if_icmp.holds cd x y = true) (ho : 0 ≤ (pc : Int) + o) (hp : ((pc : Int) + o).toNat = q) (G : own_Goes p.tables e below s0 Q rc rs T (mkF m q Ls S)) : own_Goes p.tables e below s0 Q rc rs T (mkF m pc Ls (.int y :: .int x :: S)) := own_by (fun t u => XS.icmpYes X.here hx rfl (pc0 := pc) (pc' := q) rfl hd rfl hc ho hp u) G
theorem oFy (q : Nat) (X : Stand p l e R s m args below meth c T locs cells slots) (hx : p.tables.exec = Jvm.exec) {o : Int} {cd : ClassFile.Cond} {x : Int32} (hd : decode c.code pc = .ok (.ifCond cd o, 3)) (hc : ifCond.holds cd x = true) (ho : 0 ≤ (pc : Int) + o) (hp : ((pc : Int) + o).toNat = q) (G : own_Goes p.tables e below s0 Q rc rs T (mkF m q Ls S)) : own_Goes p.tables e below s0 Q rc rs T (mkF m pc Ls (.int x :: S)) := own_by (fun t u => XS.ifYes X.here hx rfl (pc0 := pc) (pc' := q) rfl hd rfl hc ho hp u) G
theorem oCn (q : Nat) (X : Stand p l e R s m args below meth c T locs cells slots) (hx : p.tables.exec = Jvm.exec) {o : Int} {cd : ClassFile.Cond} {x y : Int32} (hd : decode c.code pc = .ok (.if_icmp cd o, 3)) (hc : if_icmp.holds cd x y = false) (hq : pc + 3 = q) (G : own_Goes p.tables e below s0 Q rc rs T (mkF m q Ls S)) : own_Goes p.tables e below s0 Q rc rs T (mkF m pc Ls (.int y :: .int x :: S)) := by subst hq; exact own_by (fun t u => XS.icmpNo X.here hx rfl hd rfl hc u) G
theorem oFn (q : Nat) (X : Stand p l e R s m args below meth c T locs cells slots) (hx : p.tables.exec = Jvm.exec) {o : Int} {cd : ClassFile.Cond} {x : Int32} (hd : decode c.code pc = .ok (.ifCond cd o, 3)) (hc : ifCond.holds cd x = false) (hq : pc + 3 = q) (G : own_Goes p.tables e below s0 Q rc rs T (mkF m q Ls S)) : own_Goes p.tables e below s0 Q rc rs T (mkF m pc Ls (.int x :: S)) := by subst hq; exact own_by (fun t u => XS.ifNo X.here hx rfl hd rfl hc u) G
theorem oIa (q : Nat) (X : Stand p l e R s m args below meth c T locs cells slots) (hx : p.tables.exec = Jvm.exec) {Z : State} {h : Heap} (hZ : Z.Warmed39 s.vm) (eT : T.heap = h) {a : Addr} {k : ClassId} {z j : Int32} {vs : List Value} {dv : Value} (F : Arv Z h a k .int z vs dv) (v : Value) (hd : decode c.code pc = .ok (.iaload, 1)) (hi : ¬ j < 0 ∧ j < z) (hv : vs.getD j.toNatClampNeg dv = v) (hq : pc + 1 = q) (G : own_Goes p.tables e below s0 Q rc rs T (mkF m q Ls (v :: S))) : own_Goes p.tables e below s0 Q rc rs T (mkF m pc Ls (.int j :: .ref a :: S)) := by
  subst hq
  obtain ⟨cl, Ar, -, S', -, Hs, -⟩ := F
  have hin := inb_of S' hi
  exact own_by (fun t u => X.iaload hx (by rw [eT]; exact Ar.1) (State.isArrayOf_alike hZ.alike Ar.2.1) Ar.2.2 hin (Hs.at hin hv) (g := mkF m pc Ls (.int j :: .ref a :: S)) rfl rfl hd _ u) G
theorem oDa (q : Nat) (X : Stand p l e R s m args below meth c T locs cells slots) (hx : p.tables.exec = Jvm.exec) {Z : State} {h : Heap} (hZ : Z.Warmed39 s.vm) (eT : T.heap = h) {a : Addr} {k : ClassId} {z j : Int32} {vs : List Value} {dv : Value} (F : Arv Z h a k .double z vs dv) (v : Value) (hd : decode c.code pc = .ok (.daload, 1)) (hi : ¬ j < 0 ∧ j < z) (hv : vs.getD j.toNatClampNeg dv = v) (hq : pc + 1 = q) (G : own_Goes p.tables e below s0 Q rc rs T (mkF m q Ls (v :: S))) : own_Goes p.tables e below s0 Q rc rs T (mkF m pc Ls (.int j :: .ref a :: S)) := by
  subst hq
  obtain ⟨cl, Ar, -, S', -, Hs, -⟩ := F
  have hin := inb_of S' hi
  exact own_by (fun t u => X.daload hx (by rw [eT]; exact Ar.1) (State.isArrayOf_alike hZ.alike Ar.2.1) Ar.2.2 hin (Hs.at hin hv) (g := mkF m pc Ls (.int j :: .ref a :: S)) rfl rfl hd _ u) G
theorem oIs (q : Nat) (X : Stand p l e R s m args below meth c T locs cells slots) (hx : p.tables.exec = Jvm.exec) {Z : State} {h : Heap} (hZ : Z.Warmed39 s.vm) (eT : T.heap = h) {a : Addr} {k : ClassId} {z j : Int32} {x : Int32} {vs : List Value} {dv : Value} (F : Arv Z h a k .int z vs dv) (i : Nat) (vs' : List Value) (hd : decode c.code pc = .ok (.iastore, 1)) (hi : ¬ j < 0 ∧ j < z) (hj : j.toNatClampNeg = i) (hn : i < vs.length) (hvs : vs.set i (.int x) = vs') (hq : pc + 1 = q)
    (G : ∀ (T' : State) (h' : Heap), Stand p l e R s m args below meth c T' (locs ++ [⟨a, j.toNatClampNeg⟩]) cells slots → T'.heap = h' → Wr h h' a j.toNatClampNeg (.int x) → Arv Z h' a k .int z vs' dv → own_Goes p.tables e below s0 Q rc rs T' (mkF m q Ls S)) : own_Goes p.tables e below s0 Q rc rs T (mkF m pc Ls (.int x :: .int j :: .ref a :: S)) := by
  subst hq hvs
  obtain ⟨cl, Ar, q1, S', N', Hs, G'⟩ := F
  obtain ⟨T', h', X', e', W', st⟩ := stI X hx hZ eT Ar (j := j) (inb_of S' hi) (g := mkF m pc Ls (.int x :: .int j :: .ref a :: S)) rfl rfl hd
  exact own_by (fun t u => st t u) (G T' h' X' e' W' (Arv.set Ar q1 S' N' Hs G' rfl W' i hj hn))
theorem oDs (q : Nat) (X : Stand p l e R s m args below meth c T locs cells slots) (hx : p.tables.exec = Jvm.exec) {Z : State} {h : Heap} (hZ : Z.Warmed39 s.vm) (eT : T.heap = h) {a : Addr} {k : ClassId} {z j : Int32} {x : UInt64} {vs : List Value} {dv : Value} (F : Arv Z h a k .double z vs dv) (i : Nat) (vs' : List Value) (hd : decode c.code pc = .ok (.dastore, 1)) (hi : ¬ j < 0 ∧ j < z) (hj : j.toNatClampNeg = i) (hn : i < vs.length) (hvs : vs.set i (.double x) = vs') (hq : pc + 1 = q)
    (G : ∀ (T' : State) (h' : Heap), Stand p l e R s m args below meth c T' (locs ++ [⟨a, j.toNatClampNeg⟩]) cells slots → T'.heap = h' → Wr h h' a j.toNatClampNeg (.double x) → Arv Z h' a k .double z vs' dv → own_Goes p.tables e below s0 Q rc rs T' (mkF m q Ls S)) : own_Goes p.tables e below s0 Q rc rs T (mkF m pc Ls (.double x :: .int j :: .ref a :: S)) := by
  subst hq hvs
  obtain ⟨cl, Ar, q1, S', N', Hs, G'⟩ := F
  obtain ⟨T', h', X', e', W', st⟩ := stD X hx hZ eT Ar (j := j) (inb_of S' hi) (g := mkF m pc Ls (.double x :: .int j :: .ref a :: S)) rfl rfl hd
  exact own_by (fun t u => st t u) (G T' h' X' e' W' (Arv.set Ar q1 S' N' Hs G' rfl W' i hj hn))
theorem oF (q : Nat) (X : Stand p l e R s m args below meth c T locs cells slots) (hx : p.tables.exec = Jvm.exec) {Z : State} {h : Heap} (hZ : Z.Warmed39 s.vm) {a0 : Array Value} {own R0 O n d host : String} {index : Nat} (hown : s.vm.findClass own = some m.cls) (w : (Cond.fieldLink own index R0 n d).before a0 Z = true ∨ (Cond.fieldLinkNest own index R0 n d host).before a0 Z = true) (via : Via Z R0 O n d) (eT : T.heap = h) {a : Addr} {v : Value} (F : Fld Z h a O n d v) (hd : decode c.code pc = .ok (.getfield index, 3)) (hq : pc + 3 = q)
    (G : ∀ T' : State, Stand p l e R s m args below meth c T' locs cells slots → T'.heap = h → own_Goes p.tables e below s0 Q rc rs T' (mkF m q Ls (v :: S))) : own_Goes p.tables e below s0 Q rc rs T (mkF m pc Ls (.ref a :: S)) := by
  subst hq
  obtain ⟨T', X', e', st⟩ := getF X hx hZ hown w via eT F (g := mkF m pc Ls (.ref a :: S)) rfl rfl hd
  exact own_by (fun t u => st t u) (G T' X' e')
theorem kW {h0 h h' : Heap} {ws : List Addr} {a : Addr} {sl : Nat} {v : Value} (K : Keep h0 h ws) (W : Wr h h' a sl v) (i : Nat) (hi : ws[i]? = some a) : Keep h0 h' ws := K.wr W (Or.inl (List.mem_of_getElem? hi))
theorem oBi (q : Nat) (X : Stand p l e R s m args below meth c T locs cells slots) (hx : p.tables.exec = Jvm.exec) {i : Int} (hd : decode c.code pc = .ok (.bipush i, 2)) (z : Int32) (hz : (Int8.ofInt i).toInt32 = z) (hq : pc + 2 = q) (G : own_Goes p.tables e below s0 Q rc rs T (mkF m q Ls (.int z :: S))) : own_Goes p.tables e below s0 Q rc rs T (mkF m pc Ls S) := by subst hq; exact own_by (fun t u => by subst hz; exact XS.bipush X.here hx rfl hd u) G
theorem oDup (q : Nat) (X : Stand p l e R s m args below meth c T locs cells slots) (hx : p.tables.exec = Jvm.exec) {v : Value} (hd : decode c.code pc = .ok (.dup, 1)) (hv : v.category = 1) (hq : pc + 1 = q) (G : own_Goes p.tables e below s0 Q rc rs T (mkF m q Ls (v :: v :: S))) : own_Goes p.tables e below s0 Q rc rs T (mkF m pc Ls (v :: S)) := by subst hq; exact own_by (fun t u => XS.dup X.here hx rfl hd rfl hv u) G
end OwnC
/-- these addresses rise, from lo on and below hi -/
def own_inc (lo hi : Nat) : List Addr → Prop
  | [] => lo ≤ hi
  | x :: r => lo ≤ x ∧ own_inc (x + 1) hi r
theorem own_incM {hi hi' : Nat} (q : hi ≤ hi') : ∀ {xs : List Addr} {lo : Nat}, own_inc lo hi xs → own_inc lo hi' xs
  | [], _, h => Nat.le_trans h q
  | _ :: _, _, h => ⟨h.1, own_incM q h.2⟩
theorem own_incL {lo lo' hi : Nat} (q : lo' ≤ lo) : ∀ {xs : List Addr}, own_inc lo hi xs → own_inc lo' hi xs
  | [], h => Nat.le_trans q h
  | _ :: _, h => ⟨Nat.le_trans q h.1, h.2⟩
theorem own_incA {mid hi : Nat} {ys : List Addr} : ∀ {xs : List Addr} {lo : Nat}, own_inc lo mid xs → own_inc mid hi ys → own_inc lo hi (xs ++ ys)
  | [], _, h, q => own_incL h q
  | _ :: _, _, h, q => ⟨h.1, own_incA h.2 q⟩
theorem own_incB {lo n n' : Nat} {xs : List Addr} {b : Addr} (h : own_inc lo n xs) (g : b = n) (l : b < n') : own_inc lo n' (xs ++ [b]) := own_incA h ⟨Nat.le_of_eq g.symm, l⟩
theorem own_incG {hi : Nat} {y : Addr} : ∀ {xs : List Addr} {lo : Nat}, own_inc lo hi xs → y ∈ xs → lo ≤ y
  | _ :: _, _, h, q => (List.mem_cons.mp q).elim (fun e => e ▸ h.1) fun r => Nat.le_trans (Nat.le_trans h.1 (Nat.le_succ _)) (own_incG h.2 r)
theorem own_incN {hi : Nat} : ∀ {xs : List Addr} {lo : Nat}, own_inc lo hi xs → xs.Nodup
  | [], _, _ => List.nodup_nil
  | x :: _, _, h => List.nodup_cons.mpr ⟨fun q => absurd (own_incG h.2 q) (Nat.not_succ_le_self x), own_incN h.2⟩
theorem own_nd {xs : List Addr} (h : xs.Nodup) (i j : Nat) {a b : Addr} (ha : xs[i]? = some a) (hb : xs[j]? = some b) (hij : i ≠ j) : a ≠ b := fun e => by
  subst e
  exact hij ((List.getElem?_inj (List.getElem?_eq_some_iff.mp ha).1 h).mp (ha.trans hb.symm))
theorem own_ndsub {xs : List Addr} (h : xs.Nodup) : ∀ (is : List Nat) {ys : List Addr}, is.Nodup → is.map (fun i => xs[i]?) = ys.map some → ys.Nodup
  | [], [], _, _ => List.nodup_nil
  | [], _ :: _, _, e => by simp at e
  | _ :: _, [], _, e => by simp at e
  | i :: is, y :: ys, hn, e => by
    simp only [List.map_cons, List.cons.injEq] at e
    obtain ⟨e1, e2⟩ := e
    obtain ⟨n1, n2⟩ := List.nodup_cons.mp hn
    refine List.nodup_cons.mpr ⟨fun q => ?_, own_ndsub h is n2 e2⟩
    have q2 : some y ∈ is.map (fun i => xs[i]?) := by rw [e2]; exact List.mem_map.mpr ⟨y, q, rfl⟩
    obtain ⟨j, hj, ej⟩ := List.mem_map.mp q2
    have : i = j := (List.getElem?_inj (List.getElem?_eq_some_iff.mp e1).1 h).mp (e1.trans ej.symm)
    exact n1 (this ▸ hj)
def own_bd (K : Nat) (a : Int64) : Prop := -(K : Int) ≤ a.toInt ∧ a.toInt ≤ K
theorem own_b53 {K : Nat} {a : Int64} (h : own_bd K a) (q : K ≤ 100000 := by decide) : B53 a := ⟨by have := h.1; omega, by have := h.2; omega⟩
theorem own_b0 : own_bd 0 0 := by unfold own_bd; decide
theorem own_badd {K L : Nat} {a b : Int64} (ha : own_bd K a) (hb : own_bd L b) (q : K + L ≤ 100000 := by decide) : own_bd (K + L) (a + b) := by
  have h := add64 (own_b53 ha (by omega)) (own_b53 hb (by omega))
  unfold own_bd at *
  omega
theorem own_bsub {K L : Nat} {a b : Int64} (ha : own_bd K a) (hb : own_bd L b) (q : K + L ≤ 100000 := by decide) : own_bd (K + L) (a - b) := by
  have h := sub64 (own_b53 ha (by omega)) (own_b53 hb (by omega))
  unfold own_bd at *
  omega
def own_max (a b : Int64) : Int64 := if a < b then b else a
theorem own_bmax {K L : Nat} {a b : Int64} (ha : own_bd K a) (hb : own_bd L b) : own_bd (K + L) (own_max a b) := by
  unfold own_max
  unfold own_bd at *
  split <;> omega
def own_ref (s0 s1 s2 y : Int64) : Int64 := own_max s1 (s2 + y) - own_max s0 (s1 + y)
theorem own_nS {a : Int64} (h : own_bd 63 a) : FP.dsub 18442240474082181120 (FP.l2d a) = 18442240474082181120 := by
  have key : ∀ k : Fin 127, FP.dsub 18442240474082181120 (FP.l2d (Int64.ofInt ((k.val : Int) - 63))) = 18442240474082181120 := by decide +kernel
  unfold own_bd at h
  have e : a = Int64.ofInt (((⟨(a.toInt + 63).toNat, by omega⟩ : Fin 127).val : Int) - 63) := by
    have e1 : (((⟨(a.toInt + 63).toNat, by omega⟩ : Fin 127).val : Int) - 63) = a.toInt := by show (((a.toInt + 63).toNat : Nat) : Int) - 63 = a.toInt; omega
    rw [e1, Int64.ofInt_toInt]
  rw [e]
  exact key _
theorem own_nnS {a : Int64} (h : own_bd 63 a) : Jvm.Free.Fl.NoNaN64 (FP.dsub 18442240474082181120 (FP.l2d a)) := by
  rw [own_nS h]
  decide +kernel
theorem own_cancel (x y z : Int64) : x + ((0 + y) + z) - y = x + z := by grind
theorem own_bref {y0 y1 y2 yy : Int64} (h0 : own_bd 128 y0) (h1 : own_bd 128 y1) (h2 : own_bd 128 y2) (h : own_bd 63 yy) : own_bd 10000 (own_ref y0 y1 y2 yy) := by
  have q := own_bsub (own_bmax h1 (own_badd h2 h)) (own_bmax h0 (own_badd h1 h))
  unfold own_ref
  unfold own_bd at *
  omega
def own_min (i j : Int32) : Int32 := if j < i then j else i
theorem own_pick {a b : Int64} (ha : B53 a) (hb : B53 b) : Value.double (Native.java_lang_Math.nans.pick64 true (FP.l2d a) (FP.l2d b)) = .double (FP.l2d (own_max a b)) := by
  unfold own_max
  by_cases h : a < b
  · rw [if_pos h, max_l ha hb h]
  · rw [if_neg h, max_g ha hb h]
/-- some of the rising addresses -/
theorem own_incK {hi : Nat} {y : Addr} : ∀ {xs : List Addr} {lo : Nat}, own_inc lo hi xs → y ∈ xs → y < hi
  | [], _, _, q => by cases q
  | x :: r, lo, h, q => by
    rcases List.mem_cons.mp q with rfl | q
    · have : ∀ {r : List Addr} {lo : Nat}, own_inc lo hi r → lo ≤ hi := fun {r} => by
        induction r with
        | nil => exact fun h => h
        | cons z r ih => exact fun h => Nat.le_trans h.1 (Nat.le_trans (Nat.le_succ _) (ih h.2))
      exact this h.2
    · exact own_incK h.2 q
theorem own_incD {x : Addr} {r : List Addr} {lo hi : Nat} (h : own_inc lo hi (x :: r)) : own_inc lo hi r := own_incL (Nat.le_trans h.1 (Nat.le_succ _)) h.2
theorem own_incO {lo hi : Nat} {xs : List Addr} (h : own_inc lo hi xs) {y x : Addr} (q : y < lo) (m : x ∈ xs) : y ≠ x := Nat.ne_of_lt (Nat.lt_of_lt_of_le q (own_incG h m))
theorem own_incT {hi : Nat} {ys : List Addr} : ∀ {xs : List Addr} {lo : Nat}, own_inc lo hi (xs ++ ys) → own_inc lo hi xs
  | [], lo, h => by
    have : ∀ {r : List Addr} {lo : Nat}, own_inc lo hi r → lo ≤ hi := fun {r} => by
      induction r with
      | nil => exact fun h => h
      | cons z r ih => exact fun h => Nat.le_trans h.1 (Nat.le_trans (Nat.le_succ _) (ih h.2))
    exact this h
  | _ :: _, _, h => ⟨h.1, own_incT h.2⟩
/-- what receive lays: the two messages in falling order, and the sizes of the ties -/
def own_srt (n0 n1 : Int64) (p q z0 z1 : Int32) (v0 v1 : Int64) : Prop := ((p = 0 ∧ q = 1 ∧ v0 = n0 ∧ v1 = n1) ∨ (p = 1 ∧ q = 0 ∧ v0 = n1 ∧ v1 = n0)) ∧ ((z0 = 1 ∧ z1 = 1) ∨ (z0 = 2 ∧ z1 = 0 ∧ n0 = n1))
theorem own_a0 (y0 y1 y2 v0 v1 : Int64) : own_max (y1 + 0) ((y2 + ((0 + v0) + v1)) - v0) - own_max y0 ((y1 + ((0 + v0) + v1)) - v0) = own_ref y0 y1 y2 v1 := by
  have e1 : y1 + 0 = y1 := by grind
  have e2 : (y2 + ((0 + v0) + v1)) - v0 = y2 + v1 := by grind
  have e3 : (y1 + ((0 + v0) + v1)) - v0 = y1 + v1 := by grind
  rw [e1, e2, e3]
  rfl
theorem own_a1 (y0 y1 y2 v0 : Int64) : own_max (y1 + 0) (y2 + (0 + v0)) - own_max y0 (y1 + (0 + v0)) = own_ref y0 y1 y2 v0 := by
  have e1 : y1 + 0 = y1 := by grind
  have e2 : (0 : Int64) + v0 = v0 := by grind
  rw [e1, e2]
  rfl
theorem own_byte (x : Int32) : own_bd 128 (x.toInt8.toInt32).toInt64 := by
  have h := c_i2b x
  unfold own_bd
  rw [Int32.toInt_toInt64]
  omega
theorem own_r64 (x : Int32) : own_bd 63 (x % (64 : Int32)).toInt64 := by
  have h1 := c_irem x 64 64 (by decide)
  unfold own_bd
  rw [Int32.toInt_toInt64]
  rcases Int.lt_or_le x.toInt 0 with q | q
  · have := h1.2 (by omega); omega
  · have := h1.1 q; omega
theorem own_b063 : own_bd 63 0 := by unfold own_bd; decide
theorem own_ltne {a b : Int64} (h : a < b) : ¬ a = b := fun q => by
  subst q
  exact absurd h Int64.lt_irrefl
def own_o0 (pp : Int32) (y0 y1 y2 v0 v1 : Int64) : Int64 := if pp = 0 then own_ref y0 y1 y2 v1 else own_ref y0 y1 y2 v0
def own_o1 (pp : Int32) (y0 y1 y2 v0 v1 : Int64) : Int64 := if pp = 0 then own_ref y0 y1 y2 v0 else own_ref y0 y1 y2 v1
/-- the case of answerAll -/
def own_case (pp qq z0 z1 : Int32) (v0 v1 : Int64) : Prop := ((pp = 0 ∧ qq = 1) ∨ (pp = 1 ∧ qq = 0)) ∧ ((z0 = 1 ∧ z1 = 1) ∨ (z0 = 2 ∧ z1 = 0 ∧ v0 = v1))
theorem own_srt_case {n0 n1 v0 v1 : Int64} {pp qq z0 z1 : Int32} (h : own_srt n0 n1 pp qq z0 z1 v0 v1) : own_case pp qq z0 z1 v0 v1 := by
  obtain ⟨⟨h1, h2, h3, h4⟩ | ⟨h1, h2, h3, h4⟩, h5⟩ := h
  · exact ⟨Or.inl ⟨h1, h2⟩, h5.imp id fun q => ⟨q.1, q.2.1, by rw [h3, h4]; exact q.2.2⟩⟩
  · exact ⟨Or.inr ⟨h1, h2⟩, h5.imp id fun q => ⟨q.1, q.2.1, by rw [h3, h4]; exact q.2.2.symm⟩⟩
theorem own_srt_out {n0 n1 v0 v1 : Int64} {pp qq z0 z1 : Int32} (h : own_srt n0 n1 pp qq z0 z1 v0 v1) (y0 y1 y2 : Int64) : own_o0 pp y0 y1 y2 v0 v1 = own_ref y0 y1 y2 n1 ∧ own_o1 pp y0 y1 y2 v0 v1 = own_ref y0 y1 y2 n0 := by
  unfold own_o0 own_o1
  obtain ⟨⟨h1, h2, h3, h4⟩ | ⟨h1, h2, h3, h4⟩, h5⟩ := h
  · rw [if_pos h1, if_pos h1, h3, h4]
    exact ⟨rfl, rfl⟩
  · have : ¬ pp = 0 := by rw [h1]; decide
    rw [if_neg this, if_neg this, h3, h4]
    exact ⟨rfl, rfl⟩
theorem own_srt_bd {n0 n1 v0 v1 : Int64} {pp qq z0 z1 : Int32} (h : own_srt n0 n1 pp qq z0 z1 v0 v1) (b0 : own_bd 63 n0) (b1 : own_bd 63 n1) : own_bd 63 v0 ∧ own_bd 63 v1 := by
  obtain ⟨⟨h1, h2, h3, h4⟩ | ⟨h1, h2, h3, h4⟩, h5⟩ := h
  · rw [h3, h4]; exact ⟨b0, b1⟩
  · rw [h3, h4]; exact ⟨b1, b0⟩
theorem own_srt0 : own_srt 0 0 0 1 2 0 0 0 := ⟨Or.inl ⟨rfl, rfl, rfl, rfl⟩, Or.inr ⟨rfl, rfl, rfl⟩⟩
theorem own_srt_or {n0 n1 v0 v1 : Int64} {pp qq z0 z1 : Int32} (h : own_srt n0 n1 pp qq z0 z1 v0 v1) : (pp = 0 ∧ qq = 1) ∨ (pp = 1 ∧ qq = 0) := h.1.imp (fun q => ⟨q.1, q.2.1⟩) fun q => ⟨q.1, q.2.1⟩
theorem nd {xs : List Addr} (h : xs.Nodup) (i j : Nat) {a b : Addr} (ha : xs[i]? = some a := by rfl) (hb : xs[j]? = some b := by rfl) (hij : i ≠ j := by decide) : a ≠ b := own_nd h i j ha hb hij
theorem nn {xs ys : List Addr} (h : xs.Nodup) (i : Nat) (is : List Nat) {a : Addr} (ha : xs[i]? = some a := by rfl) (hy : is.map (fun i => xs[i]?) = ys.map some := by rfl) (hn : i ∉ is := by decide) : a ∉ ys := fun q => by
  have q2 : some a ∈ is.map (fun i => xs[i]?) := by rw [hy]; exact List.mem_map.mpr ⟨a, q, rfl⟩
  obtain ⟨j, hj, ej⟩ := List.mem_map.mp q2
  have : i = j := (List.getElem?_inj (List.getElem?_eq_some_iff.mp ha).1 h).mp (ha.trans ej.symm)
  exact hn (this ▸ hj)
section OwnRefs
variable {p : Program} {l : Launch} {e : Env} {R : Room} {s : State} {m : MethodId} {args : Array Value} {below : List Frame} {meth : Method} {c : Code} {T : State} {locs : List Loc} {cells slots : Nat} {Z : State} {h : Heap}
/-- getfield at an entry that is resolved already -/
theorem own_getR (X : Stand p l e R s m args below meth c T locs cells slots) (hx : p.tables.exec = Jvm.exec) (hZ : Z.Warmed39 s.vm) {a0 : Array Value} {own C n d : String} {index : Nat} (hown : s.vm.findClass own = some m.cls) (w : (Cond.fieldRef own index C n d).before a0 Z = true) (eT : T.heap = h) {a : Addr} {v : Value} (F : Fld Z h a C n d v)
    {g : JFrame} (hg : g.method = m) {rest : List Value} (hst : g.stack = .ref a :: rest) (hd : decode c.code g.pc = .ok (.getfield index, 3)) : ∀ target, Steps p.tables e below (T.setTop { g with pc := g.pc + 3, stack := v :: rest }) target → Steps p.tables e below (T.setTop g) target := fun target k => by
  have hZT : Z.Warmed39 T.vm := wtrans (s := s) hZ X.warmed
  obtain ⟨cell, cf, k0, i, f, h1, h2, h3, h4, h5, h6, h7⟩ := F
  have w2 := Cond.fieldRef_warmed39 hZT w
  have hcur : (Z.setVm T.vm).vm.findClass own = some m.cls := by
    show T.vm.findClass own = _
    rw [X.warmed.alike.findClass]
    exact hown
  obtain ⟨c1, k1, i1, f1, q1, q2⟩ := Cond.fieldRef_spec hcur w2
  obtain ⟨k2, q3, -⟩ := State.fieldFound?_setVm (s := Z) hZT.alike h2
  cases q3.symm.trans q1
  exact (X.getfieldR hx hg q2 h3 hst (by rw [eT]; exact h1) h4 h7 hd (Steps.refl _)).trans k
/-- a constructor called at an entry that is resolved already -/
theorem own_specialR (X : Stand p l e R s m args below meth c T locs cells slots) (hx : p.tables.exec = Jvm.exec) (hZ : Z.Warmed39 s.vm) {a0 : Array Value} {own : String} {index : Nat} {y : MethodName} (hy1 : y.name = "<init>") (hown : s.vm.findClass own = some m.cls) (w : (Cond.methodRef own index y).before a0 Z = true) (wi : (Cond.instanceMethod y).before a0 Z = true) {bytes : ByteArray} {maxL : Nat} (wc : (Cond.code y bytes maxL none).before a0 Z = true)
    (hy : y.cls ≠ "java/lang/invoke/MethodHandle" ∧ y.cls ≠ "java/lang/invoke/VarHandle") {W : Nat} {Pre : Pt → Array Value → Prop} {Post : Pt → Array Value → Option Value → Pt → Prop} (hK : Back l R p e below s args y 3 W Pre Post)
    {g : JFrame} (hg : g.method = m) (hsize : g.locals.size = c.maxLocals) {a : Addr} {argsL rest : List Value} (hlen : ∀ sig, parseMethodDescriptor y.desc = some sig → argsL.length = sig.parameters.length) (hstack : g.stack = argsL.reverse ++ .ref a :: rest) (hW : 2 * g.monitorRoom + (rest.map fun v => v.category).sum ≤ W)
    (hdg : decode c.code g.pc = .ok (.invokespecial index, 3)) (hpre : ∀ vm₁, s.WarmedH vm₁ → Pre ⟨T.setVm vm₁, locs, cells, slots⟩ (.ref a :: argsL).toArray) :
    ∃ (v : Option Value) (vm₁ : Vm) (B : Pt), s.WarmedH vm₁ ∧ Stand p l e R s m args below meth c B.U B.locs B.cells B.slots ∧ Post ⟨T.setVm vm₁, locs, cells, slots⟩ (.ref a :: argsL).toArray v B ∧ Steps p.tables e below (T.setTop g) (B.U.setTop { g with pc := g.pc + 3, stack := v.toList ++ rest }) := by
  subst hg
  have hZT : Z.Warmed39 T.vm := wtrans (s := s) hZ X.warmed
  have wiT : (Cond.instanceMethod y).before args T = true := mvT (s := T) hZT wi
  have wcT : (Cond.code y bytes maxL none).before args T = true := mvT (s := T) hZT wc
  obtain ⟨obj, methO, hnO, hmO, hstO, habO⟩ := Cond.instanceMethod_spec wiT
  obtain ⟨methO', cO, hmO', hcO, hbO, hlO, -, hlockO, -, hsigO⟩ := Cond.code_spec hnO wcT
  cases hmO.symm.trans hmO'
  obtain ⟨kO, hkO, hnameO⟩ := className_of_methodNamed hnO
  obtain ⟨hnameMO, hdescO⟩ := name_of_methodNamed hnO hmO
  obtain ⟨mZ, hnZ⟩ := Cond.code_named wc
  have w2 := Cond.methodRef_warmed39 hZT hnZ hy w
  have hcur : (Z.setVm T.vm).vm.findClass own = some g.method.cls := by
    show T.vm.findClass own = _
    rw [X.warmed.alike.findClass]
    exact hown
  obtain ⟨r, c', hf, hready, hfind, k, cf, ci, nt, n1, n2, n3, n4⟩ := Cond.methodRef_named e hcur w2
  have hr : r = obj := Option.some.inj (hf.symm.trans (State.methodFound?_of_named (s := Z.setVm T.vm) (show (Z.setVm T.vm).methodNamed? y = some obj from hnO) hy))
  have hc : c' = obj.cls := Option.some.inj (hfind.symm.trans (findClass_of_methodNamed hnO))
  subst hr hc
  have hfound : lookupSpecial T.vm r.cls "<init>" methO.desc = .method r := by
    rw [hdescO, ← hy1]
    exact lookupSpecial_of_named hnO hmO hstO
  have st : ∀ target, (∀ acts, Steps p.tables e below (doInvoke e (T.setTop { g with stack := rest }) acts r (.ref a :: argsL).toArray).1 target) → Steps p.tables e below (T.setTop g) target := fun target hrest => by
    jvm_step X.here [hx, hdg, invokespecial.wp_init (e := e) (s := T) (k := kO) (meth := methO) (m := r) (a := a) (args := argsL) (rest := rest) (f := g) X.here.top ⟨k, cf, ci, nt, n1, n2, n3, n4⟩ hready hkO hmO (by rw [hnameMO]; exact hy1) hstO habO hfound (hlen _ hsigO) hstack]
    exact hrest
  obtain ⟨v, B, X', hpost, hsteps⟩ := hK g.method meth c ⟨T.setVm T.vm, locs, cells, slots⟩ { g with stack := rest } (.invokespecial index) r (.ref a :: argsL).toArray (X.noted X.warmed) rfl hsize hdg hW hnO (hpre T.vm X.warmed)
  exact ⟨v, T.vm, B, X.warmed, X', hpost, (st _ fun acts => by rw [doInvoke_state]; exact Steps.refl _).trans hsteps⟩
end OwnRefs
section OwnCR
variable {p : Program} {l : Launch} {e : Env} {R : Room} {s s0 : State} {m : MethodId} {args : Array Value} {below : List Frame} {meth : Method} {c : Code} {T : State} {locs : List Loc} {cells slots : Nat} {Q : Option Value → Heap → List Loc → Prop} {rc rs pc : Nat} {Ls : Array Slot} {S : List Value}
theorem oR (q : Nat) (X : Stand p l e R s m args below meth c T locs cells slots) (hx : p.tables.exec = Jvm.exec) {Z : State} {h : Heap} (hZ : Z.Warmed39 s.vm) {a0 : Array Value} {own C n d : String} {index : Nat} (hown : s.vm.findClass own = some m.cls) (w : (Cond.fieldRef own index C n d).before a0 Z = true) (eT : T.heap = h) {a : Addr} {v : Value} (F : Fld Z h a C n d v) (hd : decode c.code pc = .ok (.getfield index, 3)) (hq : pc + 3 = q) (G : own_Goes p.tables e below s0 Q rc rs T (mkF m q Ls (v :: S))) : own_Goes p.tables e below s0 Q rc rs T (mkF m pc Ls (.ref a :: S)) := by subst hq; exact own_by (fun t u => own_getR X hx hZ hown w eT F (g := mkF m pc Ls (.ref a :: S)) rfl rfl hd t u) G
end OwnCR

def Q11 (Z : State) (aa : Int64) (bb : Int64) (h0 : Heap) (n0 : Nat) (v : Option Value) (h : Heap) (L : List Loc) : Prop := v = some (.double (FP.l2d (own_max aa bb))) ∧ Fr n0 L ∧ h = h0
theorem pn_com_example_firebreak_firebreak_strategies_CountFactorTakeReceivedPinLaw : plainName "com/example/firebreak/firebreak/strategies/CountFactorTakeReceivedPinLaw" = true := by first | (simp [plainName, overriddenIn]; done) | decide +kernel
theorem ef_11 (m : MethodId) (aa : UInt64) (bb : UInt64) : entryFrame m #[(.double aa), (.double bb)] 4 = mkF m 0 #[.val (.double aa), .second, .val (.double bb), .second] [] := by first | (simp [entryFrame, mkF, argsToLocals, Value.category]; done) | rfl
theorem d11_0 : decode method_2_code 0 = .ok (.dload_n 0, 1) := by decide +kernel
theorem d11_1 : decode method_2_code 1 = .ok (.dload_n 2, 1) := by decide +kernel
theorem d11_2 : decode method_2_code 2 = .ok (.dcmp .l, 1) := by decide +kernel
theorem d11_3 : decode method_2_code 3 = .ok (.ifCond .lt 7, 3) := by decide +kernel
theorem d11_10 : decode method_2_code 10 = .ok (.dload_n 2, 1) := by decide +kernel
theorem d11_11 : decode method_2_code 11 = .ok (.dreturn, 1) := by decide +kernel
theorem d11_6 : decode method_2_code 6 = .ok (.dload_n 0, 1) := by decide +kernel
theorem d11_7 : decode method_2_code 7 = .ok (.goto 4, 3) := by decide +kernel
set_option maxRecDepth 65536 in
set_option maxHeartbeats 40000000 in
theorem rm11 (l : Launch) (Z : State) (a0 : Array Value) (hw : ∀ d ∈ tables_1, d.before a0 Z = true) (ws : List Jvm.Cond) (aa : Int64) (bb : Int64) (h0 : Heap) (n0 : Nat) (Zle : n0 ≤ h0.size) (ba : B53 aa) (bb_ : B53 bb) :
    MetFree l (⟨"com/example/firebreak/firebreak/strategies/CountFactorTakeReceivedPinLaw", "best", "(DD)D"⟩ : MethodName) (head1 (Jvm.Cond.code (⟨"com/example/firebreak/firebreak/strategies/CountFactorTakeReceivedPinLaw", "best", "(DD)D"⟩ : MethodName) method_2_code 4 (some .double) :: ws) ({ frames := 0, cells := 0, slots := 0, locals := 0 } : Room)) (fun a U => a = #[(.double (FP.l2d aa)), (.double (FP.l2d bb))] ∧ Z.Warmed39 U.vm ∧ U.heap = h0) (fun _ _ _ _ _ => True) (fun _ U o U' => ∃ v L, o = .returned v ∧ Q11 Z aa bb h0 n0 v U'.heap L ∧ FrameEnd U o U' L ({ frames := 0, cells := 0, slots := 0, locals := 0 } : Room).cells ({ frames := 0, cells := 0, slots := 0, locals := 0 } : Room).slots) := by
  refine MetFree.of_bodySF (plainFor_of_name pn_com_example_firebreak_firebreak_strategies_CountFactorTakeReceivedPinLaw) hisR ?_
  intro p e s m args below meth c s₁ Bd hml0 hP hK
  obtain ⟨rfl, hZ, hh⟩ := hP
  have hx := Bd.exec
  have hby := Bd.bytes
  have hml : c.maxLocals = 4 := hml0
  have hown : s.vm.findClass "com/example/firebreak/firebreak/strategies/CountFactorTakeReceivedPinLaw" = some m.cls := findClass_of_methodNamed Bd.named
  have hnm := (name_of_methodNamed Bd.named Bd.method).1
  have X0 : Stand p l e ({ frames := 0, cells := 0, slots := 0, locals := 0 } : Room) s m #[(.double (FP.l2d aa)), (.double (FP.l2d bb))] below meth c s₁ [] 0 0 := Stand.of_body Bd
  have e0 : s₁.heap = h0 := by rw [← hh, Bd.state]; rfl
  have N_ := Fr.nil n0
  show own_Goes p.tables e below s (Q11 Z aa bb h0 n0) ({ frames := 0, cells := 0, slots := 0, locals := 0 } : Room).cells ({ frames := 0, cells := 0, slots := 0, locals := 0 } : Room).slots s₁ (entryFrame m #[(.double (FP.l2d aa)), (.double (FP.l2d bb))] 4)
  refine own_by (T' := s₁) (g' := (mkF m 0 (Ls0 (FP.l2d aa) (FP.l2d bb)) [])) (fun t k => castTop (ef_11 m (FP.l2d aa) (FP.l2d bb)) k) ?_
  refine oDlN 1 X0 hx (hb hby d11_0) rfl rfl ?_
  refine oDlN 2 X0 hx (hb hby d11_1) rfl rfl ?_
  refine own_by (g' := (mkF m 3 (Ls0 (FP.l2d aa) (FP.l2d bb)) [(.int (lcmpW aa bb))])) (fun t k => XS.dcmpS X0.here hx rfl (hb hby d11_2) rfl (dcmpV_w ba bb_ _) k) ?_
  by_cases hc3_1 : aa < bb
  · refine oFy 10 X0 hx (hb hby d11_3) ((if0 _ _).trans (tlt ((lw_lt _ _).mpr hc3_1)).1) (by decide) (by decide) ?_
    refine oDlN 11 X0 hx (hb hby d11_10) rfl rfl ?_
    exact own_retD X0 hx Bd.notSynchronized Bd.returns (hb hby d11_11) (by decide) (by decide) (by rw [e0]; exact ⟨by unfold own_max; rw [if_pos hc3_1], N_, rfl⟩)
  · refine oFn 6 X0 hx (hb hby d11_3) ((if0 _ _).trans (flt (fun q => hc3_1 ((lw_lt _ _).mp q))).1) rfl ?_
    refine oDlN 7 X0 hx (hb hby d11_6) rfl rfl ?_
    refine oGo 11 X0 hx (hb hby d11_7) (by decide) (by decide) ?_
    exact own_retD X0 hx Bd.notSynchronized Bd.returns (hb hby d11_11) (by decide) (by decide) (by rw [e0]; exact ⟨by unfold own_max; rw [if_neg hc3_1], N_, rfl⟩)

def Q8f (Z : State) (aa : Int64) (bb : Int64) (h0 : Heap) (n0 : Nat) (v : Option Value) (h : Heap) (L : List Loc) : Prop := v = some (.double (FP.l2d (own_max aa bb))) ∧ Fr n0 L ∧ h = h0
theorem pn_com_example_firebreak_firebreak_strategies_DoubleMax : plainName "com/example/firebreak/firebreak/strategies/DoubleMax" = true := by first | (simp [plainName, overriddenIn]; done) | decide +kernel
theorem ef_8f (m : MethodId) (aa : UInt64) (bb : UInt64) : entryFrame m #[(.double aa), (.double bb)] 4 = mkF m 0 #[.val (.double aa), .second, .val (.double bb), .second] [] := by first | (simp [entryFrame, mkF, argsToLocals, Value.category]; done) | rfl
theorem d8_0 : decode prog_46_method_2_code 0 = .ok (.dload_n 0, 1) := by decide +kernel
theorem d8_1 : decode prog_46_method_2_code 1 = .ok (.dload_n 2, 1) := by decide +kernel
theorem d8_2 : decode prog_46_method_2_code 2 = .ok (.dcmp .l, 1) := by decide +kernel
theorem d8_3 : decode prog_46_method_2_code 3 = .ok (.ifCond .lt 7, 3) := by decide +kernel
theorem d8_10 : decode prog_46_method_2_code 10 = .ok (.dload_n 2, 1) := by decide +kernel
theorem d8_11 : decode prog_46_method_2_code 11 = .ok (.dreturn, 1) := by decide +kernel
theorem d8_6 : decode prog_46_method_2_code 6 = .ok (.dload_n 0, 1) := by decide +kernel
theorem d8_7 : decode prog_46_method_2_code 7 = .ok (.goto 4, 3) := by decide +kernel
set_option maxRecDepth 65536 in
set_option maxHeartbeats 40000000 in
theorem rm8f (l : Launch) (Z : State) (a0 : Array Value) (hw : ∀ d ∈ tables_1, d.before a0 Z = true) (ws : List Jvm.Cond) (aa : Int64) (bb : Int64) (h0 : Heap) (n0 : Nat) (Zle : n0 ≤ h0.size) (ba : B53 aa) (bb_ : B53 bb) :
    MetFree l (⟨"com/example/firebreak/firebreak/strategies/DoubleMax", "of", "(DD)D"⟩ : MethodName) (head1 (Jvm.Cond.code (⟨"com/example/firebreak/firebreak/strategies/DoubleMax", "of", "(DD)D"⟩ : MethodName) prog_46_method_2_code 4 (some .double) :: ws) ({ frames := 0, cells := 0, slots := 0, locals := 0 } : Room)) (fun a U => a = #[(.double (FP.l2d aa)), (.double (FP.l2d bb))] ∧ Z.Warmed39 U.vm ∧ U.heap = h0) (fun _ _ _ _ _ => True) (fun _ U o U' => ∃ v L, o = .returned v ∧ Q8f Z aa bb h0 n0 v U'.heap L ∧ FrameEnd U o U' L ({ frames := 0, cells := 0, slots := 0, locals := 0 } : Room).cells ({ frames := 0, cells := 0, slots := 0, locals := 0 } : Room).slots) := by
  refine MetFree.of_bodySF (plainFor_of_name pn_com_example_firebreak_firebreak_strategies_DoubleMax) hisR ?_
  intro p e s m args below meth c s₁ Bd hml0 hP hK
  obtain ⟨rfl, hZ, hh⟩ := hP
  have hx := Bd.exec
  have hby := Bd.bytes
  have hml : c.maxLocals = 4 := hml0
  have hown : s.vm.findClass "com/example/firebreak/firebreak/strategies/DoubleMax" = some m.cls := findClass_of_methodNamed Bd.named
  have hnm := (name_of_methodNamed Bd.named Bd.method).1
  have X0 : Stand p l e ({ frames := 0, cells := 0, slots := 0, locals := 0 } : Room) s m #[(.double (FP.l2d aa)), (.double (FP.l2d bb))] below meth c s₁ [] 0 0 := Stand.of_body Bd
  have e0 : s₁.heap = h0 := by rw [← hh, Bd.state]; rfl
  have N_ := Fr.nil n0
  show own_Goes p.tables e below s (Q8f Z aa bb h0 n0) ({ frames := 0, cells := 0, slots := 0, locals := 0 } : Room).cells ({ frames := 0, cells := 0, slots := 0, locals := 0 } : Room).slots s₁ (entryFrame m #[(.double (FP.l2d aa)), (.double (FP.l2d bb))] 4)
  refine own_by (T' := s₁) (g' := (mkF m 0 (Ls0 (FP.l2d aa) (FP.l2d bb)) [])) (fun t k => castTop (ef_8f m (FP.l2d aa) (FP.l2d bb)) k) ?_
  refine oDlN 1 X0 hx (hb hby d8_0) rfl rfl ?_
  refine oDlN 2 X0 hx (hb hby d8_1) rfl rfl ?_
  refine own_by (g' := (mkF m 3 (Ls0 (FP.l2d aa) (FP.l2d bb)) [(.int (lcmpW aa bb))])) (fun t k => XS.dcmpS X0.here hx rfl (hb hby d8_2) rfl (dcmpV_w ba bb_ _) k) ?_
  by_cases hc3_1 : aa < bb
  · refine oFy 10 X0 hx (hb hby d8_3) ((if0 _ _).trans (tlt ((lw_lt _ _).mpr hc3_1)).1) (by decide) (by decide) ?_
    refine oDlN 11 X0 hx (hb hby d8_10) rfl rfl ?_
    exact own_retD X0 hx Bd.notSynchronized Bd.returns (hb hby d8_11) (by decide) (by decide) (by rw [e0]; exact ⟨by unfold own_max; rw [if_pos hc3_1], N_, rfl⟩)
  · refine oFn 6 X0 hx (hb hby d8_3) ((if0 _ _).trans (flt (fun q => hc3_1 ((lw_lt _ _).mp q))).1) rfl ?_
    refine oDlN 7 X0 hx (hb hby d8_6) rfl rfl ?_
    refine oGo 11 X0 hx (hb hby d8_7) (by decide) (by decide) ?_
    exact own_retD X0 hx Bd.notSynchronized Bd.returns (hb hby d8_11) (by decide) (by decide) (by rw [e0]; exact ⟨by unfold own_max; rw [if_neg hc3_1], N_, rfl⟩)

def Q8l (Z : State) (bb : Int64) (h0 : Heap) (n0 : Nat) (v : Option Value) (h : Heap) (L : List Loc) : Prop := v = some (.double (FP.l2d bb)) ∧ Fr n0 L ∧ h = h0
theorem ef_8l (m : MethodId) (bb : UInt64) : entryFrame m #[(.double 18442240474082181120), (.double bb)] 4 = mkF m 0 #[.val (.double 18442240474082181120), .second, .val (.double bb), .second] [] := by first | (simp [entryFrame, mkF, argsToLocals, Value.category]; done) | rfl
set_option maxRecDepth 65536 in
set_option maxHeartbeats 40000000 in
theorem rm8l (l : Launch) (Z : State) (a0 : Array Value) (hw : ∀ d ∈ tables_1, d.before a0 Z = true) (ws : List Jvm.Cond) (bb : Int64) (h0 : Heap) (n0 : Nat) (Zle : n0 ≤ h0.size) :
    MetFree l (⟨"com/example/firebreak/firebreak/strategies/DoubleMax", "of", "(DD)D"⟩ : MethodName) (head1 (Jvm.Cond.code (⟨"com/example/firebreak/firebreak/strategies/DoubleMax", "of", "(DD)D"⟩ : MethodName) prog_46_method_2_code 4 (some .double) :: ws) ({ frames := 0, cells := 0, slots := 0, locals := 0 } : Room)) (fun a U => a = #[(.double 18442240474082181120), (.double (FP.l2d bb))] ∧ Z.Warmed39 U.vm ∧ U.heap = h0) (fun _ _ _ _ _ => True) (fun _ U o U' => ∃ v L, o = .returned v ∧ Q8l Z bb h0 n0 v U'.heap L ∧ FrameEnd U o U' L ({ frames := 0, cells := 0, slots := 0, locals := 0 } : Room).cells ({ frames := 0, cells := 0, slots := 0, locals := 0 } : Room).slots) := by
  refine MetFree.of_bodySF (plainFor_of_name pn_com_example_firebreak_firebreak_strategies_DoubleMax) hisR ?_
  intro p e s m args below meth c s₁ Bd hml0 hP hK
  obtain ⟨rfl, hZ, hh⟩ := hP
  have hx := Bd.exec
  have hby := Bd.bytes
  have hml : c.maxLocals = 4 := hml0
  have hown : s.vm.findClass "com/example/firebreak/firebreak/strategies/DoubleMax" = some m.cls := findClass_of_methodNamed Bd.named
  have hnm := (name_of_methodNamed Bd.named Bd.method).1
  have X0 : Stand p l e ({ frames := 0, cells := 0, slots := 0, locals := 0 } : Room) s m #[(.double 18442240474082181120), (.double (FP.l2d bb))] below meth c s₁ [] 0 0 := Stand.of_body Bd
  have e0 : s₁.heap = h0 := by rw [← hh, Bd.state]; rfl
  have N_ := Fr.nil n0
  show own_Goes p.tables e below s (Q8l Z bb h0 n0) ({ frames := 0, cells := 0, slots := 0, locals := 0 } : Room).cells ({ frames := 0, cells := 0, slots := 0, locals := 0 } : Room).slots s₁ (entryFrame m #[(.double 18442240474082181120), (.double (FP.l2d bb))] 4)
  refine own_by (T' := s₁) (g' := (mkF m 0 (Ls0 18442240474082181120 (FP.l2d bb)) [])) (fun t k => castTop (ef_8l m (FP.l2d bb)) k) ?_
  refine oDlN 1 X0 hx (hb hby d8_0) rfl rfl ?_
  refine oDlN 2 X0 hx (hb hby d8_1) rfl rfl ?_
  refine own_by (g' := (mkF m 3 (Ls0 18442240474082181120 (FP.l2d bb)) [(.int (-1))])) (fun t k => XS.dcmpS X0.here hx rfl (hb hby d8_2) rfl (dcmp_ninf' (Jvm.Free.Fl.l2d_fin _) _) k) ?_
  refine oFy 10 X0 hx (hb hby d8_3) ((if0 _ _).trans (tlt (by decide)).1) (by decide) (by decide) ?_
  refine oDlN 11 X0 hx (hb hby d8_10) rfl rfl ?_
  exact own_retD X0 hx Bd.notSynchronized Bd.returns (hb hby d8_11) (by decide) (by decide) (by rw [e0]; exact ⟨rfl, N_, rfl⟩)

def Q8r (Z : State) (aa : Int64) (h0 : Heap) (n0 : Nat) (v : Option Value) (h : Heap) (L : List Loc) : Prop := v = some (.double (FP.l2d aa)) ∧ Fr n0 L ∧ h = h0
theorem ef_8r (m : MethodId) (aa : UInt64) : entryFrame m #[(.double aa), (.double 18442240474082181120)] 4 = mkF m 0 #[.val (.double aa), .second, .val (.double 18442240474082181120), .second] [] := by first | (simp [entryFrame, mkF, argsToLocals, Value.category]; done) | rfl
set_option maxRecDepth 65536 in
set_option maxHeartbeats 40000000 in
theorem rm8r (l : Launch) (Z : State) (a0 : Array Value) (hw : ∀ d ∈ tables_1, d.before a0 Z = true) (ws : List Jvm.Cond) (aa : Int64) (h0 : Heap) (n0 : Nat) (Zle : n0 ≤ h0.size) :
    MetFree l (⟨"com/example/firebreak/firebreak/strategies/DoubleMax", "of", "(DD)D"⟩ : MethodName) (head1 (Jvm.Cond.code (⟨"com/example/firebreak/firebreak/strategies/DoubleMax", "of", "(DD)D"⟩ : MethodName) prog_46_method_2_code 4 (some .double) :: ws) ({ frames := 0, cells := 0, slots := 0, locals := 0 } : Room)) (fun a U => a = #[(.double (FP.l2d aa)), (.double 18442240474082181120)] ∧ Z.Warmed39 U.vm ∧ U.heap = h0) (fun _ _ _ _ _ => True) (fun _ U o U' => ∃ v L, o = .returned v ∧ Q8r Z aa h0 n0 v U'.heap L ∧ FrameEnd U o U' L ({ frames := 0, cells := 0, slots := 0, locals := 0 } : Room).cells ({ frames := 0, cells := 0, slots := 0, locals := 0 } : Room).slots) := by
  refine MetFree.of_bodySF (plainFor_of_name pn_com_example_firebreak_firebreak_strategies_DoubleMax) hisR ?_
  intro p e s m args below meth c s₁ Bd hml0 hP hK
  obtain ⟨rfl, hZ, hh⟩ := hP
  have hx := Bd.exec
  have hby := Bd.bytes
  have hml : c.maxLocals = 4 := hml0
  have hown : s.vm.findClass "com/example/firebreak/firebreak/strategies/DoubleMax" = some m.cls := findClass_of_methodNamed Bd.named
  have hnm := (name_of_methodNamed Bd.named Bd.method).1
  have X0 : Stand p l e ({ frames := 0, cells := 0, slots := 0, locals := 0 } : Room) s m #[(.double (FP.l2d aa)), (.double 18442240474082181120)] below meth c s₁ [] 0 0 := Stand.of_body Bd
  have e0 : s₁.heap = h0 := by rw [← hh, Bd.state]; rfl
  have N_ := Fr.nil n0
  show own_Goes p.tables e below s (Q8r Z aa h0 n0) ({ frames := 0, cells := 0, slots := 0, locals := 0 } : Room).cells ({ frames := 0, cells := 0, slots := 0, locals := 0 } : Room).slots s₁ (entryFrame m #[(.double (FP.l2d aa)), (.double 18442240474082181120)] 4)
  refine own_by (T' := s₁) (g' := (mkF m 0 (Ls0 (FP.l2d aa) 18442240474082181120) [])) (fun t k => castTop (ef_8r m (FP.l2d aa)) k) ?_
  refine oDlN 1 X0 hx (hb hby d8_0) rfl rfl ?_
  refine oDlN 2 X0 hx (hb hby d8_1) rfl rfl ?_
  refine own_by (g' := (mkF m 3 (Ls0 (FP.l2d aa) 18442240474082181120) [(.int 1)])) (fun t k => XS.dcmpS X0.here hx rfl (hb hby d8_2) rfl (dcmp_ninf (Jvm.Free.Fl.l2d_fin _) _) k) ?_
  refine oFn 6 X0 hx (hb hby d8_3) ((if0 _ _).trans (flt (by decide)).1) rfl ?_
  refine oDlN 7 X0 hx (hb hby d8_6) rfl rfl ?_
  refine oGo 11 X0 hx (hb hby d8_7) (by decide) (by decide) ?_
  exact own_retD X0 hx Bd.notSynchronized Bd.returns (hb hby d8_11) (by decide) (by decide) (by rw [e0]; exact ⟨rfl, N_, rfl⟩)

def Q10 (Z : State) (y0 : Int64) (y1 : Int64) (y2 : Int64) (yy : Int64) (h0 : Heap) (n0 : Nat) (v : Option Value) (h : Heap) (L : List Loc) : Prop := v = some (.double (FP.l2d (own_ref y0 y1 y2 yy))) ∧ Fr n0 L ∧ h = h0
theorem ef_10 (m : MethodId) (y0 : UInt64) (y1 : UInt64) (y2 : UInt64) (yy : UInt64) : entryFrame m #[(.double y0), (.double y1), (.double y2), (.double yy)] 8 = mkF m 0 #[.val (.double y0), .second, .val (.double y1), .second, .val (.double y2), .second, .val (.double yy), .second] [] := by first | (simp [entryFrame, mkF, argsToLocals, Value.category]; done) | rfl
theorem d10_0 : decode method_3_code 0 = .ok (.dload_n 2, 1) := by decide +kernel
theorem d10_1 : decode method_3_code 1 = .ok (.dload 4, 2) := by decide +kernel
theorem d10_3 : decode method_3_code 3 = .ok (.dload 6, 2) := by decide +kernel
theorem d10_5 : decode method_3_code 5 = .ok (.dadd, 1) := by decide +kernel
theorem d10_6 : decode method_3_code 6 = .ok (.invokestatic 7, 3) := by decide +kernel
theorem pd_2 : parseMethodDescriptor "(DD)D" = some ⟨[.double, .double], some .double⟩ := by decide +kernel
theorem d10_9 : decode method_3_code 9 = .ok (.dload_n 0, 1) := by decide +kernel
theorem d10_10 : decode method_3_code 10 = .ok (.dload_n 2, 1) := by decide +kernel
theorem d10_11 : decode method_3_code 11 = .ok (.dload 6, 2) := by decide +kernel
theorem d10_13 : decode method_3_code 13 = .ok (.dadd, 1) := by decide +kernel
theorem d10_14 : decode method_3_code 14 = .ok (.invokestatic 7, 3) := by decide +kernel
theorem d10_17 : decode method_3_code 17 = .ok (.dsub, 1) := by decide +kernel
theorem d10_18 : decode method_3_code 18 = .ok (.dreturn, 1) := by decide +kernel
set_option maxRecDepth 65536 in
set_option maxHeartbeats 40000000 in
theorem rm10 (l : Launch) (Z : State) (a0 : Array Value) (hw : ∀ d ∈ tables_1, d.before a0 Z = true) (ws : List Jvm.Cond) (y0 : Int64) (y1 : Int64) (y2 : Int64) (yy : Int64) (h0 : Heap) (n0 : Nat) (Zle : n0 ≤ h0.size) (b0 : own_bd 128 y0) (b1 : own_bd 128 y1) (b2 : own_bd 128 y2) (by_ : own_bd 63 yy) :
    MetFree l (⟨"com/example/firebreak/firebreak/strategies/CountFactorTakeReceivedPinLaw", "ref", "(DDDD)D"⟩ : MethodName) (head1 (Jvm.Cond.code (⟨"com/example/firebreak/firebreak/strategies/CountFactorTakeReceivedPinLaw", "ref", "(DDDD)D"⟩ : MethodName) method_3_code 8 (some .double) :: ws) ({ frames := 1, cells := 0, slots := 0, locals := 20 } : Room)) (fun a U => a = #[(.double (FP.l2d y0)), (.double (FP.l2d y1)), (.double (FP.l2d y2)), (.double (FP.l2d yy))] ∧ Z.Warmed39 U.vm ∧ U.heap = h0) (fun _ _ _ _ _ => True) (fun _ U o U' => ∃ v L, o = .returned v ∧ Q10 Z y0 y1 y2 yy h0 n0 v U'.heap L ∧ FrameEnd U o U' L ({ frames := 1, cells := 0, slots := 0, locals := 20 } : Room).cells ({ frames := 1, cells := 0, slots := 0, locals := 20 } : Room).slots) := by
  refine MetFree.of_bodySF (plainFor_of_name pn_com_example_firebreak_firebreak_strategies_CountFactorTakeReceivedPinLaw) hisR ?_
  intro p e s m args below meth c s₁ Bd hml0 hP hK
  obtain ⟨rfl, hZ, hh⟩ := hP
  have hx := Bd.exec
  have hby := Bd.bytes
  have hml : c.maxLocals = 8 := hml0
  have hown : s.vm.findClass "com/example/firebreak/firebreak/strategies/CountFactorTakeReceivedPinLaw" = some m.cls := findClass_of_methodNamed Bd.named
  have hnm := (name_of_methodNamed Bd.named Bd.method).1
  have X0 : Stand p l e ({ frames := 1, cells := 0, slots := 0, locals := 20 } : Room) s m #[(.double (FP.l2d y0)), (.double (FP.l2d y1)), (.double (FP.l2d y2)), (.double (FP.l2d yy))] below meth c s₁ [] 0 0 := Stand.of_body Bd
  have e0 : s₁.heap = h0 := by rw [← hh, Bd.state]; rfl
  have N_ := Fr.nil n0
  show own_Goes p.tables e below s (Q10 Z y0 y1 y2 yy h0 n0) ({ frames := 1, cells := 0, slots := 0, locals := 20 } : Room).cells ({ frames := 1, cells := 0, slots := 0, locals := 20 } : Room).slots s₁ (entryFrame m #[(.double (FP.l2d y0)), (.double (FP.l2d y1)), (.double (FP.l2d y2)), (.double (FP.l2d yy))] 8)
  refine own_by (T' := s₁) (g' := (mkF m 0 (Ls1 (FP.l2d y0) (FP.l2d y1) (FP.l2d y2) (FP.l2d yy)) [])) (fun t k => castTop (ef_10 m (FP.l2d y0) (FP.l2d y1) (FP.l2d y2) (FP.l2d yy)) k) ?_
  refine oDlN 1 X0 hx (hb hby d10_0) rfl rfl ?_
  refine oDl 3 X0 hx (hb hby d10_1) rfl rfl ?_
  refine oDl 5 X0 hx (hb hby d10_3) rfl rfl ?_
  refine own_by (g' := (mkF m 6 (Ls1 (FP.l2d y0) (FP.l2d y1) (FP.l2d y2) (FP.l2d yy)) [(.double (FP.l2d (y2 + yy))), (.double (FP.l2d y1))])) (fun t k => XS.daddS X0.here hx rfl (hb hby d10_5) rfl (nn_w (dadd_w (own_b53 b2) (own_b53 by_))) (dadd_w (own_b53 b2) (own_b53 by_)) k) ?_
  obtain ⟨_, _, ⟨T1, L1, k1, n1⟩, -, X1, ⟨Lc1, hQ1, l1, y1, z1⟩, st1⟩ := Jvm.LawKit.callS X0 hx (y := (⟨"com/example/firebreak/firebreak/strategies/CountFactorTakeReceivedPinLaw", "best", "(DD)D"⟩ : MethodName)) hown (mvT hZ (hw _ (own_m 107 rfl))) (mvT hZ (hw _ (own_m 108 rfl))) (mvT hZ (hw _ (own_m 102 rfl))) (mvT hZ (hw _ (own_m 109 rfl))) (by decide) (backOf (W := 0) (rm11 l Z a0 hw [] y1 (y2 + yy) h0 n0 Zle ((own_b53 b1)) ((own_b53 (own_badd b2 by_)))) hZ (hw _ (own_m 109 rfl)) (hw _ (own_m 102 rfl)) (by decide) (by decide)) (g := (mkF m 6 (Ls1 (FP.l2d y0) (FP.l2d y1) (FP.l2d y2) (FP.l2d yy)) [(.double (FP.l2d (y2 + yy))), (.double (FP.l2d y1))])) rfl (by rw [hml]; rfl) (argsL := [(.double (FP.l2d y1)), (.double (FP.l2d (y2 + yy)))]) (rest := []) (lenOf pd_2 rfl) rfl (own_le rfl) (hb hby d10_6) (fun _ _ => ⟨rfl, e0, (by decide : 0 + 0 ≤ _), (by decide : 0 + 0 ≤ _)⟩)
  dsimp only [Pt.U, Pt.locs, Pt.cells, Pt.slots] at X1 l1 y1 z1 st1 hQ1
  subst l1 y1 z1
  obtain ⟨rfl, Nq1, e1⟩ := hQ1
  replace N_ := Fr.app N_ Nq1
  clear Nq1
  refine own_by (T' := T1) (g' := (mkF m 9 (Ls1 (FP.l2d y0) (FP.l2d y1) (FP.l2d y2) (FP.l2d yy)) [(.double (FP.l2d (own_max y1 (y2 + yy))))])) (fun t k => st1 _ k) ?_
  clear st1 X0 e0
  refine oDlN 10 X1 hx (hb hby d10_9) rfl rfl ?_
  refine oDlN 11 X1 hx (hb hby d10_10) rfl rfl ?_
  refine oDl 13 X1 hx (hb hby d10_11) rfl rfl ?_
  refine own_by (g' := (mkF m 14 (Ls1 (FP.l2d y0) (FP.l2d y1) (FP.l2d y2) (FP.l2d yy)) [(.double (FP.l2d (y1 + yy))), (.double (FP.l2d y0)), (.double (FP.l2d (own_max y1 (y2 + yy))))])) (fun t k => XS.daddS X1.here hx rfl (hb hby d10_13) rfl (nn_w (dadd_w (own_b53 b1) (own_b53 by_))) (dadd_w (own_b53 b1) (own_b53 by_)) k) ?_
  obtain ⟨_, _, ⟨T2, L2, k2, n2⟩, -, X2, ⟨Lc2, hQ2, l2, y2, z2⟩, st2⟩ := Jvm.LawKit.callS X1 hx (y := (⟨"com/example/firebreak/firebreak/strategies/CountFactorTakeReceivedPinLaw", "best", "(DD)D"⟩ : MethodName)) hown (mvT hZ (hw _ (own_m 107 rfl))) (mvT hZ (hw _ (own_m 108 rfl))) (mvT hZ (hw _ (own_m 102 rfl))) (mvT hZ (hw _ (own_m 109 rfl))) (by decide) (backOf (W := 2) (rm11 l Z a0 hw [] y0 (y1 + yy) h0 n0 Zle ((own_b53 b0)) ((own_b53 (own_badd b1 by_)))) hZ (hw _ (own_m 109 rfl)) (hw _ (own_m 102 rfl)) (by decide) (by decide)) (g := (mkF m 14 (Ls1 (FP.l2d y0) (FP.l2d y1) (FP.l2d y2) (FP.l2d yy)) [(.double (FP.l2d (y1 + yy))), (.double (FP.l2d y0)), (.double (FP.l2d (own_max y1 (y2 + yy))))])) rfl (by rw [hml]; rfl) (argsL := [(.double (FP.l2d y0)), (.double (FP.l2d (y1 + yy)))]) (rest := [(.double (FP.l2d (own_max y1 (y2 + yy))))]) (lenOf pd_2 rfl) rfl (own_le rfl) (hb hby d10_14) (fun _ _ => ⟨rfl, e1, (by decide : 0 + 0 ≤ _), (by decide : 0 + 0 ≤ _)⟩)
  dsimp only [Pt.U, Pt.locs, Pt.cells, Pt.slots] at X2 l2 y2 z2 st2 hQ2
  subst l2 y2 z2
  obtain ⟨rfl, Nq2, e2⟩ := hQ2
  replace N_ := Fr.app N_ Nq2
  clear Nq2
  refine own_by (T' := T2) (g' := (mkF m 17 (Ls1 (FP.l2d y0) (FP.l2d y1) (FP.l2d y2) (FP.l2d yy)) [(.double (FP.l2d (own_max y0 (y1 + yy)))), (.double (FP.l2d (own_max y1 (y2 + yy))))])) (fun t k => st2 _ k) ?_
  clear st2 X1 e1
  refine own_by (g' := (mkF m 18 (Ls1 (FP.l2d y0) (FP.l2d y1) (FP.l2d y2) (FP.l2d yy)) [(.double (FP.l2d ((own_max y1 (y2 + yy)) - (own_max y0 (y1 + yy)))))])) (fun t k => XS.dsubS X2.here hx rfl (hb hby d10_17) rfl (nn_w (dsub_w (own_b53 (own_bmax b1 (own_badd b2 by_))) (own_b53 (own_bmax b0 (own_badd b1 by_))))) (dsub_w (own_b53 (own_bmax b1 (own_badd b2 by_))) (own_b53 (own_bmax b0 (own_badd b1 by_)))) k) ?_
  exact own_retD X2 hx Bd.notSynchronized Bd.returns (hb hby d10_18) (by decide) (by decide) (by rw [e2]; exact ⟨rfl, N_, rfl⟩)

def Q9 (Z : State) (oo : Addr) (y0 : Int64) (y1 : Int64) (y2 : Int64) (n0_ : Int64) (n1_ : Int64) (ko : ClassId) (h0 : Heap) (n0 : Nat) (v : Option Value) (h : Heap) (L : List Loc) : Prop := v = some (.int 1) ∧ Fr n0 L ∧ h = h0
theorem ef_9 (m : MethodId) (oo : Addr) (y0 : UInt64) (y1 : UInt64) (y2 : UInt64) (n0_ : UInt64) (n1_ : UInt64) : entryFrame m #[(.ref oo), (.double y0), (.double y1), (.double y2), (.double n0_), (.double n1_)] 11 = mkF m 0 #[.val (.ref oo), .val (.double y0), .second, .val (.double y1), .second, .val (.double y2), .second, .val (.double n0_), .second, .val (.double n1_), .second] [] := by first | (simp [entryFrame, mkF, argsToLocals, Value.category]; done) | rfl
theorem d9_0 : decode method_4_code 0 = .ok (.aload_n 0, 1) := by decide +kernel
theorem d9_1 : decode method_4_code 1 = .ok (.iconst 0, 1) := by decide +kernel
theorem d9_2 : decode method_4_code 2 = .ok (.daload, 1) := by decide +kernel
theorem d9_3 : decode method_4_code 3 = .ok (.dload_n 1, 1) := by decide +kernel
theorem d9_4 : decode method_4_code 4 = .ok (.dload_n 3, 1) := by decide +kernel
theorem d9_5 : decode method_4_code 5 = .ok (.dload 5, 2) := by decide +kernel
theorem d9_7 : decode method_4_code 7 = .ok (.dload 9, 2) := by decide +kernel
theorem d9_9 : decode method_4_code 9 = .ok (.invokestatic 13, 3) := by decide +kernel
theorem pd_7 : parseMethodDescriptor "(DDDD)D" = some ⟨[.double, .double, .double, .double], some .double⟩ := by decide +kernel
theorem d9_12 : decode method_4_code 12 = .ok (.dcmp .l, 1) := by decide +kernel
theorem d9_13 : decode method_4_code 13 = .ok (.ifCond .ne 23, 3) := by decide +kernel
theorem d9_16 : decode method_4_code 16 = .ok (.aload_n 0, 1) := by decide +kernel
theorem d9_17 : decode method_4_code 17 = .ok (.iconst 1, 1) := by decide +kernel
theorem d9_18 : decode method_4_code 18 = .ok (.daload, 1) := by decide +kernel
theorem d9_19 : decode method_4_code 19 = .ok (.dload_n 1, 1) := by decide +kernel
theorem d9_20 : decode method_4_code 20 = .ok (.dload_n 3, 1) := by decide +kernel
theorem d9_21 : decode method_4_code 21 = .ok (.dload 5, 2) := by decide +kernel
theorem d9_23 : decode method_4_code 23 = .ok (.dload 7, 2) := by decide +kernel
theorem d9_25 : decode method_4_code 25 = .ok (.invokestatic 13, 3) := by decide +kernel
theorem d9_28 : decode method_4_code 28 = .ok (.dcmp .l, 1) := by decide +kernel
theorem d9_29 : decode method_4_code 29 = .ok (.ifCond .ne 7, 3) := by decide +kernel
theorem d9_32 : decode method_4_code 32 = .ok (.iconst 1, 1) := by decide +kernel
theorem d9_33 : decode method_4_code 33 = .ok (.goto 4, 3) := by decide +kernel
theorem d9_37 : decode method_4_code 37 = .ok (.ireturn, 1) := by decide +kernel
set_option maxRecDepth 65536 in
set_option maxHeartbeats 40000000 in
theorem rm9 (l : Launch) (Z : State) (a0 : Array Value) (hw : ∀ d ∈ tables_1, d.before a0 Z = true) (ws : List Jvm.Cond) (oo : Addr) (y0 : Int64) (y1 : Int64) (y2 : Int64) (n0_ : Int64) (n1_ : Int64) (ko : ClassId) (h0 : Heap) (n0 : Nat) (Zle : n0 ≤ h0.size) (V_oo : Arv Z h0 oo ko .double (2 : Int32) [(.double (FP.l2d (own_ref y0 y1 y2 n1_))), (.double (FP.l2d (own_ref y0 y1 y2 n0_)))] (.double (FP.l2d 0))) (b0 : own_bd 128 y0) (b1 : own_bd 128 y1) (b2 : own_bd 128 y2) (bn0 : own_bd 63 n0_) (bn1 : own_bd 63 n1_) :
    MetFree l (⟨"com/example/firebreak/firebreak/strategies/CountFactorTakeReceivedPinLaw", "agrees", "([DDDDDD)Z"⟩ : MethodName) (head1 (Jvm.Cond.code (⟨"com/example/firebreak/firebreak/strategies/CountFactorTakeReceivedPinLaw", "agrees", "([DDDDDD)Z"⟩ : MethodName) method_4_code 11 (some .boolean) :: ws) ({ frames := 2, cells := 0, slots := 0, locals := 60 } : Room)) (fun a U => a = #[(.ref oo), (.double (FP.l2d y0)), (.double (FP.l2d y1)), (.double (FP.l2d y2)), (.double (FP.l2d n0_)), (.double (FP.l2d n1_))] ∧ Z.Warmed39 U.vm ∧ U.heap = h0) (fun _ _ _ _ _ => True) (fun _ U o U' => ∃ v L, o = .returned v ∧ Q9 Z oo y0 y1 y2 n0_ n1_ ko h0 n0 v U'.heap L ∧ FrameEnd U o U' L ({ frames := 2, cells := 0, slots := 0, locals := 60 } : Room).cells ({ frames := 2, cells := 0, slots := 0, locals := 60 } : Room).slots) := by
  refine MetFree.of_bodySF (plainFor_of_name pn_com_example_firebreak_firebreak_strategies_CountFactorTakeReceivedPinLaw) hisR ?_
  intro p e s m args below meth c s₁ Bd hml0 hP hK
  obtain ⟨rfl, hZ, hh⟩ := hP
  have hx := Bd.exec
  have hby := Bd.bytes
  have hml : c.maxLocals = 11 := hml0
  have hown : s.vm.findClass "com/example/firebreak/firebreak/strategies/CountFactorTakeReceivedPinLaw" = some m.cls := findClass_of_methodNamed Bd.named
  have hnm := (name_of_methodNamed Bd.named Bd.method).1
  have X0 : Stand p l e ({ frames := 2, cells := 0, slots := 0, locals := 60 } : Room) s m #[(.ref oo), (.double (FP.l2d y0)), (.double (FP.l2d y1)), (.double (FP.l2d y2)), (.double (FP.l2d n0_)), (.double (FP.l2d n1_))] below meth c s₁ [] 0 0 := Stand.of_body Bd
  have e0 : s₁.heap = h0 := by rw [← hh, Bd.state]; rfl
  have N_ := Fr.nil n0
  show own_Goes p.tables e below s (Q9 Z oo y0 y1 y2 n0_ n1_ ko h0 n0) ({ frames := 2, cells := 0, slots := 0, locals := 60 } : Room).cells ({ frames := 2, cells := 0, slots := 0, locals := 60 } : Room).slots s₁ (entryFrame m #[(.ref oo), (.double (FP.l2d y0)), (.double (FP.l2d y1)), (.double (FP.l2d y2)), (.double (FP.l2d n0_)), (.double (FP.l2d n1_))] 11)
  refine own_by (T' := s₁) (g' := (mkF m 0 (Ls2 oo (FP.l2d y0) (FP.l2d y1) (FP.l2d y2) (FP.l2d n0_) (FP.l2d n1_)) [])) (fun t k => castTop (ef_9 m oo (FP.l2d y0) (FP.l2d y1) (FP.l2d y2) (FP.l2d n0_) (FP.l2d n1_)) k) ?_
  refine oAlN 1 X0 hx (hb hby d9_0) rfl rfl ?_
  refine oIc 2 X0 hx (hb hby d9_1) 0 rfl rfl ?_
  refine oDa 3 X0 hx hZ e0 V_oo (.double (FP.l2d (own_ref y0 y1 y2 n1_))) (hb hby d9_2) (by decide) rfl rfl ?_
  refine oDlN 4 X0 hx (hb hby d9_3) rfl rfl ?_
  refine oDlN 5 X0 hx (hb hby d9_4) rfl rfl ?_
  refine oDl 7 X0 hx (hb hby d9_5) rfl rfl ?_
  refine oDl 9 X0 hx (hb hby d9_7) rfl rfl ?_
  obtain ⟨_, _, ⟨T2, L2, k2, n2⟩, -, X2, ⟨Lc2, hQ2, l2, y2, z2⟩, st2⟩ := Jvm.LawKit.callS X0 hx (y := (⟨"com/example/firebreak/firebreak/strategies/CountFactorTakeReceivedPinLaw", "ref", "(DDDD)D"⟩ : MethodName)) hown (mvT hZ (hw _ (own_m 104 rfl))) (mvT hZ (hw _ (own_m 105 rfl))) (mvT hZ (hw _ (own_m 102 rfl))) (mvT hZ (hw _ (own_m 106 rfl))) (by decide) (backOf (W := 2) (rm10 l Z a0 hw [] y0 y1 y2 n1_ h0 n0 Zle (b0) (b1) (b2) (bn1)) hZ (hw _ (own_m 106 rfl)) (hw _ (own_m 102 rfl)) (by decide) (by decide)) (g := (mkF m 9 (Ls2 oo (FP.l2d y0) (FP.l2d y1) (FP.l2d y2) (FP.l2d n0_) (FP.l2d n1_)) [(.double (FP.l2d n1_)), (.double (FP.l2d y2)), (.double (FP.l2d y1)), (.double (FP.l2d y0)), (.double (FP.l2d (own_ref y0 y1 y2 n1_)))])) rfl (by rw [hml]; rfl) (argsL := [(.double (FP.l2d y0)), (.double (FP.l2d y1)), (.double (FP.l2d y2)), (.double (FP.l2d n1_))]) (rest := [(.double (FP.l2d (own_ref y0 y1 y2 n1_)))]) (lenOf pd_7 rfl) rfl (own_le rfl) (hb hby d9_9) (fun _ _ => ⟨rfl, e0, (by decide : 0 + 0 ≤ _), (by decide : 0 + 0 ≤ _)⟩)
  dsimp only [Pt.U, Pt.locs, Pt.cells, Pt.slots] at X2 l2 y2 z2 st2 hQ2
  subst l2 y2 z2
  obtain ⟨rfl, Nq2, e2⟩ := hQ2
  replace N_ := Fr.app N_ Nq2
  clear Nq2
  refine own_by (T' := T2) (g' := (mkF m 12 (Ls2 oo (FP.l2d y0) (FP.l2d y1) (FP.l2d y2) (FP.l2d n0_) (FP.l2d n1_)) [(.double (FP.l2d (own_ref y0 y1 y2 n1_))), (.double (FP.l2d (own_ref y0 y1 y2 n1_)))])) (fun t k => st2 _ k) ?_
  clear st2 X0 e0
  refine own_by (g' := (mkF m 13 (Ls2 oo (FP.l2d y0) (FP.l2d y1) (FP.l2d y2) (FP.l2d n0_) (FP.l2d n1_)) [(.int (lcmpW (own_ref y0 y1 y2 n1_) (own_ref y0 y1 y2 n1_)))])) (fun t k => XS.dcmpS X2.here hx rfl (hb hby d9_12) rfl (dcmpV_w (own_b53 (own_bref b0 b1 b2 bn1)) (own_b53 (own_bref b0 b1 b2 bn1)) _) k) ?_
  refine oFn 16 X2 hx (hb hby d9_13) ((if0 _ _).trans (teq ((lw_eq _ _).mpr (rfl : (own_ref y0 y1 y2 n1_) = (own_ref y0 y1 y2 n1_)))).2) rfl ?_
  refine oAlN 17 X2 hx (hb hby d9_16) rfl rfl ?_
  refine oIc 18 X2 hx (hb hby d9_17) 1 rfl rfl ?_
  refine oDa 19 X2 hx hZ e2 V_oo (.double (FP.l2d (own_ref y0 y1 y2 n0_))) (hb hby d9_18) (by decide) rfl rfl ?_
  refine oDlN 20 X2 hx (hb hby d9_19) rfl rfl ?_
  refine oDlN 21 X2 hx (hb hby d9_20) rfl rfl ?_
  refine oDl 23 X2 hx (hb hby d9_21) rfl rfl ?_
  refine oDl 25 X2 hx (hb hby d9_23) rfl rfl ?_
  obtain ⟨_, _, ⟨T4, L4, k4, n4⟩, -, X4, ⟨Lc4, hQ4, l4, y4, z4⟩, st4⟩ := Jvm.LawKit.callS X2 hx (y := (⟨"com/example/firebreak/firebreak/strategies/CountFactorTakeReceivedPinLaw", "ref", "(DDDD)D"⟩ : MethodName)) hown (mvT hZ (hw _ (own_m 104 rfl))) (mvT hZ (hw _ (own_m 105 rfl))) (mvT hZ (hw _ (own_m 102 rfl))) (mvT hZ (hw _ (own_m 106 rfl))) (by decide) (backOf (W := 2) (rm10 l Z a0 hw [] y0 y1 y2 n0_ h0 n0 Zle (b0) (b1) (b2) (bn0)) hZ (hw _ (own_m 106 rfl)) (hw _ (own_m 102 rfl)) (by decide) (by decide)) (g := (mkF m 25 (Ls2 oo (FP.l2d y0) (FP.l2d y1) (FP.l2d y2) (FP.l2d n0_) (FP.l2d n1_)) [(.double (FP.l2d n0_)), (.double (FP.l2d y2)), (.double (FP.l2d y1)), (.double (FP.l2d y0)), (.double (FP.l2d (own_ref y0 y1 y2 n0_)))])) rfl (by rw [hml]; rfl) (argsL := [(.double (FP.l2d y0)), (.double (FP.l2d y1)), (.double (FP.l2d y2)), (.double (FP.l2d n0_))]) (rest := [(.double (FP.l2d (own_ref y0 y1 y2 n0_)))]) (lenOf pd_7 rfl) rfl (own_le rfl) (hb hby d9_25) (fun _ _ => ⟨rfl, e2, (by decide : 0 + 0 ≤ _), (by decide : 0 + 0 ≤ _)⟩)
  dsimp only [Pt.U, Pt.locs, Pt.cells, Pt.slots] at X4 l4 y4 z4 st4 hQ4
  subst l4 y4 z4
  obtain ⟨rfl, Nq4, e4⟩ := hQ4
  replace N_ := Fr.app N_ Nq4
  clear Nq4
  refine own_by (T' := T4) (g' := (mkF m 28 (Ls2 oo (FP.l2d y0) (FP.l2d y1) (FP.l2d y2) (FP.l2d n0_) (FP.l2d n1_)) [(.double (FP.l2d (own_ref y0 y1 y2 n0_))), (.double (FP.l2d (own_ref y0 y1 y2 n0_)))])) (fun t k => st4 _ k) ?_
  clear st4 X2 e2
  refine own_by (g' := (mkF m 29 (Ls2 oo (FP.l2d y0) (FP.l2d y1) (FP.l2d y2) (FP.l2d n0_) (FP.l2d n1_)) [(.int (lcmpW (own_ref y0 y1 y2 n0_) (own_ref y0 y1 y2 n0_)))])) (fun t k => XS.dcmpS X4.here hx rfl (hb hby d9_28) rfl (dcmpV_w (own_b53 (own_bref b0 b1 b2 bn0)) (own_b53 (own_bref b0 b1 b2 bn0)) _) k) ?_
  refine oFn 32 X4 hx (hb hby d9_29) ((if0 _ _).trans (teq ((lw_eq _ _).mpr (rfl : (own_ref y0 y1 y2 n0_) = (own_ref y0 y1 y2 n0_)))).2) rfl ?_
  refine oIc 33 X4 hx (hb hby d9_32) 1 rfl rfl ?_
  refine oGo 37 X4 hx (hb hby d9_33) (by decide) (by decide) ?_
  exact own_retN X4 hx (t := .boolean) Bd.notSynchronized Bd.returns (by simp) (hb hby d9_37) (by decide) (by decide) (by rw [e4]; exact ⟨rfl, N_, rfl⟩)

def Q4 (Z : State) (ob : Addr) (h0 : Heap) (n0 : Nat) (v : Option Value) (h : Heap) (L : List Loc) : Prop := ∃ (xi xo xs xt xz : Addr) (ki ko ks kt kz : ClassId), v = none ∧ Fr n0 L ∧ Keep h0 h [ob] ∧ own_inc h0.size h.size [xi, xo, xs, xt, xz] ∧ Exa Z h ob "com/example/firebreak/firebreak/strategies/CountFactor$Messages" ∧ Fld Z h ob "com/example/firebreak/firebreak/strategies/CountFactor$Messages" "incoming" "[D" (.ref xi) ∧ Fld Z h ob "com/example/firebreak/firebreak/strategies/CountFactor$Messages" "order" "[I" (.ref xo) ∧ Fld Z h ob "com/example/firebreak/firebreak/strategies/CountFactor$Messages" "sorted" "[D" (.ref xs) ∧ Fld Z h ob "com/example/firebreak/firebreak/strategies/CountFactor$Messages" "tieOf" "[I" (.ref xt) ∧ Fld Z h ob "com/example/firebreak/firebreak/strategies/CountFactor$Messages" "tieSize" "[I" (.ref xz) ∧ Arv Z h xi ki .double (2 : Int32) [(.double (FP.l2d 0)), (.double (FP.l2d 0))] (.double (FP.l2d 0)) ∧ Arv Z h xo ko .int (2 : Int32) [(.int 0), (.int 1)] (.int 0) ∧ Arv Z h xs ks .double (2 : Int32) [(.double (FP.l2d 0)), (.double (FP.l2d 0))] (.double (FP.l2d 0)) ∧ Arv Z h xt kt .int (2 : Int32) [(.int 0), (.int 0)] (.int 0) ∧ Arv Z h xz kz .int (2 : Int32) [(.int 2), (.int 0)] (.int 0)
theorem pn_com_example_firebreak_firebreak_strategies_CountFactor_Messages : plainName "com/example/firebreak/firebreak/strategies/CountFactor$Messages" = true := by first | (simp [plainName, overriddenIn]; done) | decide +kernel
theorem ef_4 (m : MethodId) (ob : Addr) : entryFrame m #[(.ref ob), (.int 2)] 3 = mkF m 0 #[.val (.ref ob), .val (.int 2), .unset] [] := by first | (simp [entryFrame, mkF, argsToLocals, Value.category]; done) | rfl
theorem d4_0 : decode prog_43_method_1_code 0 = .ok (.aload_n 0, 1) := by decide +kernel
theorem d4_1 : decode prog_43_method_1_code 1 = .ok (.invokespecial 1, 3) := by decide +kernel
theorem d4_4 : decode prog_43_method_1_code 4 = .ok (.aload_n 0, 1) := by decide +kernel
theorem d4_5 : decode prog_43_method_1_code 5 = .ok (.iload_n 1, 1) := by decide +kernel
theorem d4_6 : decode prog_43_method_1_code 6 = .ok (.newarray .double, 2) := by decide +kernel
theorem d4_8 : decode prog_43_method_1_code 8 = .ok (.putfield 7, 3) := by decide +kernel
theorem d4_11 : decode prog_43_method_1_code 11 = .ok (.aload_n 0, 1) := by decide +kernel
theorem d4_12 : decode prog_43_method_1_code 12 = .ok (.iload_n 1, 1) := by decide +kernel
theorem d4_13 : decode prog_43_method_1_code 13 = .ok (.newarray .int, 2) := by decide +kernel
theorem d4_15 : decode prog_43_method_1_code 15 = .ok (.putfield 13, 3) := by decide +kernel
theorem d4_18 : decode prog_43_method_1_code 18 = .ok (.iconst 0, 1) := by decide +kernel
theorem d4_19 : decode prog_43_method_1_code 19 = .ok (.istore_n 2, 1) := by decide +kernel
theorem d4_20 : decode prog_43_method_1_code 20 = .ok (.iload_n 2, 1) := by decide +kernel
theorem d4_21 : decode prog_43_method_1_code 21 = .ok (.iload_n 1, 1) := by decide +kernel
theorem d4_22 : decode prog_43_method_1_code 22 = .ok (.if_icmp .ge 16, 3) := by decide +kernel
theorem d4_25 : decode prog_43_method_1_code 25 = .ok (.aload_n 0, 1) := by decide +kernel
theorem d4_26 : decode prog_43_method_1_code 26 = .ok (.getfield 13, 3) := by decide +kernel
theorem d4_29 : decode prog_43_method_1_code 29 = .ok (.iload_n 2, 1) := by decide +kernel
theorem d4_30 : decode prog_43_method_1_code 30 = .ok (.iload_n 2, 1) := by decide +kernel
theorem d4_31 : decode prog_43_method_1_code 31 = .ok (.iastore, 1) := by decide +kernel
theorem d4_32 : decode prog_43_method_1_code 32 = .ok (.iinc 2 1, 3) := by decide +kernel
theorem d4_35 : decode prog_43_method_1_code 35 = .ok (.goto (-15), 3) := by decide +kernel
theorem d4_38 : decode prog_43_method_1_code 38 = .ok (.aload_n 0, 1) := by decide +kernel
theorem d4_39 : decode prog_43_method_1_code 39 = .ok (.iload_n 1, 1) := by decide +kernel
theorem d4_40 : decode prog_43_method_1_code 40 = .ok (.newarray .double, 2) := by decide +kernel
theorem d4_42 : decode prog_43_method_1_code 42 = .ok (.putfield 17, 3) := by decide +kernel
theorem d4_45 : decode prog_43_method_1_code 45 = .ok (.aload_n 0, 1) := by decide +kernel
theorem d4_46 : decode prog_43_method_1_code 46 = .ok (.iload_n 1, 1) := by decide +kernel
theorem d4_47 : decode prog_43_method_1_code 47 = .ok (.newarray .int, 2) := by decide +kernel
theorem d4_49 : decode prog_43_method_1_code 49 = .ok (.putfield 20, 3) := by decide +kernel
theorem d4_52 : decode prog_43_method_1_code 52 = .ok (.aload_n 0, 1) := by decide +kernel
theorem d4_53 : decode prog_43_method_1_code 53 = .ok (.iload_n 1, 1) := by decide +kernel
theorem d4_54 : decode prog_43_method_1_code 54 = .ok (.newarray .int, 2) := by decide +kernel
theorem d4_56 : decode prog_43_method_1_code 56 = .ok (.putfield 23, 3) := by decide +kernel
theorem d4_59 : decode prog_43_method_1_code 59 = .ok (.iload_n 1, 1) := by decide +kernel
theorem d4_60 : decode prog_43_method_1_code 60 = .ok (.ifCond .le 10, 3) := by decide +kernel
theorem d4_63 : decode prog_43_method_1_code 63 = .ok (.aload_n 0, 1) := by decide +kernel
theorem d4_64 : decode prog_43_method_1_code 64 = .ok (.getfield 23, 3) := by decide +kernel
theorem d4_67 : decode prog_43_method_1_code 67 = .ok (.iconst 0, 1) := by decide +kernel
theorem d4_68 : decode prog_43_method_1_code 68 = .ok (.iload_n 1, 1) := by decide +kernel
theorem d4_69 : decode prog_43_method_1_code 69 = .ok (.iastore, 1) := by decide +kernel
theorem d4_70 : decode prog_43_method_1_code 70 = .ok (.return_, 1) := by decide +kernel
set_option maxRecDepth 65536 in
set_option maxHeartbeats 40000000 in
theorem rm4 (l : Launch) (Z : State) (a0 : Array Value) (hw : ∀ d ∈ tables_1, d.before a0 Z = true) (ws : List Jvm.Cond) (ob : Addr) (h0 : Heap) (n0 : Nat) (Zle : n0 ≤ h0.size) (E_ob : Exa Z h0 ob "com/example/firebreak/firebreak/strategies/CountFactor$Messages") (g_ob : n0 ≤ ob) (F_incoming_ob : Fld Z h0 ob "com/example/firebreak/firebreak/strategies/CountFactor$Messages" "incoming" "[D" .null) (F_order_ob : Fld Z h0 ob "com/example/firebreak/firebreak/strategies/CountFactor$Messages" "order" "[I" .null) (F_sorted_ob : Fld Z h0 ob "com/example/firebreak/firebreak/strategies/CountFactor$Messages" "sorted" "[D" .null) (F_tieOf_ob : Fld Z h0 ob "com/example/firebreak/firebreak/strategies/CountFactor$Messages" "tieOf" "[I" .null) (F_tieSize_ob : Fld Z h0 ob "com/example/firebreak/firebreak/strategies/CountFactor$Messages" "tieSize" "[I" .null) :
    MetFree l (⟨"com/example/firebreak/firebreak/strategies/CountFactor$Messages", "<init>", "(I)V"⟩ : MethodName) (head1 (Jvm.Cond.code (⟨"com/example/firebreak/firebreak/strategies/CountFactor$Messages", "<init>", "(I)V"⟩ : MethodName) prog_43_method_1_code 3 none :: ws) ({ frames := 1, cells := 5, slots := 10, locals := 12 } : Room)) (fun a U => a = #[(.ref ob), (.int 2)] ∧ Z.Warmed39 U.vm ∧ U.heap = h0) (fun _ _ _ _ _ => True) (fun _ U o U' => ∃ v L, o = .returned v ∧ Q4 Z ob h0 n0 v U'.heap L ∧ FrameEnd U o U' L ({ frames := 1, cells := 5, slots := 10, locals := 12 } : Room).cells ({ frames := 1, cells := 5, slots := 10, locals := 12 } : Room).slots) := by
  refine MetFree.of_bodySF (plainFor_of_name pn_com_example_firebreak_firebreak_strategies_CountFactor_Messages) hisR ?_
  intro p e s m args below meth c s₁ Bd hml0 hP hK
  obtain ⟨rfl, hZ, hh⟩ := hP
  have hx := Bd.exec
  have hby := Bd.bytes
  have hml : c.maxLocals = 3 := hml0
  have hown : s.vm.findClass "com/example/firebreak/firebreak/strategies/CountFactor$Messages" = some m.cls := findClass_of_methodNamed Bd.named
  have hnm := (name_of_methodNamed Bd.named Bd.method).1
  have X0 : Stand p l e ({ frames := 1, cells := 5, slots := 10, locals := 12 } : Room) s m #[(.ref ob), (.int 2)] below meth c s₁ [] 0 0 := Stand.of_body Bd
  have e0 : s₁.heap = h0 := by rw [← hh, Bd.state]; rfl
  have N_ := Fr.nil n0
  have K_ := Keep.refl h0 [ob]
  show own_Goes p.tables e below s (Q4 Z ob h0 n0) ({ frames := 1, cells := 5, slots := 10, locals := 12 } : Room).cells ({ frames := 1, cells := 5, slots := 10, locals := 12 } : Room).slots s₁ (entryFrame m #[(.ref ob), (.int 2)] 3)
  refine own_by (T' := s₁) (g' := (mkF m 0 (Ls3 ob 2) [])) (fun t k => castTop (ef_4 m ob) k) ?_
  have C_ : own_inc h0.size h0.size [] := Nat.le_refl _
  have lt0_ob := E_ob.lt
  refine oAlN 1 X0 hx (hb hby d4_0) rfl rfl ?_
  obtain ⟨T1, X1, e1, st1⟩ := initO X0 hx hZ hown (hw _ (own_m 26 rfl)) (hw _ (own_m 8 rfl)) (hw _ (own_m 9 rfl)) e0 (g := (mkF m 1 (Ls3 ob 2) [(.ref ob)])) rfl (by rw [hml]; rfl) rfl (hb hby d4_1) (by decide) (W := 0) (own_le rfl) (by decide)
  refine own_by (T' := T1) (g' := (mkF m 4 (Ls3 ob 2) [])) (fun t k => st1 t k) ?_
  clear st1 X0 e0
  refine oAlN 5 X1 hx (hb hby d4_4) rfl rfl ?_
  refine oIlN 6 X1 hx (hb hby d4_5) rfl rfl ?_
  obtain ⟨T2, h2, k2, X2, e2, E2, A2, st2⟩ := newP X1 hx hZ (hw _ (own_m 0 rfl)) e1 (g := (mkF m 6 (Ls3 ob 2) [(.int 2), (.ref ob)])) rfl (hb hby d4_6) rfl (by decide) (cap := 2) (by decide) (by decide) (by decide) (by decide)
  obtain ⟨b2, g2⟩ : ∃ z, z = h0.size := ⟨_, rfl⟩
  rw [← g2] at A2 st2
  have g_b2 : n0 ≤ b2 := Nat.le_trans Zle (Nat.le_of_eq g2.symm)
  have sz_b2 : h0.size ≤ b2 := Nat.le_trans K_.1 (Nat.le_of_eq g2.symm)
  replace C_ := own_incB C_ g2 A2.lt
  replace E_ob := E_ob.ext E2
  replace F_incoming_ob := F_incoming_ob.ext E2
  replace F_order_ob := F_order_ob.ext E2
  replace F_sorted_ob := F_sorted_ob.ext E2
  replace F_tieOf_ob := F_tieOf_ob.ext E2
  replace F_tieSize_ob := F_tieSize_ob.ext E2
  replace Zle := Nat.le_trans Zle E2.1
  replace K_ := K_.ext E2
  have V_b2 : Arv Z h2 b2 k2 .double (2 : Int32) [(.double (FP.l2d 0)), (.double (FP.l2d 0))] (.double (FP.l2d 0)) := (Arv.newD A2 (by decide)).pad (pad_rep [] (.double (FP.l2d 0)) 2)
  refine own_by (T' := T2) (g' := (mkF m 8 (Ls3 ob 2) [(.ref b2), (.ref ob)])) (fun t k => st2 t k) ?_
  clear st2 X1 e1
  obtain ⟨T3, h3, X3, e3, W3, st3⟩ := putF X2 hx hZ hown (host := "") (Or.inl (hw _ (own_m 27 rfl))) Via.refl e2 F_incoming_ob E_ob (Or.inr ⟨(hw _ (own_m 28 rfl)), rfl, hnm⟩) (hw _ (own_m 21 rfl)) (ty := (.array .double)) (by decide) rfl rfl (g := (mkF m 8 (Ls3 ob 2) [(.ref b2), (.ref ob)])) rfl rfl (hb hby d4_8)
  have F_incoming_ob_ := F_incoming_ob.same W3
  replace C_ := own_incM (Keep.of_wr W3).1 C_
  replace E_ob := E_ob.wr W3
  replace F_order_ob := F_order_ob.other W3 (Or.inr (slot_ne (Or.inr (hw _ (own_m 31 rfl))) (Or.inr (hw _ (own_m 28 rfl))) (by decide) (t := (.array .int)) (t' := (.array .double)) (by decide) (by decide)))
  replace F_sorted_ob := F_sorted_ob.other W3 (Or.inr (slot_ne (Or.inr (hw _ (own_m 33 rfl))) (Or.inr (hw _ (own_m 28 rfl))) (by decide) (t := (.array .double)) (t' := (.array .double)) (by decide) (by decide)))
  replace F_tieOf_ob := F_tieOf_ob.other W3 (Or.inr (slot_ne (Or.inr (hw _ (own_m 35 rfl))) (Or.inr (hw _ (own_m 28 rfl))) (by decide) (t := (.array .int)) (t' := (.array .double)) (by decide) (by decide)))
  replace F_tieSize_ob := F_tieSize_ob.other W3 (Or.inr (slot_ne (Or.inr (hw _ (own_m 37 rfl))) (Or.inr (hw _ (own_m 28 rfl))) (by decide) (t := (.array .int)) (t' := (.array .double)) (by decide) (by decide)))
  replace Zle := Nat.le_trans Zle (Keep.of_wr W3).1
  replace K_ := kW K_ W3 0 rfl
  replace V_b2 := V_b2.other W3 (own_incO C_ lt0_ob (List.mem_of_getElem? (i := 0) rfl)).symm
  replace F_incoming_ob := F_incoming_ob_
  clear F_incoming_ob_ W3
  replace N_ := Fr.snoc X3 N_ g_ob
  refine own_by (T' := T3) (g' := (mkF m 11 (Ls3 ob 2) [])) (fun t k => st3 t k) ?_
  clear st3 X2 e2
  refine oAlN 12 X3 hx (hb hby d4_11) rfl rfl ?_
  refine oIlN 13 X3 hx (hb hby d4_12) rfl rfl ?_
  obtain ⟨T4, h4, k4, X4, e4, E4, A4, st4⟩ := newP X3 hx hZ (hw _ (own_m 29 rfl)) e3 (g := (mkF m 13 (Ls3 ob 2) [(.int 2), (.ref ob)])) rfl (hb hby d4_13) rfl (by decide) (cap := 2) (by decide) (by decide) (by decide) (by decide)
  obtain ⟨b4, g4⟩ : ∃ z, z = h3.size := ⟨_, rfl⟩
  rw [← g4] at A4 st4
  have g_b4 : n0 ≤ b4 := Nat.le_trans Zle (Nat.le_of_eq g4.symm)
  have sz_b4 : h0.size ≤ b4 := Nat.le_trans K_.1 (Nat.le_of_eq g4.symm)
  replace C_ := own_incB C_ g4 A4.lt
  replace E_ob := E_ob.ext E4
  replace F_order_ob := F_order_ob.ext E4
  replace F_sorted_ob := F_sorted_ob.ext E4
  replace F_tieOf_ob := F_tieOf_ob.ext E4
  replace F_tieSize_ob := F_tieSize_ob.ext E4
  replace Zle := Nat.le_trans Zle E4.1
  replace K_ := K_.ext E4
  replace V_b2 := V_b2.ext E4
  replace F_incoming_ob := F_incoming_ob.ext E4
  have V_b4 : Arv Z h4 b4 k4 .int (2 : Int32) [(.int 0), (.int 0)] (.int 0) := (Arv.new A4 (by decide)).pad (pad_rep [] (.int 0) 2)
  refine own_by (T' := T4) (g' := (mkF m 15 (Ls3 ob 2) [(.ref b4), (.ref ob)])) (fun t k => st4 t k) ?_
  clear st4 X3 e3
  obtain ⟨T5, h5, X5, e5, W5, st5⟩ := putF X4 hx hZ hown (host := "") (Or.inl (hw _ (own_m 30 rfl))) Via.refl e4 F_order_ob E_ob (Or.inr ⟨(hw _ (own_m 31 rfl)), rfl, hnm⟩) (hw _ (own_m 21 rfl)) (ty := (.array .int)) (by decide) rfl rfl (g := (mkF m 15 (Ls3 ob 2) [(.ref b4), (.ref ob)])) rfl rfl (hb hby d4_15)
  have F_order_ob_ := F_order_ob.same W5
  replace C_ := own_incM (Keep.of_wr W5).1 C_
  replace E_ob := E_ob.wr W5
  replace F_sorted_ob := F_sorted_ob.other W5 (Or.inr (slot_ne (Or.inr (hw _ (own_m 33 rfl))) (Or.inr (hw _ (own_m 31 rfl))) (by decide) (t := (.array .double)) (t' := (.array .int)) (by decide) (by decide)))
  replace F_tieOf_ob := F_tieOf_ob.other W5 (Or.inr (slot_ne (Or.inr (hw _ (own_m 35 rfl))) (Or.inr (hw _ (own_m 31 rfl))) (by decide) (t := (.array .int)) (t' := (.array .int)) (by decide) (by decide)))
  replace F_tieSize_ob := F_tieSize_ob.other W5 (Or.inr (slot_ne (Or.inr (hw _ (own_m 37 rfl))) (Or.inr (hw _ (own_m 31 rfl))) (by decide) (t := (.array .int)) (t' := (.array .int)) (by decide) (by decide)))
  replace Zle := Nat.le_trans Zle (Keep.of_wr W5).1
  replace K_ := kW K_ W5 0 rfl
  replace V_b2 := V_b2.other W5 (own_incO C_ lt0_ob (List.mem_of_getElem? (i := 0) rfl)).symm
  replace F_incoming_ob := F_incoming_ob.other W5 (Or.inr (slot_ne (Or.inr (hw _ (own_m 28 rfl))) (Or.inr (hw _ (own_m 31 rfl))) (by decide) (t := (.array .double)) (t' := (.array .int)) (by decide) (by decide)))
  replace V_b4 := V_b4.other W5 (own_incO C_ lt0_ob (List.mem_of_getElem? (i := 1) rfl)).symm
  replace F_order_ob := F_order_ob_
  clear F_order_ob_ W5
  replace N_ := Fr.snoc X5 N_ g_ob
  refine own_by (T' := T5) (g' := (mkF m 18 (Ls3 ob 2) [])) (fun t k => st5 t k) ?_
  clear st5 X4 e4
  refine oIc 19 X5 hx (hb hby d4_18) 0 rfl rfl ?_
  refine oIstN 20 X5 hx (hb hby d4_19) (Ls4 ob 2 0) rfl rfl ?_
  refine oIlN 21 X5 hx (hb hby d4_20) rfl rfl ?_
  refine oIlN 22 X5 hx (hb hby d4_21) rfl rfl ?_
  refine oCn 25 X5 hx (hb hby d4_22) (tlt (by decide)).2.1 rfl ?_
  refine oAlN 26 X5 hx (hb hby d4_25) rfl rfl ?_
  refine oF 29 X5 hx hZ hown (host := "") (Or.inl (hw _ (own_m 30 rfl))) Via.refl e5 F_order_ob (hb hby d4_26) rfl fun T6 X6 e6 => ?_
  clear X5 e5
  refine oIlN 30 X6 hx (hb hby d4_29) rfl rfl ?_
  refine oIlN 31 X6 hx (hb hby d4_30) rfl rfl ?_
  refine oIs 32 X6 hx hZ e6 V_b4 0 [(.int 0), (.int 0)] (hb hby d4_31) (by decide) rfl (Nat.le_of_ble_eq_true rfl) rfl rfl fun T7 h7 X7 e7 W7 V_b4_ => ?_
  replace C_ := own_incM (Keep.of_wr W7).1 C_
  replace E_ob := E_ob.wr W7
  replace F_sorted_ob := F_sorted_ob.other W7 (Or.inl (own_incO C_ lt0_ob (List.mem_of_getElem? (i := 1) rfl)))
  replace F_tieOf_ob := F_tieOf_ob.other W7 (Or.inl (own_incO C_ lt0_ob (List.mem_of_getElem? (i := 1) rfl)))
  replace F_tieSize_ob := F_tieSize_ob.other W7 (Or.inl (own_incO C_ lt0_ob (List.mem_of_getElem? (i := 1) rfl)))
  replace Zle := Nat.le_trans Zle (Keep.of_wr W7).1
  replace K_ := K_.wr W7 (Or.inr sz_b4)
  replace V_b2 := V_b2.other W7 (nd (own_incN C_) 0 1)
  replace F_incoming_ob := F_incoming_ob.other W7 (Or.inl (own_incO C_ lt0_ob (List.mem_of_getElem? (i := 1) rfl)))
  replace F_order_ob := F_order_ob.other W7 (Or.inl (own_incO C_ lt0_ob (List.mem_of_getElem? (i := 1) rfl)))
  replace V_b4 := V_b4_
  clear V_b4_ W7
  replace N_ := Fr.snoc X7 N_ g_b4
  clear X6 e6
  refine oInc 35 X7 hx (hb hby d4_32) (Ls4 ob 2 1) rfl rfl rfl ?_
  refine oGo 20 X7 hx (hb hby d4_35) (by decide) (by decide) ?_
  refine oIlN 21 X7 hx (hb hby d4_20) rfl rfl ?_
  refine oIlN 22 X7 hx (hb hby d4_21) rfl rfl ?_
  refine oCn 25 X7 hx (hb hby d4_22) (tlt (by decide)).2.1 rfl ?_
  refine oAlN 26 X7 hx (hb hby d4_25) rfl rfl ?_
  refine oF 29 X7 hx hZ hown (host := "") (Or.inl (hw _ (own_m 30 rfl))) Via.refl e7 F_order_ob (hb hby d4_26) rfl fun T8 X8 e8 => ?_
  clear X7 e7
  refine oIlN 30 X8 hx (hb hby d4_29) rfl rfl ?_
  refine oIlN 31 X8 hx (hb hby d4_30) rfl rfl ?_
  refine oIs 32 X8 hx hZ e8 V_b4 1 [(.int 0), (.int 1)] (hb hby d4_31) (by decide) rfl (Nat.le_of_ble_eq_true rfl) rfl rfl fun T9 h9 X9 e9 W9 V_b4_ => ?_
  replace C_ := own_incM (Keep.of_wr W9).1 C_
  replace E_ob := E_ob.wr W9
  replace F_sorted_ob := F_sorted_ob.other W9 (Or.inl (own_incO C_ lt0_ob (List.mem_of_getElem? (i := 1) rfl)))
  replace F_tieOf_ob := F_tieOf_ob.other W9 (Or.inl (own_incO C_ lt0_ob (List.mem_of_getElem? (i := 1) rfl)))
  replace F_tieSize_ob := F_tieSize_ob.other W9 (Or.inl (own_incO C_ lt0_ob (List.mem_of_getElem? (i := 1) rfl)))
  replace Zle := Nat.le_trans Zle (Keep.of_wr W9).1
  replace K_ := K_.wr W9 (Or.inr sz_b4)
  replace V_b2 := V_b2.other W9 (nd (own_incN C_) 0 1)
  replace F_incoming_ob := F_incoming_ob.other W9 (Or.inl (own_incO C_ lt0_ob (List.mem_of_getElem? (i := 1) rfl)))
  replace F_order_ob := F_order_ob.other W9 (Or.inl (own_incO C_ lt0_ob (List.mem_of_getElem? (i := 1) rfl)))
  replace V_b4 := V_b4_
  clear V_b4_ W9
  replace N_ := Fr.snoc X9 N_ g_b4
  clear X8 e8
  refine oInc 35 X9 hx (hb hby d4_32) (Ls4 ob 2 2) rfl rfl rfl ?_
  refine oGo 20 X9 hx (hb hby d4_35) (by decide) (by decide) ?_
  refine oIlN 21 X9 hx (hb hby d4_20) rfl rfl ?_
  refine oIlN 22 X9 hx (hb hby d4_21) rfl rfl ?_
  refine oCy 38 X9 hx (hb hby d4_22) (flt (by decide)).2.1 (by decide) (by decide) ?_
  refine oAlN 39 X9 hx (hb hby d4_38) rfl rfl ?_
  refine oIlN 40 X9 hx (hb hby d4_39) rfl rfl ?_
  obtain ⟨T10, h10, k10, X10, e10, E10, A10, st10⟩ := newP X9 hx hZ (hw _ (own_m 0 rfl)) e9 (g := (mkF m 40 (Ls4 ob 2 2) [(.int 2), (.ref ob)])) rfl (hb hby d4_40) rfl (by decide) (cap := 2) (by decide) (by decide) (by decide) (by decide)
  obtain ⟨b10, g10⟩ : ∃ z, z = h9.size := ⟨_, rfl⟩
  rw [← g10] at A10 st10
  have g_b10 : n0 ≤ b10 := Nat.le_trans Zle (Nat.le_of_eq g10.symm)
  have sz_b10 : h0.size ≤ b10 := Nat.le_trans K_.1 (Nat.le_of_eq g10.symm)
  replace C_ := own_incB C_ g10 A10.lt
  replace E_ob := E_ob.ext E10
  replace F_sorted_ob := F_sorted_ob.ext E10
  replace F_tieOf_ob := F_tieOf_ob.ext E10
  replace F_tieSize_ob := F_tieSize_ob.ext E10
  replace Zle := Nat.le_trans Zle E10.1
  replace K_ := K_.ext E10
  replace V_b2 := V_b2.ext E10
  replace F_incoming_ob := F_incoming_ob.ext E10
  replace F_order_ob := F_order_ob.ext E10
  replace V_b4 := V_b4.ext E10
  have V_b10 : Arv Z h10 b10 k10 .double (2 : Int32) [(.double (FP.l2d 0)), (.double (FP.l2d 0))] (.double (FP.l2d 0)) := (Arv.newD A10 (by decide)).pad (pad_rep [] (.double (FP.l2d 0)) 2)
  refine own_by (T' := T10) (g' := (mkF m 42 (Ls4 ob 2 2) [(.ref b10), (.ref ob)])) (fun t k => st10 t k) ?_
  clear st10 X9 e9
  obtain ⟨T11, h11, X11, e11, W11, st11⟩ := putF X10 hx hZ hown (host := "") (Or.inl (hw _ (own_m 32 rfl))) Via.refl e10 F_sorted_ob E_ob (Or.inr ⟨(hw _ (own_m 33 rfl)), rfl, hnm⟩) (hw _ (own_m 21 rfl)) (ty := (.array .double)) (by decide) rfl rfl (g := (mkF m 42 (Ls4 ob 2 2) [(.ref b10), (.ref ob)])) rfl rfl (hb hby d4_42)
  have F_sorted_ob_ := F_sorted_ob.same W11
  replace C_ := own_incM (Keep.of_wr W11).1 C_
  replace E_ob := E_ob.wr W11
  replace F_tieOf_ob := F_tieOf_ob.other W11 (Or.inr (slot_ne (Or.inr (hw _ (own_m 35 rfl))) (Or.inr (hw _ (own_m 33 rfl))) (by decide) (t := (.array .int)) (t' := (.array .double)) (by decide) (by decide)))
  replace F_tieSize_ob := F_tieSize_ob.other W11 (Or.inr (slot_ne (Or.inr (hw _ (own_m 37 rfl))) (Or.inr (hw _ (own_m 33 rfl))) (by decide) (t := (.array .int)) (t' := (.array .double)) (by decide) (by decide)))
  replace Zle := Nat.le_trans Zle (Keep.of_wr W11).1
  replace K_ := kW K_ W11 0 rfl
  replace V_b2 := V_b2.other W11 (own_incO C_ lt0_ob (List.mem_of_getElem? (i := 0) rfl)).symm
  replace F_incoming_ob := F_incoming_ob.other W11 (Or.inr (slot_ne (Or.inr (hw _ (own_m 28 rfl))) (Or.inr (hw _ (own_m 33 rfl))) (by decide) (t := (.array .double)) (t' := (.array .double)) (by decide) (by decide)))
  replace F_order_ob := F_order_ob.other W11 (Or.inr (slot_ne (Or.inr (hw _ (own_m 31 rfl))) (Or.inr (hw _ (own_m 33 rfl))) (by decide) (t := (.array .int)) (t' := (.array .double)) (by decide) (by decide)))
  replace V_b4 := V_b4.other W11 (own_incO C_ lt0_ob (List.mem_of_getElem? (i := 1) rfl)).symm
  replace V_b10 := V_b10.other W11 (own_incO C_ lt0_ob (List.mem_of_getElem? (i := 2) rfl)).symm
  replace F_sorted_ob := F_sorted_ob_
  clear F_sorted_ob_ W11
  replace N_ := Fr.snoc X11 N_ g_ob
  refine own_by (T' := T11) (g' := (mkF m 45 (Ls4 ob 2 2) [])) (fun t k => st11 t k) ?_
  clear st11 X10 e10
  refine oAlN 46 X11 hx (hb hby d4_45) rfl rfl ?_
  refine oIlN 47 X11 hx (hb hby d4_46) rfl rfl ?_
  obtain ⟨T12, h12, k12, X12, e12, E12, A12, st12⟩ := newP X11 hx hZ (hw _ (own_m 29 rfl)) e11 (g := (mkF m 47 (Ls4 ob 2 2) [(.int 2), (.ref ob)])) rfl (hb hby d4_47) rfl (by decide) (cap := 2) (by decide) (by decide) (by decide) (by decide)
  obtain ⟨b12, g12⟩ : ∃ z, z = h11.size := ⟨_, rfl⟩
  rw [← g12] at A12 st12
  have g_b12 : n0 ≤ b12 := Nat.le_trans Zle (Nat.le_of_eq g12.symm)
  have sz_b12 : h0.size ≤ b12 := Nat.le_trans K_.1 (Nat.le_of_eq g12.symm)
  replace C_ := own_incB C_ g12 A12.lt
  replace E_ob := E_ob.ext E12
  replace F_tieOf_ob := F_tieOf_ob.ext E12
  replace F_tieSize_ob := F_tieSize_ob.ext E12
  replace Zle := Nat.le_trans Zle E12.1
  replace K_ := K_.ext E12
  replace V_b2 := V_b2.ext E12
  replace F_incoming_ob := F_incoming_ob.ext E12
  replace F_order_ob := F_order_ob.ext E12
  replace V_b4 := V_b4.ext E12
  replace V_b10 := V_b10.ext E12
  replace F_sorted_ob := F_sorted_ob.ext E12
  have V_b12 : Arv Z h12 b12 k12 .int (2 : Int32) [(.int 0), (.int 0)] (.int 0) := (Arv.new A12 (by decide)).pad (pad_rep [] (.int 0) 2)
  refine own_by (T' := T12) (g' := (mkF m 49 (Ls4 ob 2 2) [(.ref b12), (.ref ob)])) (fun t k => st12 t k) ?_
  clear st12 X11 e11
  obtain ⟨T13, h13, X13, e13, W13, st13⟩ := putF X12 hx hZ hown (host := "") (Or.inl (hw _ (own_m 34 rfl))) Via.refl e12 F_tieOf_ob E_ob (Or.inr ⟨(hw _ (own_m 35 rfl)), rfl, hnm⟩) (hw _ (own_m 21 rfl)) (ty := (.array .int)) (by decide) rfl rfl (g := (mkF m 49 (Ls4 ob 2 2) [(.ref b12), (.ref ob)])) rfl rfl (hb hby d4_49)
  have F_tieOf_ob_ := F_tieOf_ob.same W13
  replace C_ := own_incM (Keep.of_wr W13).1 C_
  replace E_ob := E_ob.wr W13
  replace F_tieSize_ob := F_tieSize_ob.other W13 (Or.inr (slot_ne (Or.inr (hw _ (own_m 37 rfl))) (Or.inr (hw _ (own_m 35 rfl))) (by decide) (t := (.array .int)) (t' := (.array .int)) (by decide) (by decide)))
  replace Zle := Nat.le_trans Zle (Keep.of_wr W13).1
  replace K_ := kW K_ W13 0 rfl
  replace V_b2 := V_b2.other W13 (own_incO C_ lt0_ob (List.mem_of_getElem? (i := 0) rfl)).symm
  replace F_incoming_ob := F_incoming_ob.other W13 (Or.inr (slot_ne (Or.inr (hw _ (own_m 28 rfl))) (Or.inr (hw _ (own_m 35 rfl))) (by decide) (t := (.array .double)) (t' := (.array .int)) (by decide) (by decide)))
  replace F_order_ob := F_order_ob.other W13 (Or.inr (slot_ne (Or.inr (hw _ (own_m 31 rfl))) (Or.inr (hw _ (own_m 35 rfl))) (by decide) (t := (.array .int)) (t' := (.array .int)) (by decide) (by decide)))
  replace V_b4 := V_b4.other W13 (own_incO C_ lt0_ob (List.mem_of_getElem? (i := 1) rfl)).symm
  replace V_b10 := V_b10.other W13 (own_incO C_ lt0_ob (List.mem_of_getElem? (i := 2) rfl)).symm
  replace F_sorted_ob := F_sorted_ob.other W13 (Or.inr (slot_ne (Or.inr (hw _ (own_m 33 rfl))) (Or.inr (hw _ (own_m 35 rfl))) (by decide) (t := (.array .double)) (t' := (.array .int)) (by decide) (by decide)))
  replace V_b12 := V_b12.other W13 (own_incO C_ lt0_ob (List.mem_of_getElem? (i := 3) rfl)).symm
  replace F_tieOf_ob := F_tieOf_ob_
  clear F_tieOf_ob_ W13
  replace N_ := Fr.snoc X13 N_ g_ob
  refine own_by (T' := T13) (g' := (mkF m 52 (Ls4 ob 2 2) [])) (fun t k => st13 t k) ?_
  clear st13 X12 e12
  refine oAlN 53 X13 hx (hb hby d4_52) rfl rfl ?_
  refine oIlN 54 X13 hx (hb hby d4_53) rfl rfl ?_
  obtain ⟨T14, h14, k14, X14, e14, E14, A14, st14⟩ := newP X13 hx hZ (hw _ (own_m 29 rfl)) e13 (g := (mkF m 54 (Ls4 ob 2 2) [(.int 2), (.ref ob)])) rfl (hb hby d4_54) rfl (by decide) (cap := 2) (by decide) (by decide) (by decide) (by decide)
  obtain ⟨b14, g14⟩ : ∃ z, z = h13.size := ⟨_, rfl⟩
  rw [← g14] at A14 st14
  have g_b14 : n0 ≤ b14 := Nat.le_trans Zle (Nat.le_of_eq g14.symm)
  have sz_b14 : h0.size ≤ b14 := Nat.le_trans K_.1 (Nat.le_of_eq g14.symm)
  replace C_ := own_incB C_ g14 A14.lt
  replace E_ob := E_ob.ext E14
  replace F_tieSize_ob := F_tieSize_ob.ext E14
  replace Zle := Nat.le_trans Zle E14.1
  replace K_ := K_.ext E14
  replace V_b2 := V_b2.ext E14
  replace F_incoming_ob := F_incoming_ob.ext E14
  replace F_order_ob := F_order_ob.ext E14
  replace V_b4 := V_b4.ext E14
  replace V_b10 := V_b10.ext E14
  replace F_sorted_ob := F_sorted_ob.ext E14
  replace V_b12 := V_b12.ext E14
  replace F_tieOf_ob := F_tieOf_ob.ext E14
  have V_b14 : Arv Z h14 b14 k14 .int (2 : Int32) [(.int 0), (.int 0)] (.int 0) := (Arv.new A14 (by decide)).pad (pad_rep [] (.int 0) 2)
  refine own_by (T' := T14) (g' := (mkF m 56 (Ls4 ob 2 2) [(.ref b14), (.ref ob)])) (fun t k => st14 t k) ?_
  clear st14 X13 e13
  obtain ⟨T15, h15, X15, e15, W15, st15⟩ := putF X14 hx hZ hown (host := "") (Or.inl (hw _ (own_m 36 rfl))) Via.refl e14 F_tieSize_ob E_ob (Or.inr ⟨(hw _ (own_m 37 rfl)), rfl, hnm⟩) (hw _ (own_m 21 rfl)) (ty := (.array .int)) (by decide) rfl rfl (g := (mkF m 56 (Ls4 ob 2 2) [(.ref b14), (.ref ob)])) rfl rfl (hb hby d4_56)
  have F_tieSize_ob_ := F_tieSize_ob.same W15
  replace C_ := own_incM (Keep.of_wr W15).1 C_
  replace E_ob := E_ob.wr W15
  replace Zle := Nat.le_trans Zle (Keep.of_wr W15).1
  replace K_ := kW K_ W15 0 rfl
  replace V_b2 := V_b2.other W15 (own_incO C_ lt0_ob (List.mem_of_getElem? (i := 0) rfl)).symm
  replace F_incoming_ob := F_incoming_ob.other W15 (Or.inr (slot_ne (Or.inr (hw _ (own_m 28 rfl))) (Or.inr (hw _ (own_m 37 rfl))) (by decide) (t := (.array .double)) (t' := (.array .int)) (by decide) (by decide)))
  replace F_order_ob := F_order_ob.other W15 (Or.inr (slot_ne (Or.inr (hw _ (own_m 31 rfl))) (Or.inr (hw _ (own_m 37 rfl))) (by decide) (t := (.array .int)) (t' := (.array .int)) (by decide) (by decide)))
  replace V_b4 := V_b4.other W15 (own_incO C_ lt0_ob (List.mem_of_getElem? (i := 1) rfl)).symm
  replace V_b10 := V_b10.other W15 (own_incO C_ lt0_ob (List.mem_of_getElem? (i := 2) rfl)).symm
  replace F_sorted_ob := F_sorted_ob.other W15 (Or.inr (slot_ne (Or.inr (hw _ (own_m 33 rfl))) (Or.inr (hw _ (own_m 37 rfl))) (by decide) (t := (.array .double)) (t' := (.array .int)) (by decide) (by decide)))
  replace V_b12 := V_b12.other W15 (own_incO C_ lt0_ob (List.mem_of_getElem? (i := 3) rfl)).symm
  replace F_tieOf_ob := F_tieOf_ob.other W15 (Or.inr (slot_ne (Or.inr (hw _ (own_m 35 rfl))) (Or.inr (hw _ (own_m 37 rfl))) (by decide) (t := (.array .int)) (t' := (.array .int)) (by decide) (by decide)))
  replace V_b14 := V_b14.other W15 (own_incO C_ lt0_ob (List.mem_of_getElem? (i := 4) rfl)).symm
  replace F_tieSize_ob := F_tieSize_ob_
  clear F_tieSize_ob_ W15
  replace N_ := Fr.snoc X15 N_ g_ob
  refine own_by (T' := T15) (g' := (mkF m 59 (Ls4 ob 2 2) [])) (fun t k => st15 t k) ?_
  clear st15 X14 e14
  refine oIlN 60 X15 hx (hb hby d4_59) rfl rfl ?_
  refine oFn 63 X15 hx (hb hby d4_60) ((if0 _ _).trans (tlt (by decide)).2.2.2) rfl ?_
  refine oAlN 64 X15 hx (hb hby d4_63) rfl rfl ?_
  refine oF 67 X15 hx hZ hown (host := "") (Or.inl (hw _ (own_m 36 rfl))) Via.refl e15 F_tieSize_ob (hb hby d4_64) rfl fun T16 X16 e16 => ?_
  clear X15 e15
  refine oIc 68 X16 hx (hb hby d4_67) 0 rfl rfl ?_
  refine oIlN 69 X16 hx (hb hby d4_68) rfl rfl ?_
  refine oIs 70 X16 hx hZ e16 V_b14 0 [(.int 2), (.int 0)] (hb hby d4_69) (by decide) rfl (Nat.le_of_ble_eq_true rfl) rfl rfl fun T17 h17 X17 e17 W17 V_b14_ => ?_
  replace C_ := own_incM (Keep.of_wr W17).1 C_
  replace E_ob := E_ob.wr W17
  replace Zle := Nat.le_trans Zle (Keep.of_wr W17).1
  replace K_ := K_.wr W17 (Or.inr sz_b14)
  replace V_b2 := V_b2.other W17 (nd (own_incN C_) 0 4)
  replace F_incoming_ob := F_incoming_ob.other W17 (Or.inl (own_incO C_ lt0_ob (List.mem_of_getElem? (i := 4) rfl)))
  replace F_order_ob := F_order_ob.other W17 (Or.inl (own_incO C_ lt0_ob (List.mem_of_getElem? (i := 4) rfl)))
  replace V_b4 := V_b4.other W17 (nd (own_incN C_) 1 4)
  replace V_b10 := V_b10.other W17 (nd (own_incN C_) 2 4)
  replace F_sorted_ob := F_sorted_ob.other W17 (Or.inl (own_incO C_ lt0_ob (List.mem_of_getElem? (i := 4) rfl)))
  replace V_b12 := V_b12.other W17 (nd (own_incN C_) 3 4)
  replace F_tieOf_ob := F_tieOf_ob.other W17 (Or.inl (own_incO C_ lt0_ob (List.mem_of_getElem? (i := 4) rfl)))
  replace F_tieSize_ob := F_tieSize_ob.other W17 (Or.inl (own_incO C_ lt0_ob (List.mem_of_getElem? (i := 4) rfl)))
  replace V_b14 := V_b14_
  clear V_b14_ W17
  replace N_ := Fr.snoc X17 N_ g_b14
  clear X16 e16
  exact own_retV X17 hx Bd.notSynchronized Bd.returns (hb hby d4_70) (by decide) (by decide) (by rw [e17]; exact ⟨b2, b4, b10, b12, b14, _, _, _, _, _, rfl, N_, K_, C_, E_ob, F_incoming_ob, F_order_ob, F_sorted_ob, F_tieOf_ob, F_tieSize_ob, V_b2, V_b4, V_b10, V_b12, V_b14⟩)

def Q5 (Z : State) (ob : Addr) (h0 : Heap) (n0 : Nat) (v : Option Value) (h : Heap) (L : List Loc) : Prop := ∃ (xsu xnu xfu xnf xff xmg xrs : Addr) (ksu knu kfu knf kff kmg krs : ClassId), v = none ∧ Fr n0 L ∧ Keep h0 h [ob] ∧ own_inc h0.size h.size [xsu, xnu, xfu, xnf, xff, xmg, xrs] ∧ Exa Z h ob "com/example/firebreak/firebreak/strategies/CountFactor$Scratch" ∧ Fld Z h ob "com/example/firebreak/firebreak/strategies/CountFactor$Scratch" "sums" "[D" (.ref xsu) ∧ Fld Z h ob "com/example/firebreak/firebreak/strategies/CountFactor$Scratch" "onUpTo" "[D" (.ref xnu) ∧ Fld Z h ob "com/example/firebreak/firebreak/strategies/CountFactor$Scratch" "offUpTo" "[D" (.ref xfu) ∧ Fld Z h ob "com/example/firebreak/firebreak/strategies/CountFactor$Scratch" "onFrom" "[D" (.ref xnf) ∧ Fld Z h ob "com/example/firebreak/firebreak/strategies/CountFactor$Scratch" "offFrom" "[D" (.ref xff) ∧ Fld Z h ob "com/example/firebreak/firebreak/strategies/CountFactor$Scratch" "merging" "[I" (.ref xmg) ∧ Fld Z h ob "com/example/firebreak/firebreak/strategies/CountFactor$Scratch" "runStarts" "[I" (.ref xrs) ∧ Arv Z h xsu ksu .double (3 : Int32) [(.double (FP.l2d 0)), (.double (FP.l2d 0)), (.double (FP.l2d 0))] (.double (FP.l2d 0)) ∧ Arv Z h xnu knu .double (3 : Int32) [(.double (FP.l2d 0)), (.double (FP.l2d 0)), (.double (FP.l2d 0))] (.double (FP.l2d 0)) ∧ Arv Z h xfu kfu .double (3 : Int32) [(.double (FP.l2d 0)), (.double (FP.l2d 0)), (.double (FP.l2d 0))] (.double (FP.l2d 0)) ∧ Arv Z h xnf knf .double (4 : Int32) [(.double (FP.l2d 0)), (.double (FP.l2d 0)), (.double (FP.l2d 0)), (.double (FP.l2d 0))] (.double (FP.l2d 0)) ∧ Arv Z h xff kff .double (4 : Int32) [(.double (FP.l2d 0)), (.double (FP.l2d 0)), (.double (FP.l2d 0)), (.double (FP.l2d 0))] (.double (FP.l2d 0)) ∧ Arv Z h xmg kmg .int (2 : Int32) [(.int 0), (.int 0)] (.int 0) ∧ Arv Z h xrs krs .int (3 : Int32) [(.int 0), (.int 0), (.int 0)] (.int 0)
theorem pn_com_example_firebreak_firebreak_strategies_CountFactor_Scratch : plainName "com/example/firebreak/firebreak/strategies/CountFactor$Scratch" = true := by first | (simp [plainName, overriddenIn]; done) | decide +kernel
theorem ef_5 (m : MethodId) (ob : Addr) : entryFrame m #[(.ref ob), (.int 2)] 2 = mkF m 0 #[.val (.ref ob), .val (.int 2)] [] := by first | (simp [entryFrame, mkF, argsToLocals, Value.category]; done) | rfl
theorem d5_0 : decode prog_44_method_1_code 0 = .ok (.aload_n 0, 1) := by decide +kernel
theorem d5_1 : decode prog_44_method_1_code 1 = .ok (.invokespecial 1, 3) := by decide +kernel
theorem d5_4 : decode prog_44_method_1_code 4 = .ok (.aload_n 0, 1) := by decide +kernel
theorem d5_5 : decode prog_44_method_1_code 5 = .ok (.iload_n 1, 1) := by decide +kernel
theorem d5_6 : decode prog_44_method_1_code 6 = .ok (.iconst 1, 1) := by decide +kernel
theorem d5_7 : decode prog_44_method_1_code 7 = .ok (.iadd, 1) := by decide +kernel
theorem d5_8 : decode prog_44_method_1_code 8 = .ok (.newarray .double, 2) := by decide +kernel
theorem d5_10 : decode prog_44_method_1_code 10 = .ok (.putfield 7, 3) := by decide +kernel
theorem d5_13 : decode prog_44_method_1_code 13 = .ok (.aload_n 0, 1) := by decide +kernel
theorem d5_14 : decode prog_44_method_1_code 14 = .ok (.iload_n 1, 1) := by decide +kernel
theorem d5_15 : decode prog_44_method_1_code 15 = .ok (.iconst 1, 1) := by decide +kernel
theorem d5_16 : decode prog_44_method_1_code 16 = .ok (.iadd, 1) := by decide +kernel
theorem d5_17 : decode prog_44_method_1_code 17 = .ok (.newarray .double, 2) := by decide +kernel
theorem d5_19 : decode prog_44_method_1_code 19 = .ok (.putfield 13, 3) := by decide +kernel
theorem d5_22 : decode prog_44_method_1_code 22 = .ok (.aload_n 0, 1) := by decide +kernel
theorem d5_23 : decode prog_44_method_1_code 23 = .ok (.iload_n 1, 1) := by decide +kernel
theorem d5_24 : decode prog_44_method_1_code 24 = .ok (.iconst 1, 1) := by decide +kernel
theorem d5_25 : decode prog_44_method_1_code 25 = .ok (.iadd, 1) := by decide +kernel
theorem d5_26 : decode prog_44_method_1_code 26 = .ok (.newarray .double, 2) := by decide +kernel
theorem d5_28 : decode prog_44_method_1_code 28 = .ok (.putfield 16, 3) := by decide +kernel
theorem d5_31 : decode prog_44_method_1_code 31 = .ok (.aload_n 0, 1) := by decide +kernel
theorem d5_32 : decode prog_44_method_1_code 32 = .ok (.iload_n 1, 1) := by decide +kernel
theorem d5_33 : decode prog_44_method_1_code 33 = .ok (.iconst 2, 1) := by decide +kernel
theorem d5_34 : decode prog_44_method_1_code 34 = .ok (.iadd, 1) := by decide +kernel
theorem d5_35 : decode prog_44_method_1_code 35 = .ok (.newarray .double, 2) := by decide +kernel
theorem d5_37 : decode prog_44_method_1_code 37 = .ok (.putfield 19, 3) := by decide +kernel
theorem d5_40 : decode prog_44_method_1_code 40 = .ok (.aload_n 0, 1) := by decide +kernel
theorem d5_41 : decode prog_44_method_1_code 41 = .ok (.iload_n 1, 1) := by decide +kernel
theorem d5_42 : decode prog_44_method_1_code 42 = .ok (.iconst 2, 1) := by decide +kernel
theorem d5_43 : decode prog_44_method_1_code 43 = .ok (.iadd, 1) := by decide +kernel
theorem d5_44 : decode prog_44_method_1_code 44 = .ok (.newarray .double, 2) := by decide +kernel
theorem d5_46 : decode prog_44_method_1_code 46 = .ok (.putfield 22, 3) := by decide +kernel
theorem d5_49 : decode prog_44_method_1_code 49 = .ok (.aload_n 0, 1) := by decide +kernel
theorem d5_50 : decode prog_44_method_1_code 50 = .ok (.iload_n 1, 1) := by decide +kernel
theorem d5_51 : decode prog_44_method_1_code 51 = .ok (.newarray .int, 2) := by decide +kernel
theorem d5_53 : decode prog_44_method_1_code 53 = .ok (.putfield 25, 3) := by decide +kernel
theorem d5_56 : decode prog_44_method_1_code 56 = .ok (.aload_n 0, 1) := by decide +kernel
theorem d5_57 : decode prog_44_method_1_code 57 = .ok (.iload_n 1, 1) := by decide +kernel
theorem d5_58 : decode prog_44_method_1_code 58 = .ok (.iconst 1, 1) := by decide +kernel
theorem d5_59 : decode prog_44_method_1_code 59 = .ok (.iadd, 1) := by decide +kernel
theorem d5_60 : decode prog_44_method_1_code 60 = .ok (.newarray .int, 2) := by decide +kernel
theorem d5_62 : decode prog_44_method_1_code 62 = .ok (.putfield 29, 3) := by decide +kernel
theorem d5_65 : decode prog_44_method_1_code 65 = .ok (.return_, 1) := by decide +kernel
set_option maxRecDepth 65536 in
set_option maxHeartbeats 40000000 in
theorem rm5 (l : Launch) (Z : State) (a0 : Array Value) (hw : ∀ d ∈ tables_1, d.before a0 Z = true) (ws : List Jvm.Cond) (ob : Addr) (h0 : Heap) (n0 : Nat) (Zle : n0 ≤ h0.size) (E_ob : Exa Z h0 ob "com/example/firebreak/firebreak/strategies/CountFactor$Scratch") (g_ob : n0 ≤ ob) (F_sums_ob : Fld Z h0 ob "com/example/firebreak/firebreak/strategies/CountFactor$Scratch" "sums" "[D" .null) (F_onUpTo_ob : Fld Z h0 ob "com/example/firebreak/firebreak/strategies/CountFactor$Scratch" "onUpTo" "[D" .null) (F_offUpTo_ob : Fld Z h0 ob "com/example/firebreak/firebreak/strategies/CountFactor$Scratch" "offUpTo" "[D" .null) (F_onFrom_ob : Fld Z h0 ob "com/example/firebreak/firebreak/strategies/CountFactor$Scratch" "onFrom" "[D" .null) (F_offFrom_ob : Fld Z h0 ob "com/example/firebreak/firebreak/strategies/CountFactor$Scratch" "offFrom" "[D" .null) (F_merging_ob : Fld Z h0 ob "com/example/firebreak/firebreak/strategies/CountFactor$Scratch" "merging" "[I" .null) (F_runStarts_ob : Fld Z h0 ob "com/example/firebreak/firebreak/strategies/CountFactor$Scratch" "runStarts" "[I" .null) :
    MetFree l (⟨"com/example/firebreak/firebreak/strategies/CountFactor$Scratch", "<init>", "(I)V"⟩ : MethodName) (head1 (Jvm.Cond.code (⟨"com/example/firebreak/firebreak/strategies/CountFactor$Scratch", "<init>", "(I)V"⟩ : MethodName) prog_44_method_1_code 2 none :: ws) ({ frames := 1, cells := 7, slots := 22, locals := 12 } : Room)) (fun a U => a = #[(.ref ob), (.int 2)] ∧ Z.Warmed39 U.vm ∧ U.heap = h0) (fun _ _ _ _ _ => True) (fun _ U o U' => ∃ v L, o = .returned v ∧ Q5 Z ob h0 n0 v U'.heap L ∧ FrameEnd U o U' L ({ frames := 1, cells := 7, slots := 22, locals := 12 } : Room).cells ({ frames := 1, cells := 7, slots := 22, locals := 12 } : Room).slots) := by
  refine MetFree.of_bodySF (plainFor_of_name pn_com_example_firebreak_firebreak_strategies_CountFactor_Scratch) hisR ?_
  intro p e s m args below meth c s₁ Bd hml0 hP hK
  obtain ⟨rfl, hZ, hh⟩ := hP
  have hx := Bd.exec
  have hby := Bd.bytes
  have hml : c.maxLocals = 2 := hml0
  have hown : s.vm.findClass "com/example/firebreak/firebreak/strategies/CountFactor$Scratch" = some m.cls := findClass_of_methodNamed Bd.named
  have hnm := (name_of_methodNamed Bd.named Bd.method).1
  have X0 : Stand p l e ({ frames := 1, cells := 7, slots := 22, locals := 12 } : Room) s m #[(.ref ob), (.int 2)] below meth c s₁ [] 0 0 := Stand.of_body Bd
  have e0 : s₁.heap = h0 := by rw [← hh, Bd.state]; rfl
  have N_ := Fr.nil n0
  have K_ := Keep.refl h0 [ob]
  show own_Goes p.tables e below s (Q5 Z ob h0 n0) ({ frames := 1, cells := 7, slots := 22, locals := 12 } : Room).cells ({ frames := 1, cells := 7, slots := 22, locals := 12 } : Room).slots s₁ (entryFrame m #[(.ref ob), (.int 2)] 2)
  refine own_by (T' := s₁) (g' := (mkF m 0 (Ls5 ob 2) [])) (fun t k => castTop (ef_5 m ob) k) ?_
  have C_ : own_inc h0.size h0.size [] := Nat.le_refl _
  have lt0_ob := E_ob.lt
  refine oAlN 1 X0 hx (hb hby d5_0) rfl rfl ?_
  obtain ⟨T1, X1, e1, st1⟩ := initO X0 hx hZ hown (hw _ (own_m 54 rfl)) (hw _ (own_m 8 rfl)) (hw _ (own_m 9 rfl)) e0 (g := (mkF m 1 (Ls5 ob 2) [(.ref ob)])) rfl (by rw [hml]; rfl) rfl (hb hby d5_1) (by decide) (W := 0) (own_le rfl) (by decide)
  refine own_by (T' := T1) (g' := (mkF m 4 (Ls5 ob 2) [])) (fun t k => st1 t k) ?_
  clear st1 X0 e0
  refine oAlN 5 X1 hx (hb hby d5_4) rfl rfl ?_
  refine oIlN 6 X1 hx (hb hby d5_5) rfl rfl ?_
  refine oIc 7 X1 hx (hb hby d5_6) 1 rfl rfl ?_
  refine oAdd 8 X1 hx (hb hby d5_7) 3 rfl rfl ?_
  obtain ⟨T2, h2, k2, X2, e2, E2, A2, st2⟩ := newP X1 hx hZ (hw _ (own_m 0 rfl)) e1 (g := (mkF m 8 (Ls5 ob 2) [(.int 3), (.ref ob)])) rfl (hb hby d5_8) rfl (by decide) (cap := 3) (by decide) (by decide) (by decide) (by decide)
  obtain ⟨b2, g2⟩ : ∃ z, z = h0.size := ⟨_, rfl⟩
  rw [← g2] at A2 st2
  have g_b2 : n0 ≤ b2 := Nat.le_trans Zle (Nat.le_of_eq g2.symm)
  have sz_b2 : h0.size ≤ b2 := Nat.le_trans K_.1 (Nat.le_of_eq g2.symm)
  replace C_ := own_incB C_ g2 A2.lt
  replace E_ob := E_ob.ext E2
  replace F_sums_ob := F_sums_ob.ext E2
  replace F_onUpTo_ob := F_onUpTo_ob.ext E2
  replace F_offUpTo_ob := F_offUpTo_ob.ext E2
  replace F_onFrom_ob := F_onFrom_ob.ext E2
  replace F_offFrom_ob := F_offFrom_ob.ext E2
  replace F_merging_ob := F_merging_ob.ext E2
  replace F_runStarts_ob := F_runStarts_ob.ext E2
  replace Zle := Nat.le_trans Zle E2.1
  replace K_ := K_.ext E2
  have V_b2 : Arv Z h2 b2 k2 .double (3 : Int32) [(.double (FP.l2d 0)), (.double (FP.l2d 0)), (.double (FP.l2d 0))] (.double (FP.l2d 0)) := (Arv.newD A2 (by decide)).pad (pad_rep [] (.double (FP.l2d 0)) 3)
  refine own_by (T' := T2) (g' := (mkF m 10 (Ls5 ob 2) [(.ref b2), (.ref ob)])) (fun t k => st2 t k) ?_
  clear st2 X1 e1
  obtain ⟨T3, h3, X3, e3, W3, st3⟩ := putF X2 hx hZ hown (host := "") (Or.inl (hw _ (own_m 55 rfl))) Via.refl e2 F_sums_ob E_ob (Or.inr ⟨(hw _ (own_m 56 rfl)), rfl, hnm⟩) (hw _ (own_m 49 rfl)) (ty := (.array .double)) (by decide) rfl rfl (g := (mkF m 10 (Ls5 ob 2) [(.ref b2), (.ref ob)])) rfl rfl (hb hby d5_10)
  have F_sums_ob_ := F_sums_ob.same W3
  replace C_ := own_incM (Keep.of_wr W3).1 C_
  replace E_ob := E_ob.wr W3
  replace F_onUpTo_ob := F_onUpTo_ob.other W3 (Or.inr (slot_ne (Or.inr (hw _ (own_m 58 rfl))) (Or.inr (hw _ (own_m 56 rfl))) (by decide) (t := (.array .double)) (t' := (.array .double)) (by decide) (by decide)))
  replace F_offUpTo_ob := F_offUpTo_ob.other W3 (Or.inr (slot_ne (Or.inr (hw _ (own_m 60 rfl))) (Or.inr (hw _ (own_m 56 rfl))) (by decide) (t := (.array .double)) (t' := (.array .double)) (by decide) (by decide)))
  replace F_onFrom_ob := F_onFrom_ob.other W3 (Or.inr (slot_ne (Or.inr (hw _ (own_m 62 rfl))) (Or.inr (hw _ (own_m 56 rfl))) (by decide) (t := (.array .double)) (t' := (.array .double)) (by decide) (by decide)))
  replace F_offFrom_ob := F_offFrom_ob.other W3 (Or.inr (slot_ne (Or.inr (hw _ (own_m 64 rfl))) (Or.inr (hw _ (own_m 56 rfl))) (by decide) (t := (.array .double)) (t' := (.array .double)) (by decide) (by decide)))
  replace F_merging_ob := F_merging_ob.other W3 (Or.inr (slot_ne (Or.inr (hw _ (own_m 66 rfl))) (Or.inr (hw _ (own_m 56 rfl))) (by decide) (t := (.array .int)) (t' := (.array .double)) (by decide) (by decide)))
  replace F_runStarts_ob := F_runStarts_ob.other W3 (Or.inr (slot_ne (Or.inr (hw _ (own_m 68 rfl))) (Or.inr (hw _ (own_m 56 rfl))) (by decide) (t := (.array .int)) (t' := (.array .double)) (by decide) (by decide)))
  replace Zle := Nat.le_trans Zle (Keep.of_wr W3).1
  replace K_ := kW K_ W3 0 rfl
  replace V_b2 := V_b2.other W3 (own_incO C_ lt0_ob (List.mem_of_getElem? (i := 0) rfl)).symm
  replace F_sums_ob := F_sums_ob_
  clear F_sums_ob_ W3
  replace N_ := Fr.snoc X3 N_ g_ob
  refine own_by (T' := T3) (g' := (mkF m 13 (Ls5 ob 2) [])) (fun t k => st3 t k) ?_
  clear st3 X2 e2
  refine oAlN 14 X3 hx (hb hby d5_13) rfl rfl ?_
  refine oIlN 15 X3 hx (hb hby d5_14) rfl rfl ?_
  refine oIc 16 X3 hx (hb hby d5_15) 1 rfl rfl ?_
  refine oAdd 17 X3 hx (hb hby d5_16) 3 rfl rfl ?_
  obtain ⟨T4, h4, k4, X4, e4, E4, A4, st4⟩ := newP X3 hx hZ (hw _ (own_m 0 rfl)) e3 (g := (mkF m 17 (Ls5 ob 2) [(.int 3), (.ref ob)])) rfl (hb hby d5_17) rfl (by decide) (cap := 3) (by decide) (by decide) (by decide) (by decide)
  obtain ⟨b4, g4⟩ : ∃ z, z = h3.size := ⟨_, rfl⟩
  rw [← g4] at A4 st4
  have g_b4 : n0 ≤ b4 := Nat.le_trans Zle (Nat.le_of_eq g4.symm)
  have sz_b4 : h0.size ≤ b4 := Nat.le_trans K_.1 (Nat.le_of_eq g4.symm)
  replace C_ := own_incB C_ g4 A4.lt
  replace E_ob := E_ob.ext E4
  replace F_onUpTo_ob := F_onUpTo_ob.ext E4
  replace F_offUpTo_ob := F_offUpTo_ob.ext E4
  replace F_onFrom_ob := F_onFrom_ob.ext E4
  replace F_offFrom_ob := F_offFrom_ob.ext E4
  replace F_merging_ob := F_merging_ob.ext E4
  replace F_runStarts_ob := F_runStarts_ob.ext E4
  replace Zle := Nat.le_trans Zle E4.1
  replace K_ := K_.ext E4
  replace V_b2 := V_b2.ext E4
  replace F_sums_ob := F_sums_ob.ext E4
  have V_b4 : Arv Z h4 b4 k4 .double (3 : Int32) [(.double (FP.l2d 0)), (.double (FP.l2d 0)), (.double (FP.l2d 0))] (.double (FP.l2d 0)) := (Arv.newD A4 (by decide)).pad (pad_rep [] (.double (FP.l2d 0)) 3)
  refine own_by (T' := T4) (g' := (mkF m 19 (Ls5 ob 2) [(.ref b4), (.ref ob)])) (fun t k => st4 t k) ?_
  clear st4 X3 e3
  obtain ⟨T5, h5, X5, e5, W5, st5⟩ := putF X4 hx hZ hown (host := "") (Or.inl (hw _ (own_m 57 rfl))) Via.refl e4 F_onUpTo_ob E_ob (Or.inr ⟨(hw _ (own_m 58 rfl)), rfl, hnm⟩) (hw _ (own_m 49 rfl)) (ty := (.array .double)) (by decide) rfl rfl (g := (mkF m 19 (Ls5 ob 2) [(.ref b4), (.ref ob)])) rfl rfl (hb hby d5_19)
  have F_onUpTo_ob_ := F_onUpTo_ob.same W5
  replace C_ := own_incM (Keep.of_wr W5).1 C_
  replace E_ob := E_ob.wr W5
  replace F_offUpTo_ob := F_offUpTo_ob.other W5 (Or.inr (slot_ne (Or.inr (hw _ (own_m 60 rfl))) (Or.inr (hw _ (own_m 58 rfl))) (by decide) (t := (.array .double)) (t' := (.array .double)) (by decide) (by decide)))
  replace F_onFrom_ob := F_onFrom_ob.other W5 (Or.inr (slot_ne (Or.inr (hw _ (own_m 62 rfl))) (Or.inr (hw _ (own_m 58 rfl))) (by decide) (t := (.array .double)) (t' := (.array .double)) (by decide) (by decide)))
  replace F_offFrom_ob := F_offFrom_ob.other W5 (Or.inr (slot_ne (Or.inr (hw _ (own_m 64 rfl))) (Or.inr (hw _ (own_m 58 rfl))) (by decide) (t := (.array .double)) (t' := (.array .double)) (by decide) (by decide)))
  replace F_merging_ob := F_merging_ob.other W5 (Or.inr (slot_ne (Or.inr (hw _ (own_m 66 rfl))) (Or.inr (hw _ (own_m 58 rfl))) (by decide) (t := (.array .int)) (t' := (.array .double)) (by decide) (by decide)))
  replace F_runStarts_ob := F_runStarts_ob.other W5 (Or.inr (slot_ne (Or.inr (hw _ (own_m 68 rfl))) (Or.inr (hw _ (own_m 58 rfl))) (by decide) (t := (.array .int)) (t' := (.array .double)) (by decide) (by decide)))
  replace Zle := Nat.le_trans Zle (Keep.of_wr W5).1
  replace K_ := kW K_ W5 0 rfl
  replace V_b2 := V_b2.other W5 (own_incO C_ lt0_ob (List.mem_of_getElem? (i := 0) rfl)).symm
  replace F_sums_ob := F_sums_ob.other W5 (Or.inr (slot_ne (Or.inr (hw _ (own_m 56 rfl))) (Or.inr (hw _ (own_m 58 rfl))) (by decide) (t := (.array .double)) (t' := (.array .double)) (by decide) (by decide)))
  replace V_b4 := V_b4.other W5 (own_incO C_ lt0_ob (List.mem_of_getElem? (i := 1) rfl)).symm
  replace F_onUpTo_ob := F_onUpTo_ob_
  clear F_onUpTo_ob_ W5
  replace N_ := Fr.snoc X5 N_ g_ob
  refine own_by (T' := T5) (g' := (mkF m 22 (Ls5 ob 2) [])) (fun t k => st5 t k) ?_
  clear st5 X4 e4
  refine oAlN 23 X5 hx (hb hby d5_22) rfl rfl ?_
  refine oIlN 24 X5 hx (hb hby d5_23) rfl rfl ?_
  refine oIc 25 X5 hx (hb hby d5_24) 1 rfl rfl ?_
  refine oAdd 26 X5 hx (hb hby d5_25) 3 rfl rfl ?_
  obtain ⟨T6, h6, k6, X6, e6, E6, A6, st6⟩ := newP X5 hx hZ (hw _ (own_m 0 rfl)) e5 (g := (mkF m 26 (Ls5 ob 2) [(.int 3), (.ref ob)])) rfl (hb hby d5_26) rfl (by decide) (cap := 3) (by decide) (by decide) (by decide) (by decide)
  obtain ⟨b6, g6⟩ : ∃ z, z = h5.size := ⟨_, rfl⟩
  rw [← g6] at A6 st6
  have g_b6 : n0 ≤ b6 := Nat.le_trans Zle (Nat.le_of_eq g6.symm)
  have sz_b6 : h0.size ≤ b6 := Nat.le_trans K_.1 (Nat.le_of_eq g6.symm)
  replace C_ := own_incB C_ g6 A6.lt
  replace E_ob := E_ob.ext E6
  replace F_offUpTo_ob := F_offUpTo_ob.ext E6
  replace F_onFrom_ob := F_onFrom_ob.ext E6
  replace F_offFrom_ob := F_offFrom_ob.ext E6
  replace F_merging_ob := F_merging_ob.ext E6
  replace F_runStarts_ob := F_runStarts_ob.ext E6
  replace Zle := Nat.le_trans Zle E6.1
  replace K_ := K_.ext E6
  replace V_b2 := V_b2.ext E6
  replace F_sums_ob := F_sums_ob.ext E6
  replace V_b4 := V_b4.ext E6
  replace F_onUpTo_ob := F_onUpTo_ob.ext E6
  have V_b6 : Arv Z h6 b6 k6 .double (3 : Int32) [(.double (FP.l2d 0)), (.double (FP.l2d 0)), (.double (FP.l2d 0))] (.double (FP.l2d 0)) := (Arv.newD A6 (by decide)).pad (pad_rep [] (.double (FP.l2d 0)) 3)
  refine own_by (T' := T6) (g' := (mkF m 28 (Ls5 ob 2) [(.ref b6), (.ref ob)])) (fun t k => st6 t k) ?_
  clear st6 X5 e5
  obtain ⟨T7, h7, X7, e7, W7, st7⟩ := putF X6 hx hZ hown (host := "") (Or.inl (hw _ (own_m 59 rfl))) Via.refl e6 F_offUpTo_ob E_ob (Or.inr ⟨(hw _ (own_m 60 rfl)), rfl, hnm⟩) (hw _ (own_m 49 rfl)) (ty := (.array .double)) (by decide) rfl rfl (g := (mkF m 28 (Ls5 ob 2) [(.ref b6), (.ref ob)])) rfl rfl (hb hby d5_28)
  have F_offUpTo_ob_ := F_offUpTo_ob.same W7
  replace C_ := own_incM (Keep.of_wr W7).1 C_
  replace E_ob := E_ob.wr W7
  replace F_onFrom_ob := F_onFrom_ob.other W7 (Or.inr (slot_ne (Or.inr (hw _ (own_m 62 rfl))) (Or.inr (hw _ (own_m 60 rfl))) (by decide) (t := (.array .double)) (t' := (.array .double)) (by decide) (by decide)))
  replace F_offFrom_ob := F_offFrom_ob.other W7 (Or.inr (slot_ne (Or.inr (hw _ (own_m 64 rfl))) (Or.inr (hw _ (own_m 60 rfl))) (by decide) (t := (.array .double)) (t' := (.array .double)) (by decide) (by decide)))
  replace F_merging_ob := F_merging_ob.other W7 (Or.inr (slot_ne (Or.inr (hw _ (own_m 66 rfl))) (Or.inr (hw _ (own_m 60 rfl))) (by decide) (t := (.array .int)) (t' := (.array .double)) (by decide) (by decide)))
  replace F_runStarts_ob := F_runStarts_ob.other W7 (Or.inr (slot_ne (Or.inr (hw _ (own_m 68 rfl))) (Or.inr (hw _ (own_m 60 rfl))) (by decide) (t := (.array .int)) (t' := (.array .double)) (by decide) (by decide)))
  replace Zle := Nat.le_trans Zle (Keep.of_wr W7).1
  replace K_ := kW K_ W7 0 rfl
  replace V_b2 := V_b2.other W7 (own_incO C_ lt0_ob (List.mem_of_getElem? (i := 0) rfl)).symm
  replace F_sums_ob := F_sums_ob.other W7 (Or.inr (slot_ne (Or.inr (hw _ (own_m 56 rfl))) (Or.inr (hw _ (own_m 60 rfl))) (by decide) (t := (.array .double)) (t' := (.array .double)) (by decide) (by decide)))
  replace V_b4 := V_b4.other W7 (own_incO C_ lt0_ob (List.mem_of_getElem? (i := 1) rfl)).symm
  replace F_onUpTo_ob := F_onUpTo_ob.other W7 (Or.inr (slot_ne (Or.inr (hw _ (own_m 58 rfl))) (Or.inr (hw _ (own_m 60 rfl))) (by decide) (t := (.array .double)) (t' := (.array .double)) (by decide) (by decide)))
  replace V_b6 := V_b6.other W7 (own_incO C_ lt0_ob (List.mem_of_getElem? (i := 2) rfl)).symm
  replace F_offUpTo_ob := F_offUpTo_ob_
  clear F_offUpTo_ob_ W7
  replace N_ := Fr.snoc X7 N_ g_ob
  refine own_by (T' := T7) (g' := (mkF m 31 (Ls5 ob 2) [])) (fun t k => st7 t k) ?_
  clear st7 X6 e6
  refine oAlN 32 X7 hx (hb hby d5_31) rfl rfl ?_
  refine oIlN 33 X7 hx (hb hby d5_32) rfl rfl ?_
  refine oIc 34 X7 hx (hb hby d5_33) 2 rfl rfl ?_
  refine oAdd 35 X7 hx (hb hby d5_34) 4 rfl rfl ?_
  obtain ⟨T8, h8, k8, X8, e8, E8, A8, st8⟩ := newP X7 hx hZ (hw _ (own_m 0 rfl)) e7 (g := (mkF m 35 (Ls5 ob 2) [(.int 4), (.ref ob)])) rfl (hb hby d5_35) rfl (by decide) (cap := 4) (by decide) (by decide) (by decide) (by decide)
  obtain ⟨b8, g8⟩ : ∃ z, z = h7.size := ⟨_, rfl⟩
  rw [← g8] at A8 st8
  have g_b8 : n0 ≤ b8 := Nat.le_trans Zle (Nat.le_of_eq g8.symm)
  have sz_b8 : h0.size ≤ b8 := Nat.le_trans K_.1 (Nat.le_of_eq g8.symm)
  replace C_ := own_incB C_ g8 A8.lt
  replace E_ob := E_ob.ext E8
  replace F_onFrom_ob := F_onFrom_ob.ext E8
  replace F_offFrom_ob := F_offFrom_ob.ext E8
  replace F_merging_ob := F_merging_ob.ext E8
  replace F_runStarts_ob := F_runStarts_ob.ext E8
  replace Zle := Nat.le_trans Zle E8.1
  replace K_ := K_.ext E8
  replace V_b2 := V_b2.ext E8
  replace F_sums_ob := F_sums_ob.ext E8
  replace V_b4 := V_b4.ext E8
  replace F_onUpTo_ob := F_onUpTo_ob.ext E8
  replace V_b6 := V_b6.ext E8
  replace F_offUpTo_ob := F_offUpTo_ob.ext E8
  have V_b8 : Arv Z h8 b8 k8 .double (4 : Int32) [(.double (FP.l2d 0)), (.double (FP.l2d 0)), (.double (FP.l2d 0)), (.double (FP.l2d 0))] (.double (FP.l2d 0)) := (Arv.newD A8 (by decide)).pad (pad_rep [] (.double (FP.l2d 0)) 4)
  refine own_by (T' := T8) (g' := (mkF m 37 (Ls5 ob 2) [(.ref b8), (.ref ob)])) (fun t k => st8 t k) ?_
  clear st8 X7 e7
  obtain ⟨T9, h9, X9, e9, W9, st9⟩ := putF X8 hx hZ hown (host := "") (Or.inl (hw _ (own_m 61 rfl))) Via.refl e8 F_onFrom_ob E_ob (Or.inr ⟨(hw _ (own_m 62 rfl)), rfl, hnm⟩) (hw _ (own_m 49 rfl)) (ty := (.array .double)) (by decide) rfl rfl (g := (mkF m 37 (Ls5 ob 2) [(.ref b8), (.ref ob)])) rfl rfl (hb hby d5_37)
  have F_onFrom_ob_ := F_onFrom_ob.same W9
  replace C_ := own_incM (Keep.of_wr W9).1 C_
  replace E_ob := E_ob.wr W9
  replace F_offFrom_ob := F_offFrom_ob.other W9 (Or.inr (slot_ne (Or.inr (hw _ (own_m 64 rfl))) (Or.inr (hw _ (own_m 62 rfl))) (by decide) (t := (.array .double)) (t' := (.array .double)) (by decide) (by decide)))
  replace F_merging_ob := F_merging_ob.other W9 (Or.inr (slot_ne (Or.inr (hw _ (own_m 66 rfl))) (Or.inr (hw _ (own_m 62 rfl))) (by decide) (t := (.array .int)) (t' := (.array .double)) (by decide) (by decide)))
  replace F_runStarts_ob := F_runStarts_ob.other W9 (Or.inr (slot_ne (Or.inr (hw _ (own_m 68 rfl))) (Or.inr (hw _ (own_m 62 rfl))) (by decide) (t := (.array .int)) (t' := (.array .double)) (by decide) (by decide)))
  replace Zle := Nat.le_trans Zle (Keep.of_wr W9).1
  replace K_ := kW K_ W9 0 rfl
  replace V_b2 := V_b2.other W9 (own_incO C_ lt0_ob (List.mem_of_getElem? (i := 0) rfl)).symm
  replace F_sums_ob := F_sums_ob.other W9 (Or.inr (slot_ne (Or.inr (hw _ (own_m 56 rfl))) (Or.inr (hw _ (own_m 62 rfl))) (by decide) (t := (.array .double)) (t' := (.array .double)) (by decide) (by decide)))
  replace V_b4 := V_b4.other W9 (own_incO C_ lt0_ob (List.mem_of_getElem? (i := 1) rfl)).symm
  replace F_onUpTo_ob := F_onUpTo_ob.other W9 (Or.inr (slot_ne (Or.inr (hw _ (own_m 58 rfl))) (Or.inr (hw _ (own_m 62 rfl))) (by decide) (t := (.array .double)) (t' := (.array .double)) (by decide) (by decide)))
  replace V_b6 := V_b6.other W9 (own_incO C_ lt0_ob (List.mem_of_getElem? (i := 2) rfl)).symm
  replace F_offUpTo_ob := F_offUpTo_ob.other W9 (Or.inr (slot_ne (Or.inr (hw _ (own_m 60 rfl))) (Or.inr (hw _ (own_m 62 rfl))) (by decide) (t := (.array .double)) (t' := (.array .double)) (by decide) (by decide)))
  replace V_b8 := V_b8.other W9 (own_incO C_ lt0_ob (List.mem_of_getElem? (i := 3) rfl)).symm
  replace F_onFrom_ob := F_onFrom_ob_
  clear F_onFrom_ob_ W9
  replace N_ := Fr.snoc X9 N_ g_ob
  refine own_by (T' := T9) (g' := (mkF m 40 (Ls5 ob 2) [])) (fun t k => st9 t k) ?_
  clear st9 X8 e8
  refine oAlN 41 X9 hx (hb hby d5_40) rfl rfl ?_
  refine oIlN 42 X9 hx (hb hby d5_41) rfl rfl ?_
  refine oIc 43 X9 hx (hb hby d5_42) 2 rfl rfl ?_
  refine oAdd 44 X9 hx (hb hby d5_43) 4 rfl rfl ?_
  obtain ⟨T10, h10, k10, X10, e10, E10, A10, st10⟩ := newP X9 hx hZ (hw _ (own_m 0 rfl)) e9 (g := (mkF m 44 (Ls5 ob 2) [(.int 4), (.ref ob)])) rfl (hb hby d5_44) rfl (by decide) (cap := 4) (by decide) (by decide) (by decide) (by decide)
  obtain ⟨b10, g10⟩ : ∃ z, z = h9.size := ⟨_, rfl⟩
  rw [← g10] at A10 st10
  have g_b10 : n0 ≤ b10 := Nat.le_trans Zle (Nat.le_of_eq g10.symm)
  have sz_b10 : h0.size ≤ b10 := Nat.le_trans K_.1 (Nat.le_of_eq g10.symm)
  replace C_ := own_incB C_ g10 A10.lt
  replace E_ob := E_ob.ext E10
  replace F_offFrom_ob := F_offFrom_ob.ext E10
  replace F_merging_ob := F_merging_ob.ext E10
  replace F_runStarts_ob := F_runStarts_ob.ext E10
  replace Zle := Nat.le_trans Zle E10.1
  replace K_ := K_.ext E10
  replace V_b2 := V_b2.ext E10
  replace F_sums_ob := F_sums_ob.ext E10
  replace V_b4 := V_b4.ext E10
  replace F_onUpTo_ob := F_onUpTo_ob.ext E10
  replace V_b6 := V_b6.ext E10
  replace F_offUpTo_ob := F_offUpTo_ob.ext E10
  replace V_b8 := V_b8.ext E10
  replace F_onFrom_ob := F_onFrom_ob.ext E10
  have V_b10 : Arv Z h10 b10 k10 .double (4 : Int32) [(.double (FP.l2d 0)), (.double (FP.l2d 0)), (.double (FP.l2d 0)), (.double (FP.l2d 0))] (.double (FP.l2d 0)) := (Arv.newD A10 (by decide)).pad (pad_rep [] (.double (FP.l2d 0)) 4)
  refine own_by (T' := T10) (g' := (mkF m 46 (Ls5 ob 2) [(.ref b10), (.ref ob)])) (fun t k => st10 t k) ?_
  clear st10 X9 e9
  obtain ⟨T11, h11, X11, e11, W11, st11⟩ := putF X10 hx hZ hown (host := "") (Or.inl (hw _ (own_m 63 rfl))) Via.refl e10 F_offFrom_ob E_ob (Or.inr ⟨(hw _ (own_m 64 rfl)), rfl, hnm⟩) (hw _ (own_m 49 rfl)) (ty := (.array .double)) (by decide) rfl rfl (g := (mkF m 46 (Ls5 ob 2) [(.ref b10), (.ref ob)])) rfl rfl (hb hby d5_46)
  have F_offFrom_ob_ := F_offFrom_ob.same W11
  replace C_ := own_incM (Keep.of_wr W11).1 C_
  replace E_ob := E_ob.wr W11
  replace F_merging_ob := F_merging_ob.other W11 (Or.inr (slot_ne (Or.inr (hw _ (own_m 66 rfl))) (Or.inr (hw _ (own_m 64 rfl))) (by decide) (t := (.array .int)) (t' := (.array .double)) (by decide) (by decide)))
  replace F_runStarts_ob := F_runStarts_ob.other W11 (Or.inr (slot_ne (Or.inr (hw _ (own_m 68 rfl))) (Or.inr (hw _ (own_m 64 rfl))) (by decide) (t := (.array .int)) (t' := (.array .double)) (by decide) (by decide)))
  replace Zle := Nat.le_trans Zle (Keep.of_wr W11).1
  replace K_ := kW K_ W11 0 rfl
  replace V_b2 := V_b2.other W11 (own_incO C_ lt0_ob (List.mem_of_getElem? (i := 0) rfl)).symm
  replace F_sums_ob := F_sums_ob.other W11 (Or.inr (slot_ne (Or.inr (hw _ (own_m 56 rfl))) (Or.inr (hw _ (own_m 64 rfl))) (by decide) (t := (.array .double)) (t' := (.array .double)) (by decide) (by decide)))
  replace V_b4 := V_b4.other W11 (own_incO C_ lt0_ob (List.mem_of_getElem? (i := 1) rfl)).symm
  replace F_onUpTo_ob := F_onUpTo_ob.other W11 (Or.inr (slot_ne (Or.inr (hw _ (own_m 58 rfl))) (Or.inr (hw _ (own_m 64 rfl))) (by decide) (t := (.array .double)) (t' := (.array .double)) (by decide) (by decide)))
  replace V_b6 := V_b6.other W11 (own_incO C_ lt0_ob (List.mem_of_getElem? (i := 2) rfl)).symm
  replace F_offUpTo_ob := F_offUpTo_ob.other W11 (Or.inr (slot_ne (Or.inr (hw _ (own_m 60 rfl))) (Or.inr (hw _ (own_m 64 rfl))) (by decide) (t := (.array .double)) (t' := (.array .double)) (by decide) (by decide)))
  replace V_b8 := V_b8.other W11 (own_incO C_ lt0_ob (List.mem_of_getElem? (i := 3) rfl)).symm
  replace F_onFrom_ob := F_onFrom_ob.other W11 (Or.inr (slot_ne (Or.inr (hw _ (own_m 62 rfl))) (Or.inr (hw _ (own_m 64 rfl))) (by decide) (t := (.array .double)) (t' := (.array .double)) (by decide) (by decide)))
  replace V_b10 := V_b10.other W11 (own_incO C_ lt0_ob (List.mem_of_getElem? (i := 4) rfl)).symm
  replace F_offFrom_ob := F_offFrom_ob_
  clear F_offFrom_ob_ W11
  replace N_ := Fr.snoc X11 N_ g_ob
  refine own_by (T' := T11) (g' := (mkF m 49 (Ls5 ob 2) [])) (fun t k => st11 t k) ?_
  clear st11 X10 e10
  refine oAlN 50 X11 hx (hb hby d5_49) rfl rfl ?_
  refine oIlN 51 X11 hx (hb hby d5_50) rfl rfl ?_
  obtain ⟨T12, h12, k12, X12, e12, E12, A12, st12⟩ := newP X11 hx hZ (hw _ (own_m 29 rfl)) e11 (g := (mkF m 51 (Ls5 ob 2) [(.int 2), (.ref ob)])) rfl (hb hby d5_51) rfl (by decide) (cap := 2) (by decide) (by decide) (by decide) (by decide)
  obtain ⟨b12, g12⟩ : ∃ z, z = h11.size := ⟨_, rfl⟩
  rw [← g12] at A12 st12
  have g_b12 : n0 ≤ b12 := Nat.le_trans Zle (Nat.le_of_eq g12.symm)
  have sz_b12 : h0.size ≤ b12 := Nat.le_trans K_.1 (Nat.le_of_eq g12.symm)
  replace C_ := own_incB C_ g12 A12.lt
  replace E_ob := E_ob.ext E12
  replace F_merging_ob := F_merging_ob.ext E12
  replace F_runStarts_ob := F_runStarts_ob.ext E12
  replace Zle := Nat.le_trans Zle E12.1
  replace K_ := K_.ext E12
  replace V_b2 := V_b2.ext E12
  replace F_sums_ob := F_sums_ob.ext E12
  replace V_b4 := V_b4.ext E12
  replace F_onUpTo_ob := F_onUpTo_ob.ext E12
  replace V_b6 := V_b6.ext E12
  replace F_offUpTo_ob := F_offUpTo_ob.ext E12
  replace V_b8 := V_b8.ext E12
  replace F_onFrom_ob := F_onFrom_ob.ext E12
  replace V_b10 := V_b10.ext E12
  replace F_offFrom_ob := F_offFrom_ob.ext E12
  have V_b12 : Arv Z h12 b12 k12 .int (2 : Int32) [(.int 0), (.int 0)] (.int 0) := (Arv.new A12 (by decide)).pad (pad_rep [] (.int 0) 2)
  refine own_by (T' := T12) (g' := (mkF m 53 (Ls5 ob 2) [(.ref b12), (.ref ob)])) (fun t k => st12 t k) ?_
  clear st12 X11 e11
  obtain ⟨T13, h13, X13, e13, W13, st13⟩ := putF X12 hx hZ hown (host := "") (Or.inl (hw _ (own_m 65 rfl))) Via.refl e12 F_merging_ob E_ob (Or.inr ⟨(hw _ (own_m 66 rfl)), rfl, hnm⟩) (hw _ (own_m 49 rfl)) (ty := (.array .int)) (by decide) rfl rfl (g := (mkF m 53 (Ls5 ob 2) [(.ref b12), (.ref ob)])) rfl rfl (hb hby d5_53)
  have F_merging_ob_ := F_merging_ob.same W13
  replace C_ := own_incM (Keep.of_wr W13).1 C_
  replace E_ob := E_ob.wr W13
  replace F_runStarts_ob := F_runStarts_ob.other W13 (Or.inr (slot_ne (Or.inr (hw _ (own_m 68 rfl))) (Or.inr (hw _ (own_m 66 rfl))) (by decide) (t := (.array .int)) (t' := (.array .int)) (by decide) (by decide)))
  replace Zle := Nat.le_trans Zle (Keep.of_wr W13).1
  replace K_ := kW K_ W13 0 rfl
  replace V_b2 := V_b2.other W13 (own_incO C_ lt0_ob (List.mem_of_getElem? (i := 0) rfl)).symm
  replace F_sums_ob := F_sums_ob.other W13 (Or.inr (slot_ne (Or.inr (hw _ (own_m 56 rfl))) (Or.inr (hw _ (own_m 66 rfl))) (by decide) (t := (.array .double)) (t' := (.array .int)) (by decide) (by decide)))
  replace V_b4 := V_b4.other W13 (own_incO C_ lt0_ob (List.mem_of_getElem? (i := 1) rfl)).symm
  replace F_onUpTo_ob := F_onUpTo_ob.other W13 (Or.inr (slot_ne (Or.inr (hw _ (own_m 58 rfl))) (Or.inr (hw _ (own_m 66 rfl))) (by decide) (t := (.array .double)) (t' := (.array .int)) (by decide) (by decide)))
  replace V_b6 := V_b6.other W13 (own_incO C_ lt0_ob (List.mem_of_getElem? (i := 2) rfl)).symm
  replace F_offUpTo_ob := F_offUpTo_ob.other W13 (Or.inr (slot_ne (Or.inr (hw _ (own_m 60 rfl))) (Or.inr (hw _ (own_m 66 rfl))) (by decide) (t := (.array .double)) (t' := (.array .int)) (by decide) (by decide)))
  replace V_b8 := V_b8.other W13 (own_incO C_ lt0_ob (List.mem_of_getElem? (i := 3) rfl)).symm
  replace F_onFrom_ob := F_onFrom_ob.other W13 (Or.inr (slot_ne (Or.inr (hw _ (own_m 62 rfl))) (Or.inr (hw _ (own_m 66 rfl))) (by decide) (t := (.array .double)) (t' := (.array .int)) (by decide) (by decide)))
  replace V_b10 := V_b10.other W13 (own_incO C_ lt0_ob (List.mem_of_getElem? (i := 4) rfl)).symm
  replace F_offFrom_ob := F_offFrom_ob.other W13 (Or.inr (slot_ne (Or.inr (hw _ (own_m 64 rfl))) (Or.inr (hw _ (own_m 66 rfl))) (by decide) (t := (.array .double)) (t' := (.array .int)) (by decide) (by decide)))
  replace V_b12 := V_b12.other W13 (own_incO C_ lt0_ob (List.mem_of_getElem? (i := 5) rfl)).symm
  replace F_merging_ob := F_merging_ob_
  clear F_merging_ob_ W13
  replace N_ := Fr.snoc X13 N_ g_ob
  refine own_by (T' := T13) (g' := (mkF m 56 (Ls5 ob 2) [])) (fun t k => st13 t k) ?_
  clear st13 X12 e12
  refine oAlN 57 X13 hx (hb hby d5_56) rfl rfl ?_
  refine oIlN 58 X13 hx (hb hby d5_57) rfl rfl ?_
  refine oIc 59 X13 hx (hb hby d5_58) 1 rfl rfl ?_
  refine oAdd 60 X13 hx (hb hby d5_59) 3 rfl rfl ?_
  obtain ⟨T14, h14, k14, X14, e14, E14, A14, st14⟩ := newP X13 hx hZ (hw _ (own_m 29 rfl)) e13 (g := (mkF m 60 (Ls5 ob 2) [(.int 3), (.ref ob)])) rfl (hb hby d5_60) rfl (by decide) (cap := 3) (by decide) (by decide) (by decide) (by decide)
  obtain ⟨b14, g14⟩ : ∃ z, z = h13.size := ⟨_, rfl⟩
  rw [← g14] at A14 st14
  have g_b14 : n0 ≤ b14 := Nat.le_trans Zle (Nat.le_of_eq g14.symm)
  have sz_b14 : h0.size ≤ b14 := Nat.le_trans K_.1 (Nat.le_of_eq g14.symm)
  replace C_ := own_incB C_ g14 A14.lt
  replace E_ob := E_ob.ext E14
  replace F_runStarts_ob := F_runStarts_ob.ext E14
  replace Zle := Nat.le_trans Zle E14.1
  replace K_ := K_.ext E14
  replace V_b2 := V_b2.ext E14
  replace F_sums_ob := F_sums_ob.ext E14
  replace V_b4 := V_b4.ext E14
  replace F_onUpTo_ob := F_onUpTo_ob.ext E14
  replace V_b6 := V_b6.ext E14
  replace F_offUpTo_ob := F_offUpTo_ob.ext E14
  replace V_b8 := V_b8.ext E14
  replace F_onFrom_ob := F_onFrom_ob.ext E14
  replace V_b10 := V_b10.ext E14
  replace F_offFrom_ob := F_offFrom_ob.ext E14
  replace V_b12 := V_b12.ext E14
  replace F_merging_ob := F_merging_ob.ext E14
  have V_b14 : Arv Z h14 b14 k14 .int (3 : Int32) [(.int 0), (.int 0), (.int 0)] (.int 0) := (Arv.new A14 (by decide)).pad (pad_rep [] (.int 0) 3)
  refine own_by (T' := T14) (g' := (mkF m 62 (Ls5 ob 2) [(.ref b14), (.ref ob)])) (fun t k => st14 t k) ?_
  clear st14 X13 e13
  obtain ⟨T15, h15, X15, e15, W15, st15⟩ := putF X14 hx hZ hown (host := "") (Or.inl (hw _ (own_m 67 rfl))) Via.refl e14 F_runStarts_ob E_ob (Or.inr ⟨(hw _ (own_m 68 rfl)), rfl, hnm⟩) (hw _ (own_m 49 rfl)) (ty := (.array .int)) (by decide) rfl rfl (g := (mkF m 62 (Ls5 ob 2) [(.ref b14), (.ref ob)])) rfl rfl (hb hby d5_62)
  have F_runStarts_ob_ := F_runStarts_ob.same W15
  replace C_ := own_incM (Keep.of_wr W15).1 C_
  replace E_ob := E_ob.wr W15
  replace Zle := Nat.le_trans Zle (Keep.of_wr W15).1
  replace K_ := kW K_ W15 0 rfl
  replace V_b2 := V_b2.other W15 (own_incO C_ lt0_ob (List.mem_of_getElem? (i := 0) rfl)).symm
  replace F_sums_ob := F_sums_ob.other W15 (Or.inr (slot_ne (Or.inr (hw _ (own_m 56 rfl))) (Or.inr (hw _ (own_m 68 rfl))) (by decide) (t := (.array .double)) (t' := (.array .int)) (by decide) (by decide)))
  replace V_b4 := V_b4.other W15 (own_incO C_ lt0_ob (List.mem_of_getElem? (i := 1) rfl)).symm
  replace F_onUpTo_ob := F_onUpTo_ob.other W15 (Or.inr (slot_ne (Or.inr (hw _ (own_m 58 rfl))) (Or.inr (hw _ (own_m 68 rfl))) (by decide) (t := (.array .double)) (t' := (.array .int)) (by decide) (by decide)))
  replace V_b6 := V_b6.other W15 (own_incO C_ lt0_ob (List.mem_of_getElem? (i := 2) rfl)).symm
  replace F_offUpTo_ob := F_offUpTo_ob.other W15 (Or.inr (slot_ne (Or.inr (hw _ (own_m 60 rfl))) (Or.inr (hw _ (own_m 68 rfl))) (by decide) (t := (.array .double)) (t' := (.array .int)) (by decide) (by decide)))
  replace V_b8 := V_b8.other W15 (own_incO C_ lt0_ob (List.mem_of_getElem? (i := 3) rfl)).symm
  replace F_onFrom_ob := F_onFrom_ob.other W15 (Or.inr (slot_ne (Or.inr (hw _ (own_m 62 rfl))) (Or.inr (hw _ (own_m 68 rfl))) (by decide) (t := (.array .double)) (t' := (.array .int)) (by decide) (by decide)))
  replace V_b10 := V_b10.other W15 (own_incO C_ lt0_ob (List.mem_of_getElem? (i := 4) rfl)).symm
  replace F_offFrom_ob := F_offFrom_ob.other W15 (Or.inr (slot_ne (Or.inr (hw _ (own_m 64 rfl))) (Or.inr (hw _ (own_m 68 rfl))) (by decide) (t := (.array .double)) (t' := (.array .int)) (by decide) (by decide)))
  replace V_b12 := V_b12.other W15 (own_incO C_ lt0_ob (List.mem_of_getElem? (i := 5) rfl)).symm
  replace F_merging_ob := F_merging_ob.other W15 (Or.inr (slot_ne (Or.inr (hw _ (own_m 66 rfl))) (Or.inr (hw _ (own_m 68 rfl))) (by decide) (t := (.array .int)) (t' := (.array .int)) (by decide) (by decide)))
  replace V_b14 := V_b14.other W15 (own_incO C_ lt0_ob (List.mem_of_getElem? (i := 6) rfl)).symm
  replace F_runStarts_ob := F_runStarts_ob_
  clear F_runStarts_ob_ W15
  replace N_ := Fr.snoc X15 N_ g_ob
  refine own_by (T' := T15) (g' := (mkF m 65 (Ls5 ob 2) [])) (fun t k => st15 t k) ?_
  clear st15 X14 e14
  exact own_retV X15 hx Bd.notSynchronized Bd.returns (hb hby d5_65) (by decide) (by decide) (by rw [e15]; exact ⟨b2, b4, b6, b8, b10, b12, b14, _, _, _, _, _, _, _, rfl, N_, K_, C_, E_ob, F_sums_ob, F_onUpTo_ob, F_offUpTo_ob, F_onFrom_ob, F_offFrom_ob, F_merging_ob, F_runStarts_ob, V_b2, V_b4, V_b6, V_b8, V_b10, V_b12, V_b14⟩)

def Q1 (Z : State) (ob : Addr) (sa : Addr) (ks : ClassId) (y0 : Int64) (y1 : Int64) (y2 : Int64) (h0 : Heap) (n0 : Nat) (v : Option Value) (h : Heap) (L : List Loc) : Prop := ∃ (ma iA oA sA tA zA mb iB oB sB tB zB : Addr) (kiA koA ksA ktA kzA kiB koB ksB ktB kzB : ClassId), v = none ∧ Fr n0 L ∧ Keep h0 h [ob] ∧ own_inc h0.size h.size [ma, iA, oA, sA, tA, zA, mb, iB, oB, sB, tB, zB] ∧ Exa Z h ob "com/example/firebreak/firebreak/strategies/CountFactor" ∧ Fld Z h ob "com/example/firebreak/firebreak/strategies/CountFactor" "n" "I" (.int 2) ∧ Fld Z h ob "com/example/firebreak/firebreak/strategies/CountFactor" "score" "[D" (.ref sa) ∧ Fld Z h ob "com/example/firebreak/firebreak/strategies/CountFactor" "messages" "Lcom/example/firebreak/firebreak/strategies/CountFactor$Messages;" (.ref ma) ∧ Fld Z h ob "com/example/firebreak/firebreak/strategies/CountFactor" "received" "Lcom/example/firebreak/firebreak/strategies/CountFactor$Messages;" (.ref mb) ∧ Exa Z h ma "com/example/firebreak/firebreak/strategies/CountFactor$Messages" ∧ Fld Z h ma "com/example/firebreak/firebreak/strategies/CountFactor$Messages" "incoming" "[D" (.ref iA) ∧ Fld Z h ma "com/example/firebreak/firebreak/strategies/CountFactor$Messages" "order" "[I" (.ref oA) ∧ Fld Z h ma "com/example/firebreak/firebreak/strategies/CountFactor$Messages" "sorted" "[D" (.ref sA) ∧ Fld Z h ma "com/example/firebreak/firebreak/strategies/CountFactor$Messages" "tieOf" "[I" (.ref tA) ∧ Fld Z h ma "com/example/firebreak/firebreak/strategies/CountFactor$Messages" "tieSize" "[I" (.ref zA) ∧ Exa Z h mb "com/example/firebreak/firebreak/strategies/CountFactor$Messages" ∧ Fld Z h mb "com/example/firebreak/firebreak/strategies/CountFactor$Messages" "incoming" "[D" (.ref iB) ∧ Fld Z h mb "com/example/firebreak/firebreak/strategies/CountFactor$Messages" "order" "[I" (.ref oB) ∧ Fld Z h mb "com/example/firebreak/firebreak/strategies/CountFactor$Messages" "sorted" "[D" (.ref sB) ∧ Fld Z h mb "com/example/firebreak/firebreak/strategies/CountFactor$Messages" "tieOf" "[I" (.ref tB) ∧ Fld Z h mb "com/example/firebreak/firebreak/strategies/CountFactor$Messages" "tieSize" "[I" (.ref zB) ∧ Arv Z h iA kiA .double (2 : Int32) [(.double (FP.l2d 0)), (.double (FP.l2d 0))] (.double (FP.l2d 0)) ∧ Arv Z h oA koA .int (2 : Int32) [(.int 0), (.int 1)] (.int 0) ∧ Arv Z h sA ksA .double (2 : Int32) [(.double (FP.l2d 0)), (.double (FP.l2d 0))] (.double (FP.l2d 0)) ∧ Arv Z h tA ktA .int (2 : Int32) [(.int 0), (.int 0)] (.int 0) ∧ Arv Z h zA kzA .int (2 : Int32) [(.int 2), (.int 0)] (.int 0) ∧ Arv Z h iB kiB .double (2 : Int32) [(.double (FP.l2d 0)), (.double (FP.l2d 0))] (.double (FP.l2d 0)) ∧ Arv Z h oB koB .int (2 : Int32) [(.int 0), (.int 1)] (.int 0) ∧ Arv Z h sB ksB .double (2 : Int32) [(.double (FP.l2d 0)), (.double (FP.l2d 0))] (.double (FP.l2d 0)) ∧ Arv Z h tB ktB .int (2 : Int32) [(.int 0), (.int 0)] (.int 0) ∧ Arv Z h zB kzB .int (2 : Int32) [(.int 2), (.int 0)] (.int 0)
theorem pn_com_example_firebreak_firebreak_strategies_CountFactor : plainName "com/example/firebreak/firebreak/strategies/CountFactor" = true := by first | (simp [plainName, overriddenIn]; done) | decide +kernel
theorem ef_1 (m : MethodId) (ob : Addr) (sa : Addr) : entryFrame m #[(.ref ob), (.ref sa)] 3 = mkF m 0 #[.val (.ref ob), .val (.ref sa), .unset] [] := by first | (simp [entryFrame, mkF, argsToLocals, Value.category]; done) | rfl
theorem d1_0 : decode prog_42_method_1_code 0 = .ok (.aload_n 0, 1) := by decide +kernel
theorem d1_1 : decode prog_42_method_1_code 1 = .ok (.invokespecial 1, 3) := by decide +kernel
theorem d1_4 : decode prog_42_method_1_code 4 = .ok (.aload_n 0, 1) := by decide +kernel
theorem d1_5 : decode prog_42_method_1_code 5 = .ok (.aload_n 1, 1) := by decide +kernel
theorem d1_6 : decode prog_42_method_1_code 6 = .ok (.arraylength, 1) := by decide +kernel
theorem d1_7 : decode prog_42_method_1_code 7 = .ok (.iconst 1, 1) := by decide +kernel
theorem d1_8 : decode prog_42_method_1_code 8 = .ok (.isub, 1) := by decide +kernel
theorem d1_9 : decode prog_42_method_1_code 9 = .ok (.putfield 7, 3) := by decide +kernel
theorem d1_12 : decode prog_42_method_1_code 12 = .ok (.aload_n 0, 1) := by decide +kernel
theorem d1_13 : decode prog_42_method_1_code 13 = .ok (.aload_n 1, 1) := by decide +kernel
theorem d1_14 : decode prog_42_method_1_code 14 = .ok (.putfield 13, 3) := by decide +kernel
theorem d1_17 : decode prog_42_method_1_code 17 = .ok (.aload_n 0, 1) := by decide +kernel
theorem d1_18 : decode prog_42_method_1_code 18 = .ok (.aload_n 0, 1) := by decide +kernel
theorem d1_19 : decode prog_42_method_1_code 19 = .ok (.getfield 7, 3) := by decide +kernel
theorem d1_22 : decode prog_42_method_1_code 22 = .ok (.iconst 1, 1) := by decide +kernel
theorem d1_23 : decode prog_42_method_1_code 23 = .ok (.iadd, 1) := by decide +kernel
theorem d1_24 : decode prog_42_method_1_code 24 = .ok (.newarray .double, 2) := by decide +kernel
theorem d1_26 : decode prog_42_method_1_code 26 = .ok (.putfield 17, 3) := by decide +kernel
theorem d1_29 : decode prog_42_method_1_code 29 = .ok (.aload_n 0, 1) := by decide +kernel
theorem d1_30 : decode prog_42_method_1_code 30 = .ok (.getfield 17, 3) := by decide +kernel
theorem d1_33 : decode prog_42_method_1_code 33 = .ok (.aload_n 0, 1) := by decide +kernel
theorem d1_34 : decode prog_42_method_1_code 34 = .ok (.getfield 7, 3) := by decide +kernel
theorem d1_37 : decode prog_42_method_1_code 37 = .ok (.aload_n 1, 1) := by decide +kernel
theorem d1_38 : decode prog_42_method_1_code 38 = .ok (.aload_n 0, 1) := by decide +kernel
theorem d1_39 : decode prog_42_method_1_code 39 = .ok (.getfield 7, 3) := by decide +kernel
theorem d1_42 : decode prog_42_method_1_code 42 = .ok (.daload, 1) := by decide +kernel
theorem d1_43 : decode prog_42_method_1_code 43 = .ok (.dastore, 1) := by decide +kernel
theorem d1_44 : decode prog_42_method_1_code 44 = .ok (.aload_n 0, 1) := by decide +kernel
theorem d1_45 : decode prog_42_method_1_code 45 = .ok (.getfield 7, 3) := by decide +kernel
theorem d1_48 : decode prog_42_method_1_code 48 = .ok (.iconst 1, 1) := by decide +kernel
theorem d1_49 : decode prog_42_method_1_code 49 = .ok (.isub, 1) := by decide +kernel
theorem d1_50 : decode prog_42_method_1_code 50 = .ok (.istore_n 2, 1) := by decide +kernel
theorem d1_51 : decode prog_42_method_1_code 51 = .ok (.iload_n 2, 1) := by decide +kernel
theorem d1_52 : decode prog_42_method_1_code 52 = .ok (.ifCond .lt 29, 3) := by decide +kernel
theorem d1_55 : decode prog_42_method_1_code 55 = .ok (.aload_n 0, 1) := by decide +kernel
theorem d1_56 : decode prog_42_method_1_code 56 = .ok (.getfield 17, 3) := by decide +kernel
theorem d1_59 : decode prog_42_method_1_code 59 = .ok (.iload_n 2, 1) := by decide +kernel
theorem d1_60 : decode prog_42_method_1_code 60 = .ok (.aload_n 1, 1) := by decide +kernel
theorem d1_61 : decode prog_42_method_1_code 61 = .ok (.iload_n 2, 1) := by decide +kernel
theorem d1_62 : decode prog_42_method_1_code 62 = .ok (.daload, 1) := by decide +kernel
theorem d1_63 : decode prog_42_method_1_code 63 = .ok (.aload_n 0, 1) := by decide +kernel
theorem d1_64 : decode prog_42_method_1_code 64 = .ok (.getfield 17, 3) := by decide +kernel
theorem d1_67 : decode prog_42_method_1_code 67 = .ok (.iload_n 2, 1) := by decide +kernel
theorem d1_68 : decode prog_42_method_1_code 68 = .ok (.iconst 1, 1) := by decide +kernel
theorem d1_69 : decode prog_42_method_1_code 69 = .ok (.iadd, 1) := by decide +kernel
theorem d1_70 : decode prog_42_method_1_code 70 = .ok (.daload, 1) := by decide +kernel
theorem d1_71 : decode prog_42_method_1_code 71 = .ok (.invokestatic 20, 3) := by decide +kernel
theorem d1_74 : decode prog_42_method_1_code 74 = .ok (.dastore, 1) := by decide +kernel
theorem d1_75 : decode prog_42_method_1_code 75 = .ok (.iinc 2 (-1), 3) := by decide +kernel
theorem d1_78 : decode prog_42_method_1_code 78 = .ok (.goto (-27), 3) := by decide +kernel
theorem d1_81 : decode prog_42_method_1_code 81 = .ok (.aload_n 0, 1) := by decide +kernel
theorem d1_82 : decode prog_42_method_1_code 82 = .ok (.new 26, 3) := by decide +kernel
theorem d1_85 : decode prog_42_method_1_code 85 = .ok (.dup, 1) := by decide +kernel
theorem d1_86 : decode prog_42_method_1_code 86 = .ok (.aload_n 0, 1) := by decide +kernel
theorem d1_87 : decode prog_42_method_1_code 87 = .ok (.getfield 7, 3) := by decide +kernel
theorem d1_90 : decode prog_42_method_1_code 90 = .ok (.invokespecial 28, 3) := by decide +kernel
theorem pd_3 : parseMethodDescriptor "(I)V" = some ⟨[.int], none⟩ := by decide +kernel
theorem d1_93 : decode prog_42_method_1_code 93 = .ok (.putfield 31, 3) := by decide +kernel
theorem d1_96 : decode prog_42_method_1_code 96 = .ok (.aload_n 0, 1) := by decide +kernel
theorem d1_97 : decode prog_42_method_1_code 97 = .ok (.new 26, 3) := by decide +kernel
theorem d1_100 : decode prog_42_method_1_code 100 = .ok (.dup, 1) := by decide +kernel
theorem d1_101 : decode prog_42_method_1_code 101 = .ok (.aload_n 0, 1) := by decide +kernel
theorem d1_102 : decode prog_42_method_1_code 102 = .ok (.getfield 7, 3) := by decide +kernel
theorem d1_105 : decode prog_42_method_1_code 105 = .ok (.invokespecial 28, 3) := by decide +kernel
theorem d1_108 : decode prog_42_method_1_code 108 = .ok (.putfield 35, 3) := by decide +kernel
theorem d1_111 : decode prog_42_method_1_code 111 = .ok (.aload_n 0, 1) := by decide +kernel
theorem d1_112 : decode prog_42_method_1_code 112 = .ok (.aload_n 0, 1) := by decide +kernel
theorem d1_113 : decode prog_42_method_1_code 113 = .ok (.getfield 7, 3) := by decide +kernel
theorem d1_116 : decode prog_42_method_1_code 116 = .ok (.newarray .int, 2) := by decide +kernel
theorem d1_118 : decode prog_42_method_1_code 118 = .ok (.putfield 38, 3) := by decide +kernel
theorem d1_121 : decode prog_42_method_1_code 121 = .ok (.aload_n 0, 1) := by decide +kernel
theorem d1_122 : decode prog_42_method_1_code 122 = .ok (.aload_n 0, 1) := by decide +kernel
theorem d1_123 : decode prog_42_method_1_code 123 = .ok (.getfield 7, 3) := by decide +kernel
theorem d1_126 : decode prog_42_method_1_code 126 = .ok (.newarray .int, 2) := by decide +kernel
theorem d1_128 : decode prog_42_method_1_code 128 = .ok (.putfield 42, 3) := by decide +kernel
theorem d1_131 : decode prog_42_method_1_code 131 = .ok (.aload_n 0, 1) := by decide +kernel
theorem d1_132 : decode prog_42_method_1_code 132 = .ok (.aload_n 0, 1) := by decide +kernel
theorem d1_133 : decode prog_42_method_1_code 133 = .ok (.getfield 7, 3) := by decide +kernel
theorem d1_136 : decode prog_42_method_1_code 136 = .ok (.newarray .int, 2) := by decide +kernel
theorem d1_138 : decode prog_42_method_1_code 138 = .ok (.putfield 45, 3) := by decide +kernel
theorem d1_141 : decode prog_42_method_1_code 141 = .ok (.return_, 1) := by decide +kernel
set_option maxRecDepth 65536 in
set_option maxHeartbeats 40000000 in
theorem rm1 (l : Launch) (Z : State) (a0 : Array Value) (hw : ∀ d ∈ tables_1, d.before a0 Z = true) (ws : List Jvm.Cond) (ob : Addr) (sa : Addr) (ks : ClassId) (y0 : Int64) (y1 : Int64) (y2 : Int64) (h0 : Heap) (n0 : Nat) (Zle : n0 ≤ h0.size) (E_ob : Exa Z h0 ob "com/example/firebreak/firebreak/strategies/CountFactor") (g_ob : n0 ≤ ob) (F_n_ob : Fld Z h0 ob "com/example/firebreak/firebreak/strategies/CountFactor" "n" "I" (.int 0)) (F_score_ob : Fld Z h0 ob "com/example/firebreak/firebreak/strategies/CountFactor" "score" "[D" .null) (F_bestFrom_ob : Fld Z h0 ob "com/example/firebreak/firebreak/strategies/CountFactor" "bestFrom" "[D" .null) (F_messages_ob : Fld Z h0 ob "com/example/firebreak/firebreak/strategies/CountFactor" "messages" "Lcom/example/firebreak/firebreak/strategies/CountFactor$Messages;" .null) (F_received_ob : Fld Z h0 ob "com/example/firebreak/firebreak/strategies/CountFactor" "received" "Lcom/example/firebreak/firebreak/strategies/CountFactor$Messages;" .null) (F_tieWeighed_ob : Fld Z h0 ob "com/example/firebreak/firebreak/strategies/CountFactor" "tieWeighed" "[I" .null) (F_nextTie_ob : Fld Z h0 ob "com/example/firebreak/firebreak/strategies/CountFactor" "nextTie" "[I" .null) (F_previousTie_ob : Fld Z h0 ob "com/example/firebreak/firebreak/strategies/CountFactor" "previousTie" "[I" .null) (V_sa : Arv Z h0 sa ks .double (3 : Int32) [(.double (FP.l2d y0)), (.double (FP.l2d y1)), (.double (FP.l2d y2))] (.double (FP.l2d 0))) (ne_sa_ob : sa ≠ ob) (b0 : own_bd 128 y0) (b1 : own_bd 128 y1) (b2 : own_bd 128 y2) :
    MetFree l (⟨"com/example/firebreak/firebreak/strategies/CountFactor", "<init>", "([D)V"⟩ : MethodName) (head1 (Jvm.Cond.code (⟨"com/example/firebreak/firebreak/strategies/CountFactor", "<init>", "([D)V"⟩ : MethodName) prog_42_method_1_code 3 none :: ws) ({ frames := 2, cells := 30, slots := 80, locals := 60 } : Room)) (fun a U => a = #[(.ref ob), (.ref sa)] ∧ Z.Warmed39 U.vm ∧ U.heap = h0) (fun _ _ _ _ _ => True) (fun _ U o U' => ∃ v L, o = .returned v ∧ Q1 Z ob sa ks y0 y1 y2 h0 n0 v U'.heap L ∧ FrameEnd U o U' L ({ frames := 2, cells := 30, slots := 80, locals := 60 } : Room).cells ({ frames := 2, cells := 30, slots := 80, locals := 60 } : Room).slots) := by
  refine MetFree.of_bodySF (plainFor_of_name pn_com_example_firebreak_firebreak_strategies_CountFactor) hisR ?_
  intro p e s m args below meth c s₁ Bd hml0 hP hK
  obtain ⟨rfl, hZ, hh⟩ := hP
  have hx := Bd.exec
  have hby := Bd.bytes
  have hml : c.maxLocals = 3 := hml0
  have hown : s.vm.findClass "com/example/firebreak/firebreak/strategies/CountFactor" = some m.cls := findClass_of_methodNamed Bd.named
  have hnm := (name_of_methodNamed Bd.named Bd.method).1
  have X0 : Stand p l e ({ frames := 2, cells := 30, slots := 80, locals := 60 } : Room) s m #[(.ref ob), (.ref sa)] below meth c s₁ [] 0 0 := Stand.of_body Bd
  have e0 : s₁.heap = h0 := by rw [← hh, Bd.state]; rfl
  have N_ := Fr.nil n0
  have K_ := Keep.refl h0 [ob]
  show own_Goes p.tables e below s (Q1 Z ob sa ks y0 y1 y2 h0 n0) ({ frames := 2, cells := 30, slots := 80, locals := 60 } : Room).cells ({ frames := 2, cells := 30, slots := 80, locals := 60 } : Room).slots s₁ (entryFrame m #[(.ref ob), (.ref sa)] 3)
  refine own_by (T' := s₁) (g' := (mkF m 0 (Ls6 ob sa) [])) (fun t k => castTop (ef_1 m ob sa) k) ?_
  have C_ : own_inc h0.size h0.size [] := Nat.le_refl _
  have lt0_ob := E_ob.lt
  have lt0_sa := V_sa.lt
  refine oAlN 1 X0 hx (hb hby d1_0) rfl rfl ?_
  obtain ⟨T1, X1, e1, st1⟩ := initO X0 hx hZ hown (hw _ (own_m 7 rfl)) (hw _ (own_m 8 rfl)) (hw _ (own_m 9 rfl)) e0 (g := (mkF m 1 (Ls6 ob sa) [(.ref ob)])) rfl (by rw [hml]; rfl) rfl (hb hby d1_1) (by decide) (W := 0) (own_le rfl) (by decide)
  refine own_by (T' := T1) (g' := (mkF m 4 (Ls6 ob sa) [])) (fun t k => st1 t k) ?_
  clear st1 X0 e0
  refine oAlN 5 X1 hx (hb hby d1_4) rfl rfl ?_
  refine oAlN 6 X1 hx (hb hby d1_5) rfl rfl ?_
  obtain ⟨cl2, Ar2, -, S2, N2, -, -⟩ := id V_sa
  have st2 : ∀ t, Steps p.tables e below (T1.setTop (mkF m 7 (Ls6 ob sa) [(.int 3), (.ref ob)])) t → Steps p.tables e below (T1.setTop (mkF m 6 (Ls6 ob sa) [(.ref sa), (.ref ob)])) t := fun t k => X1.arraylength hx (by rw [e1]; exact Ar2.1) (State.isArrayOf_alike hZ.alike Ar2.2.1) (g := (mkF m 6 (Ls6 ob sa) [(.ref sa), (.ref ob)])) rfl rfl (hb hby d1_6) _ (by rw [len_of S2 N2]; exact k)
  refine own_by (T' := T1) (g' := (mkF m 7 (Ls6 ob sa) [(.int 3), (.ref ob)])) (fun t k => st2 t k) ?_
  clear st2
  refine oIc 8 X1 hx (hb hby d1_7) 1 rfl rfl ?_
  refine oSub 9 X1 hx (hb hby d1_8) 2 rfl rfl ?_
  obtain ⟨T3, h3, X3, e3, W3, st3⟩ := putF X1 hx hZ hown (host := "") (Or.inl (hw _ (own_m 10 rfl))) Via.refl e1 F_n_ob E_ob (Or.inr ⟨(hw _ (own_m 11 rfl)), rfl, hnm⟩) (hw _ (own_m 2 rfl)) (ty := .int) (by decide) rfl rfl (g := (mkF m 9 (Ls6 ob sa) [(.int 2), (.ref ob)])) rfl rfl (hb hby d1_9)
  have F_n_ob_ := F_n_ob.same W3
  replace C_ := own_incM (Keep.of_wr W3).1 C_
  replace E_ob := E_ob.wr W3
  replace F_score_ob := F_score_ob.other W3 (Or.inr (slot_ne (Or.inr (hw _ (own_m 13 rfl))) (Or.inr (hw _ (own_m 11 rfl))) (by decide) (t := (.array .double)) (t' := .int) (by decide) (by decide)))
  replace F_bestFrom_ob := F_bestFrom_ob.other W3 (Or.inr (slot_ne (Or.inr (hw _ (own_m 15 rfl))) (Or.inr (hw _ (own_m 11 rfl))) (by decide) (t := (.array .double)) (t' := .int) (by decide) (by decide)))
  replace F_messages_ob := F_messages_ob.other W3 (Or.inr (slot_ne (Or.inl (hw _ (own_m 39 rfl))) (Or.inr (hw _ (own_m 11 rfl))) (by decide) (t := (.object "com/example/firebreak/firebreak/strategies/CountFactor$Messages")) (t' := .int) (by decide) (by decide)))
  replace F_received_ob := F_received_ob.other W3 (Or.inr (slot_ne (Or.inl (hw _ (own_m 41 rfl))) (Or.inr (hw _ (own_m 11 rfl))) (by decide) (t := (.object "com/example/firebreak/firebreak/strategies/CountFactor$Messages")) (t' := .int) (by decide) (by decide)))
  replace F_tieWeighed_ob := F_tieWeighed_ob.other W3 (Or.inr (slot_ne (Or.inr (hw _ (own_m 43 rfl))) (Or.inr (hw _ (own_m 11 rfl))) (by decide) (t := (.array .int)) (t' := .int) (by decide) (by decide)))
  replace F_nextTie_ob := F_nextTie_ob.other W3 (Or.inr (slot_ne (Or.inr (hw _ (own_m 45 rfl))) (Or.inr (hw _ (own_m 11 rfl))) (by decide) (t := (.array .int)) (t' := .int) (by decide) (by decide)))
  replace F_previousTie_ob := F_previousTie_ob.other W3 (Or.inr (slot_ne (Or.inr (hw _ (own_m 47 rfl))) (Or.inr (hw _ (own_m 11 rfl))) (by decide) (t := (.array .int)) (t' := .int) (by decide) (by decide)))
  replace V_sa := V_sa.other W3 ne_sa_ob
  replace Zle := Nat.le_trans Zle (Keep.of_wr W3).1
  replace K_ := kW K_ W3 0 rfl
  replace F_n_ob := F_n_ob_
  clear F_n_ob_ W3
  replace N_ := Fr.snoc X3 N_ g_ob
  refine own_by (T' := T3) (g' := (mkF m 12 (Ls6 ob sa) [])) (fun t k => st3 t k) ?_
  clear st3 X1 e1
  refine oAlN 13 X3 hx (hb hby d1_12) rfl rfl ?_
  refine oAlN 14 X3 hx (hb hby d1_13) rfl rfl ?_
  obtain ⟨T4, h4, X4, e4, W4, st4⟩ := putF X3 hx hZ hown (host := "") (Or.inl (hw _ (own_m 12 rfl))) Via.refl e3 F_score_ob E_ob (Or.inr ⟨(hw _ (own_m 13 rfl)), rfl, hnm⟩) (hw _ (own_m 2 rfl)) (ty := (.array .double)) (by decide) rfl rfl (g := (mkF m 14 (Ls6 ob sa) [(.ref sa), (.ref ob)])) rfl rfl (hb hby d1_14)
  have F_score_ob_ := F_score_ob.same W4
  replace C_ := own_incM (Keep.of_wr W4).1 C_
  replace E_ob := E_ob.wr W4
  replace F_bestFrom_ob := F_bestFrom_ob.other W4 (Or.inr (slot_ne (Or.inr (hw _ (own_m 15 rfl))) (Or.inr (hw _ (own_m 13 rfl))) (by decide) (t := (.array .double)) (t' := (.array .double)) (by decide) (by decide)))
  replace F_messages_ob := F_messages_ob.other W4 (Or.inr (slot_ne (Or.inl (hw _ (own_m 39 rfl))) (Or.inr (hw _ (own_m 13 rfl))) (by decide) (t := (.object "com/example/firebreak/firebreak/strategies/CountFactor$Messages")) (t' := (.array .double)) (by decide) (by decide)))
  replace F_received_ob := F_received_ob.other W4 (Or.inr (slot_ne (Or.inl (hw _ (own_m 41 rfl))) (Or.inr (hw _ (own_m 13 rfl))) (by decide) (t := (.object "com/example/firebreak/firebreak/strategies/CountFactor$Messages")) (t' := (.array .double)) (by decide) (by decide)))
  replace F_tieWeighed_ob := F_tieWeighed_ob.other W4 (Or.inr (slot_ne (Or.inr (hw _ (own_m 43 rfl))) (Or.inr (hw _ (own_m 13 rfl))) (by decide) (t := (.array .int)) (t' := (.array .double)) (by decide) (by decide)))
  replace F_nextTie_ob := F_nextTie_ob.other W4 (Or.inr (slot_ne (Or.inr (hw _ (own_m 45 rfl))) (Or.inr (hw _ (own_m 13 rfl))) (by decide) (t := (.array .int)) (t' := (.array .double)) (by decide) (by decide)))
  replace F_previousTie_ob := F_previousTie_ob.other W4 (Or.inr (slot_ne (Or.inr (hw _ (own_m 47 rfl))) (Or.inr (hw _ (own_m 13 rfl))) (by decide) (t := (.array .int)) (t' := (.array .double)) (by decide) (by decide)))
  replace V_sa := V_sa.other W4 ne_sa_ob
  replace Zle := Nat.le_trans Zle (Keep.of_wr W4).1
  replace K_ := kW K_ W4 0 rfl
  replace F_n_ob := F_n_ob.other W4 (Or.inr (slot_ne (Or.inr (hw _ (own_m 11 rfl))) (Or.inr (hw _ (own_m 13 rfl))) (by decide) (t := .int) (t' := (.array .double)) (by decide) (by decide)))
  replace F_score_ob := F_score_ob_
  clear F_score_ob_ W4
  replace N_ := Fr.snoc X4 N_ g_ob
  refine own_by (T' := T4) (g' := (mkF m 17 (Ls6 ob sa) [])) (fun t k => st4 t k) ?_
  clear st4 X3 e3
  refine oAlN 18 X4 hx (hb hby d1_17) rfl rfl ?_
  refine oAlN 19 X4 hx (hb hby d1_18) rfl rfl ?_
  refine oF 22 X4 hx hZ hown (host := "") (Or.inl (hw _ (own_m 10 rfl))) Via.refl e4 F_n_ob (hb hby d1_19) rfl fun T5 X5 e5 => ?_
  clear X4 e4
  refine oIc 23 X5 hx (hb hby d1_22) 1 rfl rfl ?_
  refine oAdd 24 X5 hx (hb hby d1_23) 3 rfl rfl ?_
  obtain ⟨T6, h6, k6, X6, e6, E6, A6, st6⟩ := newP X5 hx hZ (hw _ (own_m 0 rfl)) e5 (g := (mkF m 24 (Ls6 ob sa) [(.int 3), (.ref ob)])) rfl (hb hby d1_24) rfl (by decide) (cap := 3) (by decide) (by decide) (by decide) (by decide)
  obtain ⟨b6, g6⟩ : ∃ z, z = h4.size := ⟨_, rfl⟩
  rw [← g6] at A6 st6
  have g_b6 : n0 ≤ b6 := Nat.le_trans Zle (Nat.le_of_eq g6.symm)
  have sz_b6 : h0.size ≤ b6 := Nat.le_trans K_.1 (Nat.le_of_eq g6.symm)
  replace C_ := own_incB C_ g6 A6.lt
  replace E_ob := E_ob.ext E6
  replace F_bestFrom_ob := F_bestFrom_ob.ext E6
  replace F_messages_ob := F_messages_ob.ext E6
  replace F_received_ob := F_received_ob.ext E6
  replace F_tieWeighed_ob := F_tieWeighed_ob.ext E6
  replace F_nextTie_ob := F_nextTie_ob.ext E6
  replace F_previousTie_ob := F_previousTie_ob.ext E6
  replace V_sa := V_sa.ext E6
  replace Zle := Nat.le_trans Zle E6.1
  replace K_ := K_.ext E6
  replace F_n_ob := F_n_ob.ext E6
  replace F_score_ob := F_score_ob.ext E6
  have V_b6 : Arv Z h6 b6 k6 .double (3 : Int32) [(.double (FP.l2d 0)), (.double (FP.l2d 0)), (.double (FP.l2d 0))] (.double (FP.l2d 0)) := (Arv.newD A6 (by decide)).pad (pad_rep [] (.double (FP.l2d 0)) 3)
  refine own_by (T' := T6) (g' := (mkF m 26 (Ls6 ob sa) [(.ref b6), (.ref ob)])) (fun t k => st6 t k) ?_
  clear st6 X5 e5
  obtain ⟨T7, h7, X7, e7, W7, st7⟩ := putF X6 hx hZ hown (host := "") (Or.inl (hw _ (own_m 14 rfl))) Via.refl e6 F_bestFrom_ob E_ob (Or.inr ⟨(hw _ (own_m 15 rfl)), rfl, hnm⟩) (hw _ (own_m 2 rfl)) (ty := (.array .double)) (by decide) rfl rfl (g := (mkF m 26 (Ls6 ob sa) [(.ref b6), (.ref ob)])) rfl rfl (hb hby d1_26)
  have F_bestFrom_ob_ := F_bestFrom_ob.same W7
  replace C_ := own_incM (Keep.of_wr W7).1 C_
  replace E_ob := E_ob.wr W7
  replace F_messages_ob := F_messages_ob.other W7 (Or.inr (slot_ne (Or.inl (hw _ (own_m 39 rfl))) (Or.inr (hw _ (own_m 15 rfl))) (by decide) (t := (.object "com/example/firebreak/firebreak/strategies/CountFactor$Messages")) (t' := (.array .double)) (by decide) (by decide)))
  replace F_received_ob := F_received_ob.other W7 (Or.inr (slot_ne (Or.inl (hw _ (own_m 41 rfl))) (Or.inr (hw _ (own_m 15 rfl))) (by decide) (t := (.object "com/example/firebreak/firebreak/strategies/CountFactor$Messages")) (t' := (.array .double)) (by decide) (by decide)))
  replace F_tieWeighed_ob := F_tieWeighed_ob.other W7 (Or.inr (slot_ne (Or.inr (hw _ (own_m 43 rfl))) (Or.inr (hw _ (own_m 15 rfl))) (by decide) (t := (.array .int)) (t' := (.array .double)) (by decide) (by decide)))
  replace F_nextTie_ob := F_nextTie_ob.other W7 (Or.inr (slot_ne (Or.inr (hw _ (own_m 45 rfl))) (Or.inr (hw _ (own_m 15 rfl))) (by decide) (t := (.array .int)) (t' := (.array .double)) (by decide) (by decide)))
  replace F_previousTie_ob := F_previousTie_ob.other W7 (Or.inr (slot_ne (Or.inr (hw _ (own_m 47 rfl))) (Or.inr (hw _ (own_m 15 rfl))) (by decide) (t := (.array .int)) (t' := (.array .double)) (by decide) (by decide)))
  replace V_sa := V_sa.other W7 ne_sa_ob
  replace Zle := Nat.le_trans Zle (Keep.of_wr W7).1
  replace K_ := kW K_ W7 0 rfl
  replace F_n_ob := F_n_ob.other W7 (Or.inr (slot_ne (Or.inr (hw _ (own_m 11 rfl))) (Or.inr (hw _ (own_m 15 rfl))) (by decide) (t := .int) (t' := (.array .double)) (by decide) (by decide)))
  replace F_score_ob := F_score_ob.other W7 (Or.inr (slot_ne (Or.inr (hw _ (own_m 13 rfl))) (Or.inr (hw _ (own_m 15 rfl))) (by decide) (t := (.array .double)) (t' := (.array .double)) (by decide) (by decide)))
  replace V_b6 := V_b6.other W7 (own_incO C_ lt0_ob (List.mem_of_getElem? (i := 0) rfl)).symm
  replace F_bestFrom_ob := F_bestFrom_ob_
  clear F_bestFrom_ob_ W7
  replace N_ := Fr.snoc X7 N_ g_ob
  refine own_by (T' := T7) (g' := (mkF m 29 (Ls6 ob sa) [])) (fun t k => st7 t k) ?_
  clear st7 X6 e6
  refine oAlN 30 X7 hx (hb hby d1_29) rfl rfl ?_
  refine oF 33 X7 hx hZ hown (host := "") (Or.inl (hw _ (own_m 14 rfl))) Via.refl e7 F_bestFrom_ob (hb hby d1_30) rfl fun T8 X8 e8 => ?_
  clear X7 e7
  refine oAlN 34 X8 hx (hb hby d1_33) rfl rfl ?_
  refine oF 37 X8 hx hZ hown (host := "") (Or.inl (hw _ (own_m 10 rfl))) Via.refl e8 F_n_ob (hb hby d1_34) rfl fun T9 X9 e9 => ?_
  clear X8 e8
  refine oAlN 38 X9 hx (hb hby d1_37) rfl rfl ?_
  refine oAlN 39 X9 hx (hb hby d1_38) rfl rfl ?_
  refine oF 42 X9 hx hZ hown (host := "") (Or.inl (hw _ (own_m 10 rfl))) Via.refl e9 F_n_ob (hb hby d1_39) rfl fun T10 X10 e10 => ?_
  clear X9 e9
  refine oDa 43 X10 hx hZ e10 V_sa (.double (FP.l2d y2)) (hb hby d1_42) (by decide) rfl rfl ?_
  refine oDs 44 X10 hx hZ e10 V_b6 2 [(.double (FP.l2d 0)), (.double (FP.l2d 0)), (.double (FP.l2d y2))] (hb hby d1_43) (by decide) rfl (Nat.le_of_ble_eq_true rfl) rfl rfl fun T12 h12 X12 e12 W12 V_b6_ => ?_
  replace C_ := own_incM (Keep.of_wr W12).1 C_
  replace E_ob := E_ob.wr W12
  replace F_messages_ob := F_messages_ob.other W12 (Or.inl (own_incO C_ lt0_ob (List.mem_of_getElem? (i := 0) rfl)))
  replace F_received_ob := F_received_ob.other W12 (Or.inl (own_incO C_ lt0_ob (List.mem_of_getElem? (i := 0) rfl)))
  replace F_tieWeighed_ob := F_tieWeighed_ob.other W12 (Or.inl (own_incO C_ lt0_ob (List.mem_of_getElem? (i := 0) rfl)))
  replace F_nextTie_ob := F_nextTie_ob.other W12 (Or.inl (own_incO C_ lt0_ob (List.mem_of_getElem? (i := 0) rfl)))
  replace F_previousTie_ob := F_previousTie_ob.other W12 (Or.inl (own_incO C_ lt0_ob (List.mem_of_getElem? (i := 0) rfl)))
  replace V_sa := V_sa.other W12 (own_incO C_ lt0_sa (List.mem_of_getElem? (i := 0) rfl))
  replace Zle := Nat.le_trans Zle (Keep.of_wr W12).1
  replace K_ := K_.wr W12 (Or.inr sz_b6)
  replace F_n_ob := F_n_ob.other W12 (Or.inl (own_incO C_ lt0_ob (List.mem_of_getElem? (i := 0) rfl)))
  replace F_score_ob := F_score_ob.other W12 (Or.inl (own_incO C_ lt0_ob (List.mem_of_getElem? (i := 0) rfl)))
  replace F_bestFrom_ob := F_bestFrom_ob.other W12 (Or.inl (own_incO C_ lt0_ob (List.mem_of_getElem? (i := 0) rfl)))
  replace V_b6 := V_b6_
  clear V_b6_ W12
  replace N_ := Fr.snoc X12 N_ g_b6
  clear X10 e10
  refine oAlN 45 X12 hx (hb hby d1_44) rfl rfl ?_
  refine oF 48 X12 hx hZ hown (host := "") (Or.inl (hw _ (own_m 10 rfl))) Via.refl e12 F_n_ob (hb hby d1_45) rfl fun T13 X13 e13 => ?_
  clear X12 e12
  refine oIc 49 X13 hx (hb hby d1_48) 1 rfl rfl ?_
  refine oSub 50 X13 hx (hb hby d1_49) 1 rfl rfl ?_
  refine oIstN 51 X13 hx (hb hby d1_50) (Ls7 ob sa 1) rfl rfl ?_
  refine oIlN 52 X13 hx (hb hby d1_51) rfl rfl ?_
  refine oFn 55 X13 hx (hb hby d1_52) ((if0 _ _).trans (flt (by decide)).1) rfl ?_
  refine oAlN 56 X13 hx (hb hby d1_55) rfl rfl ?_
  refine oF 59 X13 hx hZ hown (host := "") (Or.inl (hw _ (own_m 14 rfl))) Via.refl e13 F_bestFrom_ob (hb hby d1_56) rfl fun T14 X14 e14 => ?_
  clear X13 e13
  refine oIlN 60 X14 hx (hb hby d1_59) rfl rfl ?_
  refine oAlN 61 X14 hx (hb hby d1_60) rfl rfl ?_
  refine oIlN 62 X14 hx (hb hby d1_61) rfl rfl ?_
  refine oDa 63 X14 hx hZ e14 V_sa (.double (FP.l2d y1)) (hb hby d1_62) (by decide) rfl rfl ?_
  refine oAlN 64 X14 hx (hb hby d1_63) rfl rfl ?_
  refine oF 67 X14 hx hZ hown (host := "") (Or.inl (hw _ (own_m 14 rfl))) Via.refl e14 F_bestFrom_ob (hb hby d1_64) rfl fun T16 X16 e16 => ?_
  clear X14 e14
  refine oIlN 68 X16 hx (hb hby d1_67) rfl rfl ?_
  refine oIc 69 X16 hx (hb hby d1_68) 1 rfl rfl ?_
  refine oAdd 70 X16 hx (hb hby d1_69) 2 rfl rfl ?_
  refine oDa 71 X16 hx hZ e16 V_b6 (.double (FP.l2d y2)) (hb hby d1_70) (by decide) rfl rfl ?_
  obtain ⟨T18, X18, e18, st18⟩ := natS X16 hx hZ hown (y := (⟨"java/lang/Math", "max", "(DD)D"⟩ : MethodName)) (hw _ (own_m 16 rfl)) (hw _ (own_m 17 rfl)) (hw _ (own_m 18 rfl)) (hw _ (own_m 19 rfl)) (by decide) e16 (W := 2) (F := fun a' => a' = #[(.double (FP.l2d y1)), (.double (FP.l2d y2))] ∧ Jvm.Free.Fl.NoNaN64 (FP.l2d y1) ∧ Jvm.Free.Fl.NoNaN64 (FP.l2d y2)) (val := .double (Native.java_lang_Math.nans.pick64 true (FP.l2d y1) (FP.l2d y2))) (val' := .double (FP.l2d (own_max y1 y2))) (fun hc => Jvm.Free.Fl.Abs.maxD_pays (FP.l2d y1) (FP.l2d y2) hc (by decide) (by decide)) (g := (mkF m 71 (Ls7 ob sa 1) [(.double (FP.l2d y2)), (.double (FP.l2d y1)), (.int 1), (.ref b6)])) rfl (by rw [hml]; rfl) (argsL := [(.double (FP.l2d y1)), (.double (FP.l2d y2))]) (rest := [(.int 1), (.ref b6)]) (lenOf pd_2 rfl) rfl (own_le rfl) (hb hby d1_71) (by decide) (by decide) ⟨rfl, nn_w rfl, nn_w rfl⟩ (own_pick (own_b53 b1) (own_b53 b2))
  refine own_by (T' := T18) (g' := (mkF m 74 (Ls7 ob sa 1) [(.double (FP.l2d (own_max y1 y2))), (.int 1), (.ref b6)])) (fun t k => st18 t k) ?_
  clear st18 X16 e16
  refine oDs 75 X18 hx hZ e18 V_b6 1 [(.double (FP.l2d 0)), (.double (FP.l2d (own_max y1 y2))), (.double (FP.l2d y2))] (hb hby d1_74) (by decide) rfl (Nat.le_of_ble_eq_true rfl) rfl rfl fun T19 h19 X19 e19 W19 V_b6_ => ?_
  replace C_ := own_incM (Keep.of_wr W19).1 C_
  replace E_ob := E_ob.wr W19
  replace F_messages_ob := F_messages_ob.other W19 (Or.inl (own_incO C_ lt0_ob (List.mem_of_getElem? (i := 0) rfl)))
  replace F_received_ob := F_received_ob.other W19 (Or.inl (own_incO C_ lt0_ob (List.mem_of_getElem? (i := 0) rfl)))
  replace F_tieWeighed_ob := F_tieWeighed_ob.other W19 (Or.inl (own_incO C_ lt0_ob (List.mem_of_getElem? (i := 0) rfl)))
  replace F_nextTie_ob := F_nextTie_ob.other W19 (Or.inl (own_incO C_ lt0_ob (List.mem_of_getElem? (i := 0) rfl)))
  replace F_previousTie_ob := F_previousTie_ob.other W19 (Or.inl (own_incO C_ lt0_ob (List.mem_of_getElem? (i := 0) rfl)))
  replace V_sa := V_sa.other W19 (own_incO C_ lt0_sa (List.mem_of_getElem? (i := 0) rfl))
  replace Zle := Nat.le_trans Zle (Keep.of_wr W19).1
  replace K_ := K_.wr W19 (Or.inr sz_b6)
  replace F_n_ob := F_n_ob.other W19 (Or.inl (own_incO C_ lt0_ob (List.mem_of_getElem? (i := 0) rfl)))
  replace F_score_ob := F_score_ob.other W19 (Or.inl (own_incO C_ lt0_ob (List.mem_of_getElem? (i := 0) rfl)))
  replace F_bestFrom_ob := F_bestFrom_ob.other W19 (Or.inl (own_incO C_ lt0_ob (List.mem_of_getElem? (i := 0) rfl)))
  replace V_b6 := V_b6_
  clear V_b6_ W19
  replace N_ := Fr.snoc X19 N_ g_b6
  clear X18 e18
  refine oInc 78 X19 hx (hb hby d1_75) (Ls7 ob sa 0) rfl rfl rfl ?_
  refine oGo 51 X19 hx (hb hby d1_78) (by decide) (by decide) ?_
  refine oIlN 52 X19 hx (hb hby d1_51) rfl rfl ?_
  refine oFn 55 X19 hx (hb hby d1_52) ((if0 _ _).trans (flt (by decide)).1) rfl ?_
  refine oAlN 56 X19 hx (hb hby d1_55) rfl rfl ?_
  refine oF 59 X19 hx hZ hown (host := "") (Or.inl (hw _ (own_m 14 rfl))) Via.refl e19 F_bestFrom_ob (hb hby d1_56) rfl fun T20 X20 e20 => ?_
  clear X19 e19
  refine oIlN 60 X20 hx (hb hby d1_59) rfl rfl ?_
  refine oAlN 61 X20 hx (hb hby d1_60) rfl rfl ?_
  refine oIlN 62 X20 hx (hb hby d1_61) rfl rfl ?_
  refine oDa 63 X20 hx hZ e20 V_sa (.double (FP.l2d y0)) (hb hby d1_62) (by decide) rfl rfl ?_
  refine oAlN 64 X20 hx (hb hby d1_63) rfl rfl ?_
  refine oF 67 X20 hx hZ hown (host := "") (Or.inl (hw _ (own_m 14 rfl))) Via.refl e20 F_bestFrom_ob (hb hby d1_64) rfl fun T22 X22 e22 => ?_
  clear X20 e20
  refine oIlN 68 X22 hx (hb hby d1_67) rfl rfl ?_
  refine oIc 69 X22 hx (hb hby d1_68) 1 rfl rfl ?_
  refine oAdd 70 X22 hx (hb hby d1_69) 1 rfl rfl ?_
  refine oDa 71 X22 hx hZ e22 V_b6 (.double (FP.l2d (own_max y1 y2))) (hb hby d1_70) (by decide) rfl rfl ?_
  obtain ⟨T24, X24, e24, st24⟩ := natS X22 hx hZ hown (y := (⟨"java/lang/Math", "max", "(DD)D"⟩ : MethodName)) (hw _ (own_m 16 rfl)) (hw _ (own_m 17 rfl)) (hw _ (own_m 18 rfl)) (hw _ (own_m 19 rfl)) (by decide) e22 (W := 2) (F := fun a' => a' = #[(.double (FP.l2d y0)), (.double (FP.l2d (own_max y1 y2)))] ∧ Jvm.Free.Fl.NoNaN64 (FP.l2d y0) ∧ Jvm.Free.Fl.NoNaN64 (FP.l2d (own_max y1 y2))) (val := .double (Native.java_lang_Math.nans.pick64 true (FP.l2d y0) (FP.l2d (own_max y1 y2)))) (val' := .double (FP.l2d (own_max y0 (own_max y1 y2)))) (fun hc => Jvm.Free.Fl.Abs.maxD_pays (FP.l2d y0) (FP.l2d (own_max y1 y2)) hc (by decide) (by decide)) (g := (mkF m 71 (Ls7 ob sa 0) [(.double (FP.l2d (own_max y1 y2))), (.double (FP.l2d y0)), (.int 0), (.ref b6)])) rfl (by rw [hml]; rfl) (argsL := [(.double (FP.l2d y0)), (.double (FP.l2d (own_max y1 y2)))]) (rest := [(.int 0), (.ref b6)]) (lenOf pd_2 rfl) rfl (own_le rfl) (hb hby d1_71) (by decide) (by decide) ⟨rfl, nn_w rfl, nn_w rfl⟩ (own_pick (own_b53 b0) (own_b53 (own_bmax b1 b2)))
  refine own_by (T' := T24) (g' := (mkF m 74 (Ls7 ob sa 0) [(.double (FP.l2d (own_max y0 (own_max y1 y2)))), (.int 0), (.ref b6)])) (fun t k => st24 t k) ?_
  clear st24 X22 e22
  refine oDs 75 X24 hx hZ e24 V_b6 0 [(.double (FP.l2d (own_max y0 (own_max y1 y2)))), (.double (FP.l2d (own_max y1 y2))), (.double (FP.l2d y2))] (hb hby d1_74) (by decide) rfl (Nat.le_of_ble_eq_true rfl) rfl rfl fun T25 h25 X25 e25 W25 V_b6_ => ?_
  replace C_ := own_incM (Keep.of_wr W25).1 C_
  replace E_ob := E_ob.wr W25
  replace F_messages_ob := F_messages_ob.other W25 (Or.inl (own_incO C_ lt0_ob (List.mem_of_getElem? (i := 0) rfl)))
  replace F_received_ob := F_received_ob.other W25 (Or.inl (own_incO C_ lt0_ob (List.mem_of_getElem? (i := 0) rfl)))
  replace F_tieWeighed_ob := F_tieWeighed_ob.other W25 (Or.inl (own_incO C_ lt0_ob (List.mem_of_getElem? (i := 0) rfl)))
  replace F_nextTie_ob := F_nextTie_ob.other W25 (Or.inl (own_incO C_ lt0_ob (List.mem_of_getElem? (i := 0) rfl)))
  replace F_previousTie_ob := F_previousTie_ob.other W25 (Or.inl (own_incO C_ lt0_ob (List.mem_of_getElem? (i := 0) rfl)))
  replace V_sa := V_sa.other W25 (own_incO C_ lt0_sa (List.mem_of_getElem? (i := 0) rfl))
  replace Zle := Nat.le_trans Zle (Keep.of_wr W25).1
  replace K_ := K_.wr W25 (Or.inr sz_b6)
  replace F_n_ob := F_n_ob.other W25 (Or.inl (own_incO C_ lt0_ob (List.mem_of_getElem? (i := 0) rfl)))
  replace F_score_ob := F_score_ob.other W25 (Or.inl (own_incO C_ lt0_ob (List.mem_of_getElem? (i := 0) rfl)))
  replace F_bestFrom_ob := F_bestFrom_ob.other W25 (Or.inl (own_incO C_ lt0_ob (List.mem_of_getElem? (i := 0) rfl)))
  replace V_b6 := V_b6_
  clear V_b6_ W25
  replace N_ := Fr.snoc X25 N_ g_b6
  clear X24 e24
  refine oInc 78 X25 hx (hb hby d1_75) (Ls7 ob sa (-1)) rfl rfl rfl ?_
  refine oGo 51 X25 hx (hb hby d1_78) (by decide) (by decide) ?_
  refine oIlN 52 X25 hx (hb hby d1_51) rfl rfl ?_
  refine oFy 81 X25 hx (hb hby d1_52) ((if0 _ _).trans (tlt (by decide)).1) (by decide) (by decide) ?_
  refine oAlN 82 X25 hx (hb hby d1_81) rfl rfl ?_
  obtain ⟨T26, h26, X26, e26, E26, A26, D26, -, st26⟩ := newO X25 hx hZ hown (hw _ (own_m 20 rfl)) (hw _ (own_m 21 rfl)) (hw _ (own_m 22 rfl)) e25 (g := (mkF m 82 (Ls7 ob sa (-1)) [(.ref ob)])) rfl (hb hby d1_82) (by decide) (by decide)
  obtain ⟨b26, g26⟩ : ∃ z, z = h25.size := ⟨_, rfl⟩
  rw [← g26] at A26 D26 st26
  have g_b26 : n0 ≤ b26 := Nat.le_trans Zle (Nat.le_of_eq g26.symm)
  have sz_b26 : h0.size ≤ b26 := Nat.le_trans K_.1 (Nat.le_of_eq g26.symm)
  replace C_ := own_incB C_ g26 A26.lt
  replace E_ob := E_ob.ext E26
  replace F_messages_ob := F_messages_ob.ext E26
  replace F_received_ob := F_received_ob.ext E26
  replace F_tieWeighed_ob := F_tieWeighed_ob.ext E26
  replace F_nextTie_ob := F_nextTie_ob.ext E26
  replace F_previousTie_ob := F_previousTie_ob.ext E26
  replace V_sa := V_sa.ext E26
  replace Zle := Nat.le_trans Zle E26.1
  replace K_ := K_.ext E26
  replace F_n_ob := F_n_ob.ext E26
  replace F_score_ob := F_score_ob.ext E26
  replace F_bestFrom_ob := F_bestFrom_ob.ext E26
  replace V_b6 := V_b6.ext E26
  have E_b26 := A26
  have F_incoming_b26 : Fld Z h26 b26 "com/example/firebreak/firebreak/strategies/CountFactor$Messages" "incoming" "[D" .null := D26 (Or.inr (hw _ (own_m 28 rfl))) (ty := (.array .double)) (by decide)
  have F_order_b26 : Fld Z h26 b26 "com/example/firebreak/firebreak/strategies/CountFactor$Messages" "order" "[I" .null := D26 (Or.inr (hw _ (own_m 31 rfl))) (ty := (.array .int)) (by decide)
  have F_sorted_b26 : Fld Z h26 b26 "com/example/firebreak/firebreak/strategies/CountFactor$Messages" "sorted" "[D" .null := D26 (Or.inr (hw _ (own_m 33 rfl))) (ty := (.array .double)) (by decide)
  have F_tieOf_b26 : Fld Z h26 b26 "com/example/firebreak/firebreak/strategies/CountFactor$Messages" "tieOf" "[I" .null := D26 (Or.inr (hw _ (own_m 35 rfl))) (ty := (.array .int)) (by decide)
  have F_tieSize_b26 : Fld Z h26 b26 "com/example/firebreak/firebreak/strategies/CountFactor$Messages" "tieSize" "[I" .null := D26 (Or.inr (hw _ (own_m 37 rfl))) (ty := (.array .int)) (by decide)
  refine own_by (T' := T26) (g' := (mkF m 85 (Ls7 ob sa (-1)) [(.ref b26), (.ref ob)])) (fun t k => st26 t k) ?_
  clear st26 X25 e25
  refine oDup 86 X26 hx (hb hby d1_85) rfl rfl ?_
  refine oAlN 87 X26 hx (hb hby d1_86) rfl rfl ?_
  refine oF 90 X26 hx hZ hown (host := "") (Or.inl (hw _ (own_m 10 rfl))) Via.refl e26 F_n_ob (hb hby d1_87) rfl fun T27 X27 e27 => ?_
  clear X26 e26
  have lt_ob_28 := E_ob.lt
  have lt_sa_28 := V_sa.lt
  have lt_b6_28 := V_b6.lt
  have lt_b26_28 := E_b26.lt
  have Zpre28 := Zle
  have szp28 := K_.1
  obtain ⟨_, _, ⟨T28, L28, k28, n28⟩, -, X28, ⟨Lc28, hQ28, l28, y28, z28⟩, st28⟩ := own_specialR X27 hx hZ (y := (⟨"com/example/firebreak/firebreak/strategies/CountFactor$Messages", "<init>", "(I)V"⟩ : MethodName)) rfl hown (hw _ (own_m 23 rfl)) (hw _ (own_m 24 rfl)) (hw _ (own_m 25 rfl)) (by decide) (backOf (W := 2) (rm4 l Z a0 hw [] b26 h26 n0 Zle E_b26 g_b26 F_incoming_b26 F_order_b26 F_sorted_b26 F_tieOf_b26 F_tieSize_b26) hZ (hw _ (own_m 25 rfl)) (hw _ (own_m 22 rfl)) (by decide) (by decide)) (g := (mkF m 90 (Ls7 ob sa (-1)) [(.int 2), (.ref b26), (.ref b26), (.ref ob)])) rfl (by rw [hml]; rfl) (a := b26) (argsL := [(.int 2)]) (rest := [(.ref b26), (.ref ob)]) (lenOf pd_3 rfl) rfl (own_le rfl) (hb hby d1_90) (fun _ _ => ⟨rfl, e27, (by decide : 2 + 5 ≤ _), (by decide : 8 + 10 ≤ _)⟩)
  dsimp only [Pt.U, Pt.locs, Pt.cells, Pt.slots] at X28 l28 y28 z28 st28 hQ28
  subst l28 y28 z28
  obtain ⟨xi_28, xo_28, xs_28, xt_28, xz_28, ki_28, ko_28, ks_28, kt_28, kz_28, rfl, Nq28, c28_0, c28_1, c28_2, c28_3, c28_4, c28_5, c28_6, c28_7, c28_8, c28_9, c28_10, c28_11, c28_12⟩ := hQ28
  replace N_ := Fr.app N_ Nq28
  clear Nq28
  replace C_ := own_incA C_ c28_1
  have g_xi_28 : n0 ≤ xi_28 := Nat.le_trans Zpre28 (own_incG c28_1 (List.mem_of_getElem? (i := 0) rfl))
  have g_xo_28 : n0 ≤ xo_28 := Nat.le_trans Zpre28 (own_incG c28_1 (List.mem_of_getElem? (i := 1) rfl))
  have g_xs_28 : n0 ≤ xs_28 := Nat.le_trans Zpre28 (own_incG c28_1 (List.mem_of_getElem? (i := 2) rfl))
  have g_xt_28 : n0 ≤ xt_28 := Nat.le_trans Zpre28 (own_incG c28_1 (List.mem_of_getElem? (i := 3) rfl))
  have g_xz_28 : n0 ≤ xz_28 := Nat.le_trans Zpre28 (own_incG c28_1 (List.mem_of_getElem? (i := 4) rfl))
  replace E_ob := E_ob.keep c28_0
  replace F_messages_ob := F_messages_ob.keep c28_0 (ninS (own_incO C_ lt0_ob (List.mem_of_getElem? (i := 1) rfl)) nin0)
  replace F_received_ob := F_received_ob.keep c28_0 (ninS (own_incO C_ lt0_ob (List.mem_of_getElem? (i := 1) rfl)) nin0)
  replace F_tieWeighed_ob := F_tieWeighed_ob.keep c28_0 (ninS (own_incO C_ lt0_ob (List.mem_of_getElem? (i := 1) rfl)) nin0)
  replace F_nextTie_ob := F_nextTie_ob.keep c28_0 (ninS (own_incO C_ lt0_ob (List.mem_of_getElem? (i := 1) rfl)) nin0)
  replace F_previousTie_ob := F_previousTie_ob.keep c28_0 (ninS (own_incO C_ lt0_ob (List.mem_of_getElem? (i := 1) rfl)) nin0)
  replace V_sa := V_sa.keep c28_0 (ninS (own_incO C_ lt0_sa (List.mem_of_getElem? (i := 1) rfl)) nin0)
  replace Zle := Nat.le_trans Zle c28_0.1
  replace K_ := K_.trans c28_0 (allS (Or.inr sz_b26) all0)
  replace F_n_ob := F_n_ob.keep c28_0 (ninS (own_incO C_ lt0_ob (List.mem_of_getElem? (i := 1) rfl)) nin0)
  replace F_score_ob := F_score_ob.keep c28_0 (ninS (own_incO C_ lt0_ob (List.mem_of_getElem? (i := 1) rfl)) nin0)
  replace F_bestFrom_ob := F_bestFrom_ob.keep c28_0 (ninS (own_incO C_ lt0_ob (List.mem_of_getElem? (i := 1) rfl)) nin0)
  replace V_b6 := V_b6.keep c28_0 (ninS (nd (own_incN C_) 0 1) nin0)
  replace E_b26 := E_b26.keep c28_0
  clear lt_ob_28 lt_sa_28 lt_b6_28 lt_b26_28
  refine own_by (T' := T28) (g' := (mkF m 93 (Ls7 ob sa (-1)) [(.ref b26), (.ref ob)])) (fun t k => st28.trans k) ?_
  clear st28 X27 e27
  obtain ⟨T29, h29, X29, e29, W29, st29⟩ := putF X28 hx hZ hown (host := "") (Or.inl (hw _ (own_m 38 rfl))) Via.refl rfl F_messages_ob E_ob (Or.inl (hw _ (own_m 39 rfl))) (hw _ (own_m 2 rfl)) (ty := (.object "com/example/firebreak/firebreak/strategies/CountFactor$Messages")) (by decide) rfl rfl (g := (mkF m 93 (Ls7 ob sa (-1)) [(.ref b26), (.ref ob)])) rfl rfl (hb hby d1_93)
  have F_messages_ob_ := F_messages_ob.same W29
  replace C_ := own_incM (Keep.of_wr W29).1 C_
  replace E_ob := E_ob.wr W29
  replace F_received_ob := F_received_ob.other W29 (Or.inr (slot_ne (Or.inl (hw _ (own_m 41 rfl))) (Or.inl (hw _ (own_m 39 rfl))) (by decide) (t := (.object "com/example/firebreak/firebreak/strategies/CountFactor$Messages")) (t' := (.object "com/example/firebreak/firebreak/strategies/CountFactor$Messages")) (by decide) (by decide)))
  replace F_tieWeighed_ob := F_tieWeighed_ob.other W29 (Or.inr (slot_ne (Or.inr (hw _ (own_m 43 rfl))) (Or.inl (hw _ (own_m 39 rfl))) (by decide) (t := (.array .int)) (t' := (.object "com/example/firebreak/firebreak/strategies/CountFactor$Messages")) (by decide) (by decide)))
  replace F_nextTie_ob := F_nextTie_ob.other W29 (Or.inr (slot_ne (Or.inr (hw _ (own_m 45 rfl))) (Or.inl (hw _ (own_m 39 rfl))) (by decide) (t := (.array .int)) (t' := (.object "com/example/firebreak/firebreak/strategies/CountFactor$Messages")) (by decide) (by decide)))
  replace F_previousTie_ob := F_previousTie_ob.other W29 (Or.inr (slot_ne (Or.inr (hw _ (own_m 47 rfl))) (Or.inl (hw _ (own_m 39 rfl))) (by decide) (t := (.array .int)) (t' := (.object "com/example/firebreak/firebreak/strategies/CountFactor$Messages")) (by decide) (by decide)))
  replace V_sa := V_sa.other W29 ne_sa_ob
  replace Zle := Nat.le_trans Zle (Keep.of_wr W29).1
  replace K_ := kW K_ W29 0 rfl
  replace F_n_ob := F_n_ob.other W29 (Or.inr (slot_ne (Or.inr (hw _ (own_m 11 rfl))) (Or.inl (hw _ (own_m 39 rfl))) (by decide) (t := .int) (t' := (.object "com/example/firebreak/firebreak/strategies/CountFactor$Messages")) (by decide) (by decide)))
  replace F_score_ob := F_score_ob.other W29 (Or.inr (slot_ne (Or.inr (hw _ (own_m 13 rfl))) (Or.inl (hw _ (own_m 39 rfl))) (by decide) (t := (.array .double)) (t' := (.object "com/example/firebreak/firebreak/strategies/CountFactor$Messages")) (by decide) (by decide)))
  replace F_bestFrom_ob := F_bestFrom_ob.other W29 (Or.inr (slot_ne (Or.inr (hw _ (own_m 15 rfl))) (Or.inl (hw _ (own_m 39 rfl))) (by decide) (t := (.array .double)) (t' := (.object "com/example/firebreak/firebreak/strategies/CountFactor$Messages")) (by decide) (by decide)))
  replace V_b6 := V_b6.other W29 (own_incO C_ lt0_ob (List.mem_of_getElem? (i := 0) rfl)).symm
  replace c28_2 := c28_2.wr W29
  replace c28_3 := c28_3.other W29 (Or.inl (own_incO C_ lt0_ob (List.mem_of_getElem? (i := 1) rfl)).symm)
  replace c28_4 := c28_4.other W29 (Or.inl (own_incO C_ lt0_ob (List.mem_of_getElem? (i := 1) rfl)).symm)
  replace c28_5 := c28_5.other W29 (Or.inl (own_incO C_ lt0_ob (List.mem_of_getElem? (i := 1) rfl)).symm)
  replace c28_6 := c28_6.other W29 (Or.inl (own_incO C_ lt0_ob (List.mem_of_getElem? (i := 1) rfl)).symm)
  replace c28_7 := c28_7.other W29 (Or.inl (own_incO C_ lt0_ob (List.mem_of_getElem? (i := 1) rfl)).symm)
  replace c28_8 := c28_8.other W29 (own_incO C_ lt0_ob (List.mem_of_getElem? (i := 2) rfl)).symm
  replace c28_9 := c28_9.other W29 (own_incO C_ lt0_ob (List.mem_of_getElem? (i := 3) rfl)).symm
  replace c28_10 := c28_10.other W29 (own_incO C_ lt0_ob (List.mem_of_getElem? (i := 4) rfl)).symm
  replace c28_11 := c28_11.other W29 (own_incO C_ lt0_ob (List.mem_of_getElem? (i := 5) rfl)).symm
  replace c28_12 := c28_12.other W29 (own_incO C_ lt0_ob (List.mem_of_getElem? (i := 6) rfl)).symm
  replace F_messages_ob := F_messages_ob_
  clear F_messages_ob_ W29
  replace N_ := Fr.snoc X29 N_ g_ob
  refine own_by (T' := T29) (g' := (mkF m 96 (Ls7 ob sa (-1)) [])) (fun t k => st29 t k) ?_
  clear st29 X28
  refine oAlN 97 X29 hx (hb hby d1_96) rfl rfl ?_
  obtain ⟨T30, h30, X30, e30, E30, A30, D30, -, st30⟩ := newO X29 hx hZ hown (hw _ (own_m 20 rfl)) (hw _ (own_m 21 rfl)) (hw _ (own_m 22 rfl)) e29 (g := (mkF m 97 (Ls7 ob sa (-1)) [(.ref ob)])) rfl (hb hby d1_97) (by decide) (by decide)
  obtain ⟨b30, g30⟩ : ∃ z, z = h29.size := ⟨_, rfl⟩
  rw [← g30] at A30 D30 st30
  have g_b30 : n0 ≤ b30 := Nat.le_trans Zle (Nat.le_of_eq g30.symm)
  have sz_b30 : h0.size ≤ b30 := Nat.le_trans K_.1 (Nat.le_of_eq g30.symm)
  replace C_ := own_incB C_ g30 A30.lt
  replace E_ob := E_ob.ext E30
  replace F_received_ob := F_received_ob.ext E30
  replace F_tieWeighed_ob := F_tieWeighed_ob.ext E30
  replace F_nextTie_ob := F_nextTie_ob.ext E30
  replace F_previousTie_ob := F_previousTie_ob.ext E30
  replace V_sa := V_sa.ext E30
  replace Zle := Nat.le_trans Zle E30.1
  replace K_ := K_.ext E30
  replace F_n_ob := F_n_ob.ext E30
  replace F_score_ob := F_score_ob.ext E30
  replace F_bestFrom_ob := F_bestFrom_ob.ext E30
  replace V_b6 := V_b6.ext E30
  replace c28_2 := c28_2.ext E30
  replace c28_3 := c28_3.ext E30
  replace c28_4 := c28_4.ext E30
  replace c28_5 := c28_5.ext E30
  replace c28_6 := c28_6.ext E30
  replace c28_7 := c28_7.ext E30
  replace c28_8 := c28_8.ext E30
  replace c28_9 := c28_9.ext E30
  replace c28_10 := c28_10.ext E30
  replace c28_11 := c28_11.ext E30
  replace c28_12 := c28_12.ext E30
  replace F_messages_ob := F_messages_ob.ext E30
  have E_b30 := A30
  have F_incoming_b30 : Fld Z h30 b30 "com/example/firebreak/firebreak/strategies/CountFactor$Messages" "incoming" "[D" .null := D30 (Or.inr (hw _ (own_m 28 rfl))) (ty := (.array .double)) (by decide)
  have F_order_b30 : Fld Z h30 b30 "com/example/firebreak/firebreak/strategies/CountFactor$Messages" "order" "[I" .null := D30 (Or.inr (hw _ (own_m 31 rfl))) (ty := (.array .int)) (by decide)
  have F_sorted_b30 : Fld Z h30 b30 "com/example/firebreak/firebreak/strategies/CountFactor$Messages" "sorted" "[D" .null := D30 (Or.inr (hw _ (own_m 33 rfl))) (ty := (.array .double)) (by decide)
  have F_tieOf_b30 : Fld Z h30 b30 "com/example/firebreak/firebreak/strategies/CountFactor$Messages" "tieOf" "[I" .null := D30 (Or.inr (hw _ (own_m 35 rfl))) (ty := (.array .int)) (by decide)
  have F_tieSize_b30 : Fld Z h30 b30 "com/example/firebreak/firebreak/strategies/CountFactor$Messages" "tieSize" "[I" .null := D30 (Or.inr (hw _ (own_m 37 rfl))) (ty := (.array .int)) (by decide)
  refine own_by (T' := T30) (g' := (mkF m 100 (Ls7 ob sa (-1)) [(.ref b30), (.ref ob)])) (fun t k => st30 t k) ?_
  clear st30 X29 e29
  refine oDup 101 X30 hx (hb hby d1_100) rfl rfl ?_
  refine oAlN 102 X30 hx (hb hby d1_101) rfl rfl ?_
  refine oF 105 X30 hx hZ hown (host := "") (Or.inl (hw _ (own_m 10 rfl))) Via.refl e30 F_n_ob (hb hby d1_102) rfl fun T31 X31 e31 => ?_
  clear X30 e30
  have lt_ob_32 := E_ob.lt
  have lt_sa_32 := V_sa.lt
  have lt_b6_32 := V_b6.lt
  have lt_b26_32 := c28_2.lt
  have lt_xi_28_32 := c28_8.lt
  have lt_xo_28_32 := c28_9.lt
  have lt_xs_28_32 := c28_10.lt
  have lt_xt_28_32 := c28_11.lt
  have lt_xz_28_32 := c28_12.lt
  have lt_b30_32 := E_b30.lt
  have Zpre32 := Zle
  have szp32 := K_.1
  obtain ⟨_, _, ⟨T32, L32, k32, n32⟩, -, X32, ⟨Lc32, hQ32, l32, y32, z32⟩, st32⟩ := own_specialR X31 hx hZ (y := (⟨"com/example/firebreak/firebreak/strategies/CountFactor$Messages", "<init>", "(I)V"⟩ : MethodName)) rfl hown (hw _ (own_m 23 rfl)) (hw _ (own_m 24 rfl)) (hw _ (own_m 25 rfl)) (by decide) (backOf (W := 2) (rm4 l Z a0 hw [] b30 h30 n0 Zle E_b30 g_b30 F_incoming_b30 F_order_b30 F_sorted_b30 F_tieOf_b30 F_tieSize_b30) hZ (hw _ (own_m 25 rfl)) (hw _ (own_m 22 rfl)) (by decide) (by decide)) (g := (mkF m 105 (Ls7 ob sa (-1)) [(.int 2), (.ref b30), (.ref b30), (.ref ob)])) rfl (by rw [hml]; rfl) (a := b30) (argsL := [(.int 2)]) (rest := [(.ref b30), (.ref ob)]) (lenOf pd_3 rfl) rfl (own_le rfl) (hb hby d1_105) (fun _ _ => ⟨rfl, e31, (by decide : 8 + 5 ≤ _), (by decide : 23 + 10 ≤ _)⟩)
  dsimp only [Pt.U, Pt.locs, Pt.cells, Pt.slots] at X32 l32 y32 z32 st32 hQ32
  subst l32 y32 z32
  obtain ⟨xi_32, xo_32, xs_32, xt_32, xz_32, ki_32, ko_32, ks_32, kt_32, kz_32, rfl, Nq32, c32_0, c32_1, c32_2, c32_3, c32_4, c32_5, c32_6, c32_7, c32_8, c32_9, c32_10, c32_11, c32_12⟩ := hQ32
  replace N_ := Fr.app N_ Nq32
  clear Nq32
  replace C_ := own_incA C_ c32_1
  have g_xi_32 : n0 ≤ xi_32 := Nat.le_trans Zpre32 (own_incG c32_1 (List.mem_of_getElem? (i := 0) rfl))
  have g_xo_32 : n0 ≤ xo_32 := Nat.le_trans Zpre32 (own_incG c32_1 (List.mem_of_getElem? (i := 1) rfl))
  have g_xs_32 : n0 ≤ xs_32 := Nat.le_trans Zpre32 (own_incG c32_1 (List.mem_of_getElem? (i := 2) rfl))
  have g_xt_32 : n0 ≤ xt_32 := Nat.le_trans Zpre32 (own_incG c32_1 (List.mem_of_getElem? (i := 3) rfl))
  have g_xz_32 : n0 ≤ xz_32 := Nat.le_trans Zpre32 (own_incG c32_1 (List.mem_of_getElem? (i := 4) rfl))
  replace E_ob := E_ob.keep c32_0
  replace F_received_ob := F_received_ob.keep c32_0 (ninS (own_incO C_ lt0_ob (List.mem_of_getElem? (i := 7) rfl)) nin0)
  replace F_tieWeighed_ob := F_tieWeighed_ob.keep c32_0 (ninS (own_incO C_ lt0_ob (List.mem_of_getElem? (i := 7) rfl)) nin0)
  replace F_nextTie_ob := F_nextTie_ob.keep c32_0 (ninS (own_incO C_ lt0_ob (List.mem_of_getElem? (i := 7) rfl)) nin0)
  replace F_previousTie_ob := F_previousTie_ob.keep c32_0 (ninS (own_incO C_ lt0_ob (List.mem_of_getElem? (i := 7) rfl)) nin0)
  replace V_sa := V_sa.keep c32_0 (ninS (own_incO C_ lt0_sa (List.mem_of_getElem? (i := 7) rfl)) nin0)
  replace Zle := Nat.le_trans Zle c32_0.1
  replace K_ := K_.trans c32_0 (allS (Or.inr sz_b30) all0)
  replace F_n_ob := F_n_ob.keep c32_0 (ninS (own_incO C_ lt0_ob (List.mem_of_getElem? (i := 7) rfl)) nin0)
  replace F_score_ob := F_score_ob.keep c32_0 (ninS (own_incO C_ lt0_ob (List.mem_of_getElem? (i := 7) rfl)) nin0)
  replace F_bestFrom_ob := F_bestFrom_ob.keep c32_0 (ninS (own_incO C_ lt0_ob (List.mem_of_getElem? (i := 7) rfl)) nin0)
  replace V_b6 := V_b6.keep c32_0 (ninS (nd (own_incN C_) 0 7) nin0)
  replace c28_2 := c28_2.keep c32_0
  replace c28_3 := c28_3.keep c32_0 (ninS (nd (own_incN C_) 1 7) nin0)
  replace c28_4 := c28_4.keep c32_0 (ninS (nd (own_incN C_) 1 7) nin0)
  replace c28_5 := c28_5.keep c32_0 (ninS (nd (own_incN C_) 1 7) nin0)
  replace c28_6 := c28_6.keep c32_0 (ninS (nd (own_incN C_) 1 7) nin0)
  replace c28_7 := c28_7.keep c32_0 (ninS (nd (own_incN C_) 1 7) nin0)
  replace c28_8 := c28_8.keep c32_0 (ninS (nd (own_incN C_) 2 7) nin0)
  replace c28_9 := c28_9.keep c32_0 (ninS (nd (own_incN C_) 3 7) nin0)
  replace c28_10 := c28_10.keep c32_0 (ninS (nd (own_incN C_) 4 7) nin0)
  replace c28_11 := c28_11.keep c32_0 (ninS (nd (own_incN C_) 5 7) nin0)
  replace c28_12 := c28_12.keep c32_0 (ninS (nd (own_incN C_) 6 7) nin0)
  replace F_messages_ob := F_messages_ob.keep c32_0 (ninS (own_incO C_ lt0_ob (List.mem_of_getElem? (i := 7) rfl)) nin0)
  replace E_b30 := E_b30.keep c32_0
  clear lt_ob_32 lt_sa_32 lt_b6_32 lt_b26_32 lt_xi_28_32 lt_xo_28_32 lt_xs_28_32 lt_xt_28_32 lt_xz_28_32 lt_b30_32
  refine own_by (T' := T32) (g' := (mkF m 108 (Ls7 ob sa (-1)) [(.ref b30), (.ref ob)])) (fun t k => st32.trans k) ?_
  clear st32 X31 e31
  obtain ⟨T33, h33, X33, e33, W33, st33⟩ := putF X32 hx hZ hown (host := "") (Or.inl (hw _ (own_m 40 rfl))) Via.refl rfl F_received_ob E_ob (Or.inl (hw _ (own_m 41 rfl))) (hw _ (own_m 2 rfl)) (ty := (.object "com/example/firebreak/firebreak/strategies/CountFactor$Messages")) (by decide) rfl rfl (g := (mkF m 108 (Ls7 ob sa (-1)) [(.ref b30), (.ref ob)])) rfl rfl (hb hby d1_108)
  have F_received_ob_ := F_received_ob.same W33
  replace C_ := own_incM (Keep.of_wr W33).1 C_
  replace E_ob := E_ob.wr W33
  replace F_tieWeighed_ob := F_tieWeighed_ob.other W33 (Or.inr (slot_ne (Or.inr (hw _ (own_m 43 rfl))) (Or.inl (hw _ (own_m 41 rfl))) (by decide) (t := (.array .int)) (t' := (.object "com/example/firebreak/firebreak/strategies/CountFactor$Messages")) (by decide) (by decide)))
  replace F_nextTie_ob := F_nextTie_ob.other W33 (Or.inr (slot_ne (Or.inr (hw _ (own_m 45 rfl))) (Or.inl (hw _ (own_m 41 rfl))) (by decide) (t := (.array .int)) (t' := (.object "com/example/firebreak/firebreak/strategies/CountFactor$Messages")) (by decide) (by decide)))
  replace F_previousTie_ob := F_previousTie_ob.other W33 (Or.inr (slot_ne (Or.inr (hw _ (own_m 47 rfl))) (Or.inl (hw _ (own_m 41 rfl))) (by decide) (t := (.array .int)) (t' := (.object "com/example/firebreak/firebreak/strategies/CountFactor$Messages")) (by decide) (by decide)))
  replace V_sa := V_sa.other W33 ne_sa_ob
  replace Zle := Nat.le_trans Zle (Keep.of_wr W33).1
  replace K_ := kW K_ W33 0 rfl
  replace F_n_ob := F_n_ob.other W33 (Or.inr (slot_ne (Or.inr (hw _ (own_m 11 rfl))) (Or.inl (hw _ (own_m 41 rfl))) (by decide) (t := .int) (t' := (.object "com/example/firebreak/firebreak/strategies/CountFactor$Messages")) (by decide) (by decide)))
  replace F_score_ob := F_score_ob.other W33 (Or.inr (slot_ne (Or.inr (hw _ (own_m 13 rfl))) (Or.inl (hw _ (own_m 41 rfl))) (by decide) (t := (.array .double)) (t' := (.object "com/example/firebreak/firebreak/strategies/CountFactor$Messages")) (by decide) (by decide)))
  replace F_bestFrom_ob := F_bestFrom_ob.other W33 (Or.inr (slot_ne (Or.inr (hw _ (own_m 15 rfl))) (Or.inl (hw _ (own_m 41 rfl))) (by decide) (t := (.array .double)) (t' := (.object "com/example/firebreak/firebreak/strategies/CountFactor$Messages")) (by decide) (by decide)))
  replace V_b6 := V_b6.other W33 (own_incO C_ lt0_ob (List.mem_of_getElem? (i := 0) rfl)).symm
  replace c28_2 := c28_2.wr W33
  replace c28_3 := c28_3.other W33 (Or.inl (own_incO C_ lt0_ob (List.mem_of_getElem? (i := 1) rfl)).symm)
  replace c28_4 := c28_4.other W33 (Or.inl (own_incO C_ lt0_ob (List.mem_of_getElem? (i := 1) rfl)).symm)
  replace c28_5 := c28_5.other W33 (Or.inl (own_incO C_ lt0_ob (List.mem_of_getElem? (i := 1) rfl)).symm)
  replace c28_6 := c28_6.other W33 (Or.inl (own_incO C_ lt0_ob (List.mem_of_getElem? (i := 1) rfl)).symm)
  replace c28_7 := c28_7.other W33 (Or.inl (own_incO C_ lt0_ob (List.mem_of_getElem? (i := 1) rfl)).symm)
  replace c28_8 := c28_8.other W33 (own_incO C_ lt0_ob (List.mem_of_getElem? (i := 2) rfl)).symm
  replace c28_9 := c28_9.other W33 (own_incO C_ lt0_ob (List.mem_of_getElem? (i := 3) rfl)).symm
  replace c28_10 := c28_10.other W33 (own_incO C_ lt0_ob (List.mem_of_getElem? (i := 4) rfl)).symm
  replace c28_11 := c28_11.other W33 (own_incO C_ lt0_ob (List.mem_of_getElem? (i := 5) rfl)).symm
  replace c28_12 := c28_12.other W33 (own_incO C_ lt0_ob (List.mem_of_getElem? (i := 6) rfl)).symm
  replace F_messages_ob := F_messages_ob.other W33 (Or.inr (slot_ne (Or.inl (hw _ (own_m 39 rfl))) (Or.inl (hw _ (own_m 41 rfl))) (by decide) (t := (.object "com/example/firebreak/firebreak/strategies/CountFactor$Messages")) (t' := (.object "com/example/firebreak/firebreak/strategies/CountFactor$Messages")) (by decide) (by decide)))
  replace c32_2 := c32_2.wr W33
  replace c32_3 := c32_3.other W33 (Or.inl (own_incO C_ lt0_ob (List.mem_of_getElem? (i := 7) rfl)).symm)
  replace c32_4 := c32_4.other W33 (Or.inl (own_incO C_ lt0_ob (List.mem_of_getElem? (i := 7) rfl)).symm)
  replace c32_5 := c32_5.other W33 (Or.inl (own_incO C_ lt0_ob (List.mem_of_getElem? (i := 7) rfl)).symm)
  replace c32_6 := c32_6.other W33 (Or.inl (own_incO C_ lt0_ob (List.mem_of_getElem? (i := 7) rfl)).symm)
  replace c32_7 := c32_7.other W33 (Or.inl (own_incO C_ lt0_ob (List.mem_of_getElem? (i := 7) rfl)).symm)
  replace c32_8 := c32_8.other W33 (own_incO C_ lt0_ob (List.mem_of_getElem? (i := 8) rfl)).symm
  replace c32_9 := c32_9.other W33 (own_incO C_ lt0_ob (List.mem_of_getElem? (i := 9) rfl)).symm
  replace c32_10 := c32_10.other W33 (own_incO C_ lt0_ob (List.mem_of_getElem? (i := 10) rfl)).symm
  replace c32_11 := c32_11.other W33 (own_incO C_ lt0_ob (List.mem_of_getElem? (i := 11) rfl)).symm
  replace c32_12 := c32_12.other W33 (own_incO C_ lt0_ob (List.mem_of_getElem? (i := 12) rfl)).symm
  replace F_received_ob := F_received_ob_
  clear F_received_ob_ W33
  replace N_ := Fr.snoc X33 N_ g_ob
  refine own_by (T' := T33) (g' := (mkF m 111 (Ls7 ob sa (-1)) [])) (fun t k => st33 t k) ?_
  clear st33 X32
  refine oAlN 112 X33 hx (hb hby d1_111) rfl rfl ?_
  refine oAlN 113 X33 hx (hb hby d1_112) rfl rfl ?_
  refine oF 116 X33 hx hZ hown (host := "") (Or.inl (hw _ (own_m 10 rfl))) Via.refl e33 F_n_ob (hb hby d1_113) rfl fun T34 X34 e34 => ?_
  clear X33 e33
  obtain ⟨T35, h35, k35, X35, e35, E35, A35, st35⟩ := newP X34 hx hZ (hw _ (own_m 29 rfl)) e34 (g := (mkF m 116 (Ls7 ob sa (-1)) [(.int 2), (.ref ob)])) rfl (hb hby d1_116) rfl (by decide) (cap := 2) (by decide) (by decide) (by decide) (by decide)
  obtain ⟨b35, g35⟩ : ∃ z, z = h33.size := ⟨_, rfl⟩
  rw [← g35] at A35 st35
  have g_b35 : n0 ≤ b35 := Nat.le_trans Zle (Nat.le_of_eq g35.symm)
  have sz_b35 : h0.size ≤ b35 := Nat.le_trans K_.1 (Nat.le_of_eq g35.symm)
  replace C_ := own_incB C_ g35 A35.lt
  replace E_ob := E_ob.ext E35
  replace F_tieWeighed_ob := F_tieWeighed_ob.ext E35
  replace F_nextTie_ob := F_nextTie_ob.ext E35
  replace F_previousTie_ob := F_previousTie_ob.ext E35
  replace V_sa := V_sa.ext E35
  replace Zle := Nat.le_trans Zle E35.1
  replace K_ := K_.ext E35
  replace F_n_ob := F_n_ob.ext E35
  replace F_score_ob := F_score_ob.ext E35
  replace F_bestFrom_ob := F_bestFrom_ob.ext E35
  replace V_b6 := V_b6.ext E35
  replace c28_2 := c28_2.ext E35
  replace c28_3 := c28_3.ext E35
  replace c28_4 := c28_4.ext E35
  replace c28_5 := c28_5.ext E35
  replace c28_6 := c28_6.ext E35
  replace c28_7 := c28_7.ext E35
  replace c28_8 := c28_8.ext E35
  replace c28_9 := c28_9.ext E35
  replace c28_10 := c28_10.ext E35
  replace c28_11 := c28_11.ext E35
  replace c28_12 := c28_12.ext E35
  replace F_messages_ob := F_messages_ob.ext E35
  replace c32_2 := c32_2.ext E35
  replace c32_3 := c32_3.ext E35
  replace c32_4 := c32_4.ext E35
  replace c32_5 := c32_5.ext E35
  replace c32_6 := c32_6.ext E35
  replace c32_7 := c32_7.ext E35
  replace c32_8 := c32_8.ext E35
  replace c32_9 := c32_9.ext E35
  replace c32_10 := c32_10.ext E35
  replace c32_11 := c32_11.ext E35
  replace c32_12 := c32_12.ext E35
  replace F_received_ob := F_received_ob.ext E35
  have V_b35 : Arv Z h35 b35 k35 .int (2 : Int32) [(.int 0), (.int 0)] (.int 0) := (Arv.new A35 (by decide)).pad (pad_rep [] (.int 0) 2)
  refine own_by (T' := T35) (g' := (mkF m 118 (Ls7 ob sa (-1)) [(.ref b35), (.ref ob)])) (fun t k => st35 t k) ?_
  clear st35 X34 e34
  obtain ⟨T36, h36, X36, e36, W36, st36⟩ := putF X35 hx hZ hown (host := "") (Or.inl (hw _ (own_m 42 rfl))) Via.refl e35 F_tieWeighed_ob E_ob (Or.inr ⟨(hw _ (own_m 43 rfl)), rfl, hnm⟩) (hw _ (own_m 2 rfl)) (ty := (.array .int)) (by decide) rfl rfl (g := (mkF m 118 (Ls7 ob sa (-1)) [(.ref b35), (.ref ob)])) rfl rfl (hb hby d1_118)
  have F_tieWeighed_ob_ := F_tieWeighed_ob.same W36
  replace C_ := own_incM (Keep.of_wr W36).1 C_
  replace E_ob := E_ob.wr W36
  replace F_nextTie_ob := F_nextTie_ob.other W36 (Or.inr (slot_ne (Or.inr (hw _ (own_m 45 rfl))) (Or.inr (hw _ (own_m 43 rfl))) (by decide) (t := (.array .int)) (t' := (.array .int)) (by decide) (by decide)))
  replace F_previousTie_ob := F_previousTie_ob.other W36 (Or.inr (slot_ne (Or.inr (hw _ (own_m 47 rfl))) (Or.inr (hw _ (own_m 43 rfl))) (by decide) (t := (.array .int)) (t' := (.array .int)) (by decide) (by decide)))
  replace V_sa := V_sa.other W36 ne_sa_ob
  replace Zle := Nat.le_trans Zle (Keep.of_wr W36).1
  replace K_ := kW K_ W36 0 rfl
  replace F_n_ob := F_n_ob.other W36 (Or.inr (slot_ne (Or.inr (hw _ (own_m 11 rfl))) (Or.inr (hw _ (own_m 43 rfl))) (by decide) (t := .int) (t' := (.array .int)) (by decide) (by decide)))
  replace F_score_ob := F_score_ob.other W36 (Or.inr (slot_ne (Or.inr (hw _ (own_m 13 rfl))) (Or.inr (hw _ (own_m 43 rfl))) (by decide) (t := (.array .double)) (t' := (.array .int)) (by decide) (by decide)))
  replace F_bestFrom_ob := F_bestFrom_ob.other W36 (Or.inr (slot_ne (Or.inr (hw _ (own_m 15 rfl))) (Or.inr (hw _ (own_m 43 rfl))) (by decide) (t := (.array .double)) (t' := (.array .int)) (by decide) (by decide)))
  replace V_b6 := V_b6.other W36 (own_incO C_ lt0_ob (List.mem_of_getElem? (i := 0) rfl)).symm
  replace c28_2 := c28_2.wr W36
  replace c28_3 := c28_3.other W36 (Or.inl (own_incO C_ lt0_ob (List.mem_of_getElem? (i := 1) rfl)).symm)
  replace c28_4 := c28_4.other W36 (Or.inl (own_incO C_ lt0_ob (List.mem_of_getElem? (i := 1) rfl)).symm)
  replace c28_5 := c28_5.other W36 (Or.inl (own_incO C_ lt0_ob (List.mem_of_getElem? (i := 1) rfl)).symm)
  replace c28_6 := c28_6.other W36 (Or.inl (own_incO C_ lt0_ob (List.mem_of_getElem? (i := 1) rfl)).symm)
  replace c28_7 := c28_7.other W36 (Or.inl (own_incO C_ lt0_ob (List.mem_of_getElem? (i := 1) rfl)).symm)
  replace c28_8 := c28_8.other W36 (own_incO C_ lt0_ob (List.mem_of_getElem? (i := 2) rfl)).symm
  replace c28_9 := c28_9.other W36 (own_incO C_ lt0_ob (List.mem_of_getElem? (i := 3) rfl)).symm
  replace c28_10 := c28_10.other W36 (own_incO C_ lt0_ob (List.mem_of_getElem? (i := 4) rfl)).symm
  replace c28_11 := c28_11.other W36 (own_incO C_ lt0_ob (List.mem_of_getElem? (i := 5) rfl)).symm
  replace c28_12 := c28_12.other W36 (own_incO C_ lt0_ob (List.mem_of_getElem? (i := 6) rfl)).symm
  replace F_messages_ob := F_messages_ob.other W36 (Or.inr (slot_ne (Or.inl (hw _ (own_m 39 rfl))) (Or.inr (hw _ (own_m 43 rfl))) (by decide) (t := (.object "com/example/firebreak/firebreak/strategies/CountFactor$Messages")) (t' := (.array .int)) (by decide) (by decide)))
  replace c32_2 := c32_2.wr W36
  replace c32_3 := c32_3.other W36 (Or.inl (own_incO C_ lt0_ob (List.mem_of_getElem? (i := 7) rfl)).symm)
  replace c32_4 := c32_4.other W36 (Or.inl (own_incO C_ lt0_ob (List.mem_of_getElem? (i := 7) rfl)).symm)
  replace c32_5 := c32_5.other W36 (Or.inl (own_incO C_ lt0_ob (List.mem_of_getElem? (i := 7) rfl)).symm)
  replace c32_6 := c32_6.other W36 (Or.inl (own_incO C_ lt0_ob (List.mem_of_getElem? (i := 7) rfl)).symm)
  replace c32_7 := c32_7.other W36 (Or.inl (own_incO C_ lt0_ob (List.mem_of_getElem? (i := 7) rfl)).symm)
  replace c32_8 := c32_8.other W36 (own_incO C_ lt0_ob (List.mem_of_getElem? (i := 8) rfl)).symm
  replace c32_9 := c32_9.other W36 (own_incO C_ lt0_ob (List.mem_of_getElem? (i := 9) rfl)).symm
  replace c32_10 := c32_10.other W36 (own_incO C_ lt0_ob (List.mem_of_getElem? (i := 10) rfl)).symm
  replace c32_11 := c32_11.other W36 (own_incO C_ lt0_ob (List.mem_of_getElem? (i := 11) rfl)).symm
  replace c32_12 := c32_12.other W36 (own_incO C_ lt0_ob (List.mem_of_getElem? (i := 12) rfl)).symm
  replace F_received_ob := F_received_ob.other W36 (Or.inr (slot_ne (Or.inl (hw _ (own_m 41 rfl))) (Or.inr (hw _ (own_m 43 rfl))) (by decide) (t := (.object "com/example/firebreak/firebreak/strategies/CountFactor$Messages")) (t' := (.array .int)) (by decide) (by decide)))
  replace V_b35 := V_b35.other W36 (own_incO C_ lt0_ob (List.mem_of_getElem? (i := 13) rfl)).symm
  replace F_tieWeighed_ob := F_tieWeighed_ob_
  clear F_tieWeighed_ob_ W36
  replace N_ := Fr.snoc X36 N_ g_ob
  refine own_by (T' := T36) (g' := (mkF m 121 (Ls7 ob sa (-1)) [])) (fun t k => st36 t k) ?_
  clear st36 X35 e35
  refine oAlN 122 X36 hx (hb hby d1_121) rfl rfl ?_
  refine oAlN 123 X36 hx (hb hby d1_122) rfl rfl ?_
  refine oF 126 X36 hx hZ hown (host := "") (Or.inl (hw _ (own_m 10 rfl))) Via.refl e36 F_n_ob (hb hby d1_123) rfl fun T37 X37 e37 => ?_
  clear X36 e36
  obtain ⟨T38, h38, k38, X38, e38, E38, A38, st38⟩ := newP X37 hx hZ (hw _ (own_m 29 rfl)) e37 (g := (mkF m 126 (Ls7 ob sa (-1)) [(.int 2), (.ref ob)])) rfl (hb hby d1_126) rfl (by decide) (cap := 2) (by decide) (by decide) (by decide) (by decide)
  obtain ⟨b38, g38⟩ : ∃ z, z = h36.size := ⟨_, rfl⟩
  rw [← g38] at A38 st38
  have g_b38 : n0 ≤ b38 := Nat.le_trans Zle (Nat.le_of_eq g38.symm)
  have sz_b38 : h0.size ≤ b38 := Nat.le_trans K_.1 (Nat.le_of_eq g38.symm)
  replace C_ := own_incB C_ g38 A38.lt
  replace E_ob := E_ob.ext E38
  replace F_nextTie_ob := F_nextTie_ob.ext E38
  replace F_previousTie_ob := F_previousTie_ob.ext E38
  replace V_sa := V_sa.ext E38
  replace Zle := Nat.le_trans Zle E38.1
  replace K_ := K_.ext E38
  replace F_n_ob := F_n_ob.ext E38
  replace F_score_ob := F_score_ob.ext E38
  replace F_bestFrom_ob := F_bestFrom_ob.ext E38
  replace V_b6 := V_b6.ext E38
  replace c28_2 := c28_2.ext E38
  replace c28_3 := c28_3.ext E38
  replace c28_4 := c28_4.ext E38
  replace c28_5 := c28_5.ext E38
  replace c28_6 := c28_6.ext E38
  replace c28_7 := c28_7.ext E38
  replace c28_8 := c28_8.ext E38
  replace c28_9 := c28_9.ext E38
  replace c28_10 := c28_10.ext E38
  replace c28_11 := c28_11.ext E38
  replace c28_12 := c28_12.ext E38
  replace F_messages_ob := F_messages_ob.ext E38
  replace c32_2 := c32_2.ext E38
  replace c32_3 := c32_3.ext E38
  replace c32_4 := c32_4.ext E38
  replace c32_5 := c32_5.ext E38
  replace c32_6 := c32_6.ext E38
  replace c32_7 := c32_7.ext E38
  replace c32_8 := c32_8.ext E38
  replace c32_9 := c32_9.ext E38
  replace c32_10 := c32_10.ext E38
  replace c32_11 := c32_11.ext E38
  replace c32_12 := c32_12.ext E38
  replace F_received_ob := F_received_ob.ext E38
  replace V_b35 := V_b35.ext E38
  replace F_tieWeighed_ob := F_tieWeighed_ob.ext E38
  have V_b38 : Arv Z h38 b38 k38 .int (2 : Int32) [(.int 0), (.int 0)] (.int 0) := (Arv.new A38 (by decide)).pad (pad_rep [] (.int 0) 2)
  refine own_by (T' := T38) (g' := (mkF m 128 (Ls7 ob sa (-1)) [(.ref b38), (.ref ob)])) (fun t k => st38 t k) ?_
  clear st38 X37 e37
  obtain ⟨T39, h39, X39, e39, W39, st39⟩ := putF X38 hx hZ hown (host := "") (Or.inl (hw _ (own_m 44 rfl))) Via.refl e38 F_nextTie_ob E_ob (Or.inr ⟨(hw _ (own_m 45 rfl)), rfl, hnm⟩) (hw _ (own_m 2 rfl)) (ty := (.array .int)) (by decide) rfl rfl (g := (mkF m 128 (Ls7 ob sa (-1)) [(.ref b38), (.ref ob)])) rfl rfl (hb hby d1_128)
  have F_nextTie_ob_ := F_nextTie_ob.same W39
  replace C_ := own_incM (Keep.of_wr W39).1 C_
  replace E_ob := E_ob.wr W39
  replace F_previousTie_ob := F_previousTie_ob.other W39 (Or.inr (slot_ne (Or.inr (hw _ (own_m 47 rfl))) (Or.inr (hw _ (own_m 45 rfl))) (by decide) (t := (.array .int)) (t' := (.array .int)) (by decide) (by decide)))
  replace V_sa := V_sa.other W39 ne_sa_ob
  replace Zle := Nat.le_trans Zle (Keep.of_wr W39).1
  replace K_ := kW K_ W39 0 rfl
  replace F_n_ob := F_n_ob.other W39 (Or.inr (slot_ne (Or.inr (hw _ (own_m 11 rfl))) (Or.inr (hw _ (own_m 45 rfl))) (by decide) (t := .int) (t' := (.array .int)) (by decide) (by decide)))
  replace F_score_ob := F_score_ob.other W39 (Or.inr (slot_ne (Or.inr (hw _ (own_m 13 rfl))) (Or.inr (hw _ (own_m 45 rfl))) (by decide) (t := (.array .double)) (t' := (.array .int)) (by decide) (by decide)))
  replace F_bestFrom_ob := F_bestFrom_ob.other W39 (Or.inr (slot_ne (Or.inr (hw _ (own_m 15 rfl))) (Or.inr (hw _ (own_m 45 rfl))) (by decide) (t := (.array .double)) (t' := (.array .int)) (by decide) (by decide)))
  replace V_b6 := V_b6.other W39 (own_incO C_ lt0_ob (List.mem_of_getElem? (i := 0) rfl)).symm
  replace c28_2 := c28_2.wr W39
  replace c28_3 := c28_3.other W39 (Or.inl (own_incO C_ lt0_ob (List.mem_of_getElem? (i := 1) rfl)).symm)
  replace c28_4 := c28_4.other W39 (Or.inl (own_incO C_ lt0_ob (List.mem_of_getElem? (i := 1) rfl)).symm)
  replace c28_5 := c28_5.other W39 (Or.inl (own_incO C_ lt0_ob (List.mem_of_getElem? (i := 1) rfl)).symm)
  replace c28_6 := c28_6.other W39 (Or.inl (own_incO C_ lt0_ob (List.mem_of_getElem? (i := 1) rfl)).symm)
  replace c28_7 := c28_7.other W39 (Or.inl (own_incO C_ lt0_ob (List.mem_of_getElem? (i := 1) rfl)).symm)
  replace c28_8 := c28_8.other W39 (own_incO C_ lt0_ob (List.mem_of_getElem? (i := 2) rfl)).symm
  replace c28_9 := c28_9.other W39 (own_incO C_ lt0_ob (List.mem_of_getElem? (i := 3) rfl)).symm
  replace c28_10 := c28_10.other W39 (own_incO C_ lt0_ob (List.mem_of_getElem? (i := 4) rfl)).symm
  replace c28_11 := c28_11.other W39 (own_incO C_ lt0_ob (List.mem_of_getElem? (i := 5) rfl)).symm
  replace c28_12 := c28_12.other W39 (own_incO C_ lt0_ob (List.mem_of_getElem? (i := 6) rfl)).symm
  replace F_messages_ob := F_messages_ob.other W39 (Or.inr (slot_ne (Or.inl (hw _ (own_m 39 rfl))) (Or.inr (hw _ (own_m 45 rfl))) (by decide) (t := (.object "com/example/firebreak/firebreak/strategies/CountFactor$Messages")) (t' := (.array .int)) (by decide) (by decide)))
  replace c32_2 := c32_2.wr W39
  replace c32_3 := c32_3.other W39 (Or.inl (own_incO C_ lt0_ob (List.mem_of_getElem? (i := 7) rfl)).symm)
  replace c32_4 := c32_4.other W39 (Or.inl (own_incO C_ lt0_ob (List.mem_of_getElem? (i := 7) rfl)).symm)
  replace c32_5 := c32_5.other W39 (Or.inl (own_incO C_ lt0_ob (List.mem_of_getElem? (i := 7) rfl)).symm)
  replace c32_6 := c32_6.other W39 (Or.inl (own_incO C_ lt0_ob (List.mem_of_getElem? (i := 7) rfl)).symm)
  replace c32_7 := c32_7.other W39 (Or.inl (own_incO C_ lt0_ob (List.mem_of_getElem? (i := 7) rfl)).symm)
  replace c32_8 := c32_8.other W39 (own_incO C_ lt0_ob (List.mem_of_getElem? (i := 8) rfl)).symm
  replace c32_9 := c32_9.other W39 (own_incO C_ lt0_ob (List.mem_of_getElem? (i := 9) rfl)).symm
  replace c32_10 := c32_10.other W39 (own_incO C_ lt0_ob (List.mem_of_getElem? (i := 10) rfl)).symm
  replace c32_11 := c32_11.other W39 (own_incO C_ lt0_ob (List.mem_of_getElem? (i := 11) rfl)).symm
  replace c32_12 := c32_12.other W39 (own_incO C_ lt0_ob (List.mem_of_getElem? (i := 12) rfl)).symm
  replace F_received_ob := F_received_ob.other W39 (Or.inr (slot_ne (Or.inl (hw _ (own_m 41 rfl))) (Or.inr (hw _ (own_m 45 rfl))) (by decide) (t := (.object "com/example/firebreak/firebreak/strategies/CountFactor$Messages")) (t' := (.array .int)) (by decide) (by decide)))
  replace V_b35 := V_b35.other W39 (own_incO C_ lt0_ob (List.mem_of_getElem? (i := 13) rfl)).symm
  replace F_tieWeighed_ob := F_tieWeighed_ob.other W39 (Or.inr (slot_ne (Or.inr (hw _ (own_m 43 rfl))) (Or.inr (hw _ (own_m 45 rfl))) (by decide) (t := (.array .int)) (t' := (.array .int)) (by decide) (by decide)))
  replace V_b38 := V_b38.other W39 (own_incO C_ lt0_ob (List.mem_of_getElem? (i := 14) rfl)).symm
  replace F_nextTie_ob := F_nextTie_ob_
  clear F_nextTie_ob_ W39
  replace N_ := Fr.snoc X39 N_ g_ob
  refine own_by (T' := T39) (g' := (mkF m 131 (Ls7 ob sa (-1)) [])) (fun t k => st39 t k) ?_
  clear st39 X38 e38
  refine oAlN 132 X39 hx (hb hby d1_131) rfl rfl ?_
  refine oAlN 133 X39 hx (hb hby d1_132) rfl rfl ?_
  refine oF 136 X39 hx hZ hown (host := "") (Or.inl (hw _ (own_m 10 rfl))) Via.refl e39 F_n_ob (hb hby d1_133) rfl fun T40 X40 e40 => ?_
  clear X39 e39
  obtain ⟨T41, h41, k41, X41, e41, E41, A41, st41⟩ := newP X40 hx hZ (hw _ (own_m 29 rfl)) e40 (g := (mkF m 136 (Ls7 ob sa (-1)) [(.int 2), (.ref ob)])) rfl (hb hby d1_136) rfl (by decide) (cap := 2) (by decide) (by decide) (by decide) (by decide)
  obtain ⟨b41, g41⟩ : ∃ z, z = h39.size := ⟨_, rfl⟩
  rw [← g41] at A41 st41
  have g_b41 : n0 ≤ b41 := Nat.le_trans Zle (Nat.le_of_eq g41.symm)
  have sz_b41 : h0.size ≤ b41 := Nat.le_trans K_.1 (Nat.le_of_eq g41.symm)
  replace C_ := own_incB C_ g41 A41.lt
  replace E_ob := E_ob.ext E41
  replace F_previousTie_ob := F_previousTie_ob.ext E41
  replace V_sa := V_sa.ext E41
  replace Zle := Nat.le_trans Zle E41.1
  replace K_ := K_.ext E41
  replace F_n_ob := F_n_ob.ext E41
  replace F_score_ob := F_score_ob.ext E41
  replace F_bestFrom_ob := F_bestFrom_ob.ext E41
  replace V_b6 := V_b6.ext E41
  replace c28_2 := c28_2.ext E41
  replace c28_3 := c28_3.ext E41
  replace c28_4 := c28_4.ext E41
  replace c28_5 := c28_5.ext E41
  replace c28_6 := c28_6.ext E41
  replace c28_7 := c28_7.ext E41
  replace c28_8 := c28_8.ext E41
  replace c28_9 := c28_9.ext E41
  replace c28_10 := c28_10.ext E41
  replace c28_11 := c28_11.ext E41
  replace c28_12 := c28_12.ext E41
  replace F_messages_ob := F_messages_ob.ext E41
  replace c32_2 := c32_2.ext E41
  replace c32_3 := c32_3.ext E41
  replace c32_4 := c32_4.ext E41
  replace c32_5 := c32_5.ext E41
  replace c32_6 := c32_6.ext E41
  replace c32_7 := c32_7.ext E41
  replace c32_8 := c32_8.ext E41
  replace c32_9 := c32_9.ext E41
  replace c32_10 := c32_10.ext E41
  replace c32_11 := c32_11.ext E41
  replace c32_12 := c32_12.ext E41
  replace F_received_ob := F_received_ob.ext E41
  replace V_b35 := V_b35.ext E41
  replace F_tieWeighed_ob := F_tieWeighed_ob.ext E41
  replace V_b38 := V_b38.ext E41
  replace F_nextTie_ob := F_nextTie_ob.ext E41
  have V_b41 : Arv Z h41 b41 k41 .int (2 : Int32) [(.int 0), (.int 0)] (.int 0) := (Arv.new A41 (by decide)).pad (pad_rep [] (.int 0) 2)
  refine own_by (T' := T41) (g' := (mkF m 138 (Ls7 ob sa (-1)) [(.ref b41), (.ref ob)])) (fun t k => st41 t k) ?_
  clear st41 X40 e40
  obtain ⟨T42, h42, X42, e42, W42, st42⟩ := putF X41 hx hZ hown (host := "") (Or.inl (hw _ (own_m 46 rfl))) Via.refl e41 F_previousTie_ob E_ob (Or.inr ⟨(hw _ (own_m 47 rfl)), rfl, hnm⟩) (hw _ (own_m 2 rfl)) (ty := (.array .int)) (by decide) rfl rfl (g := (mkF m 138 (Ls7 ob sa (-1)) [(.ref b41), (.ref ob)])) rfl rfl (hb hby d1_138)
  have F_previousTie_ob_ := F_previousTie_ob.same W42
  replace C_ := own_incM (Keep.of_wr W42).1 C_
  replace E_ob := E_ob.wr W42
  replace V_sa := V_sa.other W42 ne_sa_ob
  replace Zle := Nat.le_trans Zle (Keep.of_wr W42).1
  replace K_ := kW K_ W42 0 rfl
  replace F_n_ob := F_n_ob.other W42 (Or.inr (slot_ne (Or.inr (hw _ (own_m 11 rfl))) (Or.inr (hw _ (own_m 47 rfl))) (by decide) (t := .int) (t' := (.array .int)) (by decide) (by decide)))
  replace F_score_ob := F_score_ob.other W42 (Or.inr (slot_ne (Or.inr (hw _ (own_m 13 rfl))) (Or.inr (hw _ (own_m 47 rfl))) (by decide) (t := (.array .double)) (t' := (.array .int)) (by decide) (by decide)))
  replace F_bestFrom_ob := F_bestFrom_ob.other W42 (Or.inr (slot_ne (Or.inr (hw _ (own_m 15 rfl))) (Or.inr (hw _ (own_m 47 rfl))) (by decide) (t := (.array .double)) (t' := (.array .int)) (by decide) (by decide)))
  replace V_b6 := V_b6.other W42 (own_incO C_ lt0_ob (List.mem_of_getElem? (i := 0) rfl)).symm
  replace c28_2 := c28_2.wr W42
  replace c28_3 := c28_3.other W42 (Or.inl (own_incO C_ lt0_ob (List.mem_of_getElem? (i := 1) rfl)).symm)
  replace c28_4 := c28_4.other W42 (Or.inl (own_incO C_ lt0_ob (List.mem_of_getElem? (i := 1) rfl)).symm)
  replace c28_5 := c28_5.other W42 (Or.inl (own_incO C_ lt0_ob (List.mem_of_getElem? (i := 1) rfl)).symm)
  replace c28_6 := c28_6.other W42 (Or.inl (own_incO C_ lt0_ob (List.mem_of_getElem? (i := 1) rfl)).symm)
  replace c28_7 := c28_7.other W42 (Or.inl (own_incO C_ lt0_ob (List.mem_of_getElem? (i := 1) rfl)).symm)
  replace c28_8 := c28_8.other W42 (own_incO C_ lt0_ob (List.mem_of_getElem? (i := 2) rfl)).symm
  replace c28_9 := c28_9.other W42 (own_incO C_ lt0_ob (List.mem_of_getElem? (i := 3) rfl)).symm
  replace c28_10 := c28_10.other W42 (own_incO C_ lt0_ob (List.mem_of_getElem? (i := 4) rfl)).symm
  replace c28_11 := c28_11.other W42 (own_incO C_ lt0_ob (List.mem_of_getElem? (i := 5) rfl)).symm
  replace c28_12 := c28_12.other W42 (own_incO C_ lt0_ob (List.mem_of_getElem? (i := 6) rfl)).symm
  replace F_messages_ob := F_messages_ob.other W42 (Or.inr (slot_ne (Or.inl (hw _ (own_m 39 rfl))) (Or.inr (hw _ (own_m 47 rfl))) (by decide) (t := (.object "com/example/firebreak/firebreak/strategies/CountFactor$Messages")) (t' := (.array .int)) (by decide) (by decide)))
  replace c32_2 := c32_2.wr W42
  replace c32_3 := c32_3.other W42 (Or.inl (own_incO C_ lt0_ob (List.mem_of_getElem? (i := 7) rfl)).symm)
  replace c32_4 := c32_4.other W42 (Or.inl (own_incO C_ lt0_ob (List.mem_of_getElem? (i := 7) rfl)).symm)
  replace c32_5 := c32_5.other W42 (Or.inl (own_incO C_ lt0_ob (List.mem_of_getElem? (i := 7) rfl)).symm)
  replace c32_6 := c32_6.other W42 (Or.inl (own_incO C_ lt0_ob (List.mem_of_getElem? (i := 7) rfl)).symm)
  replace c32_7 := c32_7.other W42 (Or.inl (own_incO C_ lt0_ob (List.mem_of_getElem? (i := 7) rfl)).symm)
  replace c32_8 := c32_8.other W42 (own_incO C_ lt0_ob (List.mem_of_getElem? (i := 8) rfl)).symm
  replace c32_9 := c32_9.other W42 (own_incO C_ lt0_ob (List.mem_of_getElem? (i := 9) rfl)).symm
  replace c32_10 := c32_10.other W42 (own_incO C_ lt0_ob (List.mem_of_getElem? (i := 10) rfl)).symm
  replace c32_11 := c32_11.other W42 (own_incO C_ lt0_ob (List.mem_of_getElem? (i := 11) rfl)).symm
  replace c32_12 := c32_12.other W42 (own_incO C_ lt0_ob (List.mem_of_getElem? (i := 12) rfl)).symm
  replace F_received_ob := F_received_ob.other W42 (Or.inr (slot_ne (Or.inl (hw _ (own_m 41 rfl))) (Or.inr (hw _ (own_m 47 rfl))) (by decide) (t := (.object "com/example/firebreak/firebreak/strategies/CountFactor$Messages")) (t' := (.array .int)) (by decide) (by decide)))
  replace V_b35 := V_b35.other W42 (own_incO C_ lt0_ob (List.mem_of_getElem? (i := 13) rfl)).symm
  replace F_tieWeighed_ob := F_tieWeighed_ob.other W42 (Or.inr (slot_ne (Or.inr (hw _ (own_m 43 rfl))) (Or.inr (hw _ (own_m 47 rfl))) (by decide) (t := (.array .int)) (t' := (.array .int)) (by decide) (by decide)))
  replace V_b38 := V_b38.other W42 (own_incO C_ lt0_ob (List.mem_of_getElem? (i := 14) rfl)).symm
  replace F_nextTie_ob := F_nextTie_ob.other W42 (Or.inr (slot_ne (Or.inr (hw _ (own_m 45 rfl))) (Or.inr (hw _ (own_m 47 rfl))) (by decide) (t := (.array .int)) (t' := (.array .int)) (by decide) (by decide)))
  replace V_b41 := V_b41.other W42 (own_incO C_ lt0_ob (List.mem_of_getElem? (i := 15) rfl)).symm
  replace F_previousTie_ob := F_previousTie_ob_
  clear F_previousTie_ob_ W42
  replace N_ := Fr.snoc X42 N_ g_ob
  refine own_by (T' := T42) (g' := (mkF m 141 (Ls7 ob sa (-1)) [])) (fun t k => st42 t k) ?_
  clear st42 X41 e41
  exact own_retV X42 hx Bd.notSynchronized Bd.returns (hb hby d1_141) (by decide) (by decide) (by rw [e42]; exact ⟨b26, xi_28, xo_28, xs_28, xt_28, xz_28, b30, xi_32, xo_32, xs_32, xt_32, xz_32, _, _, _, _, _, _, _, _, _, _, rfl, N_, K_, own_incT (xs := [b26, xi_28, xo_28, xs_28, xt_28, xz_28, b30, xi_32, xo_32, xs_32, xt_32, xz_32]) (ys := [b35, b38, b41]) (own_incD (x := b6) (r := [b26, xi_28, xo_28, xs_28, xt_28, xz_28, b30, xi_32, xo_32, xs_32, xt_32, xz_32, b35, b38, b41]) C_), E_ob, F_n_ob, F_score_ob, F_messages_ob, F_received_ob, c28_2, c28_3, c28_4, c28_5, c28_6, c28_7, c32_2, c32_3, c32_4, c32_5, c32_6, c32_7, c28_8, c28_9, c28_10, c28_11, c28_12, c32_8, c32_9, c32_10, c32_11, c32_12⟩)

def Q12 (Z : State) (ob : Addr) (ma : Addr) (mb : Addr) (sa : Addr) (h0 : Heap) (n0 : Nat) (v : Option Value) (h : Heap) (L : List Loc) : Prop := v = none ∧ Fr n0 L ∧ Keep h0 h [ob] ∧ Exa Z h ob "com/example/firebreak/firebreak/strategies/CountFactor" ∧ Fld Z h ob "com/example/firebreak/firebreak/strategies/CountFactor" "n" "I" (.int 2) ∧ Fld Z h ob "com/example/firebreak/firebreak/strategies/CountFactor" "score" "[D" (.ref sa) ∧ Fld Z h ob "com/example/firebreak/firebreak/strategies/CountFactor" "messages" "Lcom/example/firebreak/firebreak/strategies/CountFactor$Messages;" (.ref mb) ∧ Fld Z h ob "com/example/firebreak/firebreak/strategies/CountFactor" "received" "Lcom/example/firebreak/firebreak/strategies/CountFactor$Messages;" (.ref ma)
theorem ef_12 (m : MethodId) (ob : Addr) : entryFrame m #[(.ref ob)] 2 = mkF m 0 #[.val (.ref ob), .unset] [] := by first | (simp [entryFrame, mkF, argsToLocals, Value.category]; done) | rfl
theorem d12_0 : decode prog_42_method_3_code 0 = .ok (.aload_n 0, 1) := by decide +kernel
theorem d12_1 : decode prog_42_method_3_code 1 = .ok (.getfield 35, 3) := by decide +kernel
theorem d12_4 : decode prog_42_method_3_code 4 = .ok (.astore_n 1, 1) := by decide +kernel
theorem d12_5 : decode prog_42_method_3_code 5 = .ok (.aload_n 0, 1) := by decide +kernel
theorem d12_6 : decode prog_42_method_3_code 6 = .ok (.aload_n 0, 1) := by decide +kernel
theorem d12_7 : decode prog_42_method_3_code 7 = .ok (.getfield 31, 3) := by decide +kernel
theorem d12_10 : decode prog_42_method_3_code 10 = .ok (.putfield 35, 3) := by decide +kernel
theorem d12_13 : decode prog_42_method_3_code 13 = .ok (.aload_n 0, 1) := by decide +kernel
theorem d12_14 : decode prog_42_method_3_code 14 = .ok (.aload_n 1, 1) := by decide +kernel
theorem d12_15 : decode prog_42_method_3_code 15 = .ok (.putfield 31, 3) := by decide +kernel
theorem d12_18 : decode prog_42_method_3_code 18 = .ok (.return_, 1) := by decide +kernel
set_option maxRecDepth 65536 in
set_option maxHeartbeats 40000000 in
theorem rm12 (l : Launch) (Z : State) (a0 : Array Value) (hw : ∀ d ∈ tables_1, d.before a0 Z = true) (ws : List Jvm.Cond) (ob : Addr) (ma : Addr) (mb : Addr) (sa : Addr) (h0 : Heap) (n0 : Nat) (Zle : n0 ≤ h0.size) (E_ob : Exa Z h0 ob "com/example/firebreak/firebreak/strategies/CountFactor") (g_ob : n0 ≤ ob) (F_n_ob : Fld Z h0 ob "com/example/firebreak/firebreak/strategies/CountFactor" "n" "I" (.int 2)) (F_score_ob : Fld Z h0 ob "com/example/firebreak/firebreak/strategies/CountFactor" "score" "[D" (.ref sa)) (F_messages_ob : Fld Z h0 ob "com/example/firebreak/firebreak/strategies/CountFactor" "messages" "Lcom/example/firebreak/firebreak/strategies/CountFactor$Messages;" (.ref ma)) (F_received_ob : Fld Z h0 ob "com/example/firebreak/firebreak/strategies/CountFactor" "received" "Lcom/example/firebreak/firebreak/strategies/CountFactor$Messages;" (.ref mb)) :
    MetFree l (⟨"com/example/firebreak/firebreak/strategies/CountFactor", "takeReceived", "()V"⟩ : MethodName) (head1 (Jvm.Cond.code (⟨"com/example/firebreak/firebreak/strategies/CountFactor", "takeReceived", "()V"⟩ : MethodName) prog_42_method_3_code 2 none :: ws) ({ frames := 0, cells := 0, slots := 0, locals := 0 } : Room)) (fun a U => a = #[(.ref ob)] ∧ Z.Warmed39 U.vm ∧ U.heap = h0) (fun _ _ _ _ _ => True) (fun _ U o U' => ∃ v L, o = .returned v ∧ Q12 Z ob ma mb sa h0 n0 v U'.heap L ∧ FrameEnd U o U' L ({ frames := 0, cells := 0, slots := 0, locals := 0 } : Room).cells ({ frames := 0, cells := 0, slots := 0, locals := 0 } : Room).slots) := by
  refine MetFree.of_bodySF (plainFor_of_name pn_com_example_firebreak_firebreak_strategies_CountFactor) hisR ?_
  intro p e s m args below meth c s₁ Bd hml0 hP hK
  obtain ⟨rfl, hZ, hh⟩ := hP
  have hx := Bd.exec
  have hby := Bd.bytes
  have hml : c.maxLocals = 2 := hml0
  have hown : s.vm.findClass "com/example/firebreak/firebreak/strategies/CountFactor" = some m.cls := findClass_of_methodNamed Bd.named
  have hnm := (name_of_methodNamed Bd.named Bd.method).1
  have X0 : Stand p l e ({ frames := 0, cells := 0, slots := 0, locals := 0 } : Room) s m #[(.ref ob)] below meth c s₁ [] 0 0 := Stand.of_body Bd
  have e0 : s₁.heap = h0 := by rw [← hh, Bd.state]; rfl
  have N_ := Fr.nil n0
  have K_ := Keep.refl h0 [ob]
  show own_Goes p.tables e below s (Q12 Z ob ma mb sa h0 n0) ({ frames := 0, cells := 0, slots := 0, locals := 0 } : Room).cells ({ frames := 0, cells := 0, slots := 0, locals := 0 } : Room).slots s₁ (entryFrame m #[(.ref ob)] 2)
  refine own_by (T' := s₁) (g' := (mkF m 0 (Ls8 ob) [])) (fun t k => castTop (ef_12 m ob) k) ?_
  refine oAlN 1 X0 hx (hb hby d12_0) rfl rfl ?_
  refine oF 4 X0 hx hZ hown (host := "") (Or.inl (hw _ (own_m 40 rfl))) Via.refl e0 F_received_ob (hb hby d12_1) rfl fun T1 X1 e1 => ?_
  clear X0 e0
  refine oAstN 5 X1 hx (hb hby d12_4) (Ls9 ob mb) rfl rfl ?_
  refine oAlN 6 X1 hx (hb hby d12_5) rfl rfl ?_
  refine oAlN 7 X1 hx (hb hby d12_6) rfl rfl ?_
  refine oF 10 X1 hx hZ hown (host := "") (Or.inl (hw _ (own_m 38 rfl))) Via.refl e1 F_messages_ob (hb hby d12_7) rfl fun T2 X2 e2 => ?_
  clear X1 e1
  obtain ⟨T3, h3, X3, e3, W3, st3⟩ := putF X2 hx hZ hown (host := "") (Or.inl (hw _ (own_m 40 rfl))) Via.refl e2 F_received_ob E_ob (Or.inl (hw _ (own_m 41 rfl))) (hw _ (own_m 2 rfl)) (ty := (.object "com/example/firebreak/firebreak/strategies/CountFactor$Messages")) (by decide) rfl rfl (g := (mkF m 10 (Ls9 ob mb) [(.ref ma), (.ref ob)])) rfl rfl (hb hby d12_10)
  have F_received_ob_ := F_received_ob.same W3
  replace E_ob := E_ob.wr W3
  replace F_n_ob := F_n_ob.other W3 (Or.inr (slot_ne (Or.inr (hw _ (own_m 11 rfl))) (Or.inl (hw _ (own_m 41 rfl))) (by decide) (t := .int) (t' := (.object "com/example/firebreak/firebreak/strategies/CountFactor$Messages")) (by decide) (by decide)))
  replace F_score_ob := F_score_ob.other W3 (Or.inr (slot_ne (Or.inr (hw _ (own_m 13 rfl))) (Or.inl (hw _ (own_m 41 rfl))) (by decide) (t := (.array .double)) (t' := (.object "com/example/firebreak/firebreak/strategies/CountFactor$Messages")) (by decide) (by decide)))
  replace F_messages_ob := F_messages_ob.other W3 (Or.inr (slot_ne (Or.inl (hw _ (own_m 39 rfl))) (Or.inl (hw _ (own_m 41 rfl))) (by decide) (t := (.object "com/example/firebreak/firebreak/strategies/CountFactor$Messages")) (t' := (.object "com/example/firebreak/firebreak/strategies/CountFactor$Messages")) (by decide) (by decide)))
  replace Zle := Nat.le_trans Zle (Keep.of_wr W3).1
  replace K_ := kW K_ W3 0 rfl
  replace F_received_ob := F_received_ob_
  clear F_received_ob_ W3
  replace N_ := Fr.snoc X3 N_ g_ob
  refine own_by (T' := T3) (g' := (mkF m 13 (Ls9 ob mb) [])) (fun t k => st3 t k) ?_
  clear st3 X2 e2
  refine oAlN 14 X3 hx (hb hby d12_13) rfl rfl ?_
  refine oAlN 15 X3 hx (hb hby d12_14) rfl rfl ?_
  obtain ⟨T4, h4, X4, e4, W4, st4⟩ := putF X3 hx hZ hown (host := "") (Or.inl (hw _ (own_m 38 rfl))) Via.refl e3 F_messages_ob E_ob (Or.inl (hw _ (own_m 39 rfl))) (hw _ (own_m 2 rfl)) (ty := (.object "com/example/firebreak/firebreak/strategies/CountFactor$Messages")) (by decide) rfl rfl (g := (mkF m 15 (Ls9 ob mb) [(.ref mb), (.ref ob)])) rfl rfl (hb hby d12_15)
  have F_messages_ob_ := F_messages_ob.same W4
  replace E_ob := E_ob.wr W4
  replace F_n_ob := F_n_ob.other W4 (Or.inr (slot_ne (Or.inr (hw _ (own_m 11 rfl))) (Or.inl (hw _ (own_m 39 rfl))) (by decide) (t := .int) (t' := (.object "com/example/firebreak/firebreak/strategies/CountFactor$Messages")) (by decide) (by decide)))
  replace F_score_ob := F_score_ob.other W4 (Or.inr (slot_ne (Or.inr (hw _ (own_m 13 rfl))) (Or.inl (hw _ (own_m 39 rfl))) (by decide) (t := (.array .double)) (t' := (.object "com/example/firebreak/firebreak/strategies/CountFactor$Messages")) (by decide) (by decide)))
  replace Zle := Nat.le_trans Zle (Keep.of_wr W4).1
  replace K_ := kW K_ W4 0 rfl
  replace F_received_ob := F_received_ob.other W4 (Or.inr (slot_ne (Or.inl (hw _ (own_m 41 rfl))) (Or.inl (hw _ (own_m 39 rfl))) (by decide) (t := (.object "com/example/firebreak/firebreak/strategies/CountFactor$Messages")) (t' := (.object "com/example/firebreak/firebreak/strategies/CountFactor$Messages")) (by decide) (by decide)))
  replace F_messages_ob := F_messages_ob_
  clear F_messages_ob_ W4
  replace N_ := Fr.snoc X4 N_ g_ob
  refine own_by (T' := T4) (g' := (mkF m 18 (Ls9 ob mb) [])) (fun t k => st4 t k) ?_
  clear st4 X3 e3
  exact own_retV X4 hx Bd.notSynchronized Bd.returns (hb hby d12_18) (by decide) (by decide) (by rw [e4]; exact ⟨rfl, N_, K_, E_ob, F_n_ob, F_score_ob, F_messages_ob, F_received_ob⟩)

def Q13 (Z : State) (ii : Int32) (jj : Int32) (h0 : Heap) (n0 : Nat) (v : Option Value) (h : Heap) (L : List Loc) : Prop := v = some (.int (own_min ii jj)) ∧ Fr n0 L ∧ h = h0
theorem ef_13 (m : MethodId) (ii : Int32) (jj : Int32) : entryFrame m #[(.int ii), (.int jj)] 2 = mkF m 0 #[.val (.int ii), .val (.int jj)] [] := by first | (simp [entryFrame, mkF, argsToLocals, Value.category]; done) | rfl
theorem d13_0 : decode jdk_29_method_69_code 0 = .ok (.iload_n 0, 1) := by decide +kernel
theorem d13_1 : decode jdk_29_method_69_code 1 = .ok (.iload_n 1, 1) := by decide +kernel
theorem d13_2 : decode jdk_29_method_69_code 2 = .ok (.if_icmp .gt 7, 3) := by decide +kernel
theorem d13_9 : decode jdk_29_method_69_code 9 = .ok (.iload_n 1, 1) := by decide +kernel
theorem d13_10 : decode jdk_29_method_69_code 10 = .ok (.ireturn, 1) := by decide +kernel
theorem d13_5 : decode jdk_29_method_69_code 5 = .ok (.iload_n 0, 1) := by decide +kernel
theorem d13_6 : decode jdk_29_method_69_code 6 = .ok (.goto 4, 3) := by decide +kernel
set_option maxRecDepth 65536 in
set_option maxHeartbeats 40000000 in
theorem rm13 (l : Launch) (Z : State) (a0 : Array Value) (hw : ∀ d ∈ tables_1, d.before a0 Z = true) (ws : List Jvm.Cond) (ii : Int32) (jj : Int32) (h0 : Heap) (n0 : Nat) (Zle : n0 ≤ h0.size) :
    MetFree l (⟨"java/lang/Math", "min", "(II)I"⟩ : MethodName) (head1 (Jvm.Cond.code (⟨"java/lang/Math", "min", "(II)I"⟩ : MethodName) jdk_29_method_69_code 2 (some .int) :: ws) ({ frames := 0, cells := 0, slots := 0, locals := 0 } : Room)) (fun a U => a = #[(.int ii), (.int jj)] ∧ Z.Warmed39 U.vm ∧ U.heap = h0) (fun _ _ _ _ _ => True) (fun _ U o U' => ∃ v L, o = .returned v ∧ Q13 Z ii jj h0 n0 v U'.heap L ∧ FrameEnd U o U' L ({ frames := 0, cells := 0, slots := 0, locals := 0 } : Room).cells ({ frames := 0, cells := 0, slots := 0, locals := 0 } : Room).slots) := by
  refine MetFree.of_bodySF (Jvm.Free.JP.mathPlain rfl (by decide +kernel)) hisR ?_
  intro p e s m args below meth c s₁ Bd hml0 hP hK
  obtain ⟨rfl, hZ, hh⟩ := hP
  have hx := Bd.exec
  have hby := Bd.bytes
  have hml : c.maxLocals = 2 := hml0
  have hown : s.vm.findClass "java/lang/Math" = some m.cls := findClass_of_methodNamed Bd.named
  have hnm := (name_of_methodNamed Bd.named Bd.method).1
  have X0 : Stand p l e ({ frames := 0, cells := 0, slots := 0, locals := 0 } : Room) s m #[(.int ii), (.int jj)] below meth c s₁ [] 0 0 := Stand.of_body Bd
  have e0 : s₁.heap = h0 := by rw [← hh, Bd.state]; rfl
  have N_ := Fr.nil n0
  show own_Goes p.tables e below s (Q13 Z ii jj h0 n0) ({ frames := 0, cells := 0, slots := 0, locals := 0 } : Room).cells ({ frames := 0, cells := 0, slots := 0, locals := 0 } : Room).slots s₁ (entryFrame m #[(.int ii), (.int jj)] 2)
  refine own_by (T' := s₁) (g' := (mkF m 0 (Ls10 ii jj) [])) (fun t k => castTop (ef_13 m ii jj) k) ?_
  refine oIlN 1 X0 hx (hb hby d13_0) rfl rfl ?_
  refine oIlN 2 X0 hx (hb hby d13_1) rfl rfl ?_
  by_cases hc2_1 : jj < ii
  · refine oCy 9 X0 hx (hb hby d13_2) (tlt hc2_1).2.2.1 (by decide) (by decide) ?_
    refine oIlN 10 X0 hx (hb hby d13_9) rfl rfl ?_
    exact own_retI X0 hx Bd.notSynchronized Bd.returns (hb hby d13_10) (by decide) (by decide) (by rw [e0]; exact ⟨by unfold own_min; rw [if_pos hc2_1], N_, rfl⟩)
  · refine oCn 5 X0 hx (hb hby d13_2) (flt hc2_1).2.2.1 rfl ?_
    refine oIlN 6 X0 hx (hb hby d13_5) rfl rfl ?_
    refine oGo 10 X0 hx (hb hby d13_6) (by decide) (by decide) ?_
    exact own_retI X0 hx Bd.notSynchronized Bd.returns (hb hby d13_10) (by decide) (by decide) (by rw [e0]; exact ⟨by unfold own_min; rw [if_neg hc2_1], N_, rfl⟩)

def Q1401 (Z : State) (va : Addr) (fa : Addr) (ta : Addr) (kv : ClassId) (kf : ClassId) (kt : ClassId) (m0_ : Int64) (m1_ : Int64) (t0 : Int32) (t1 : Int32) (h0 : Heap) (n0 : Nat) (v : Option Value) (h : Heap) (L : List Loc) : Prop := v = none ∧ Fr n0 L ∧ Keep h0 h [ta] ∧ Arv Z h ta kt .int (2 : Int32) [(.int 1), (.int 0)] (.int 0)
theorem ef_1401 (m : MethodId) (va : Addr) (fa : Addr) (ta : Addr) : entryFrame m #[(.ref va), (.ref fa), (.ref ta), (.int 0), (.int 1), (.int 2)] 9 = mkF m 0 #[.val (.ref va), .val (.ref fa), .val (.ref ta), .val (.int 0), .val (.int 1), .val (.int 2), .unset, .unset, .unset] [] := by first | (simp [entryFrame, mkF, argsToLocals, Value.category]; done) | rfl
theorem d14_0 : decode prog_42_method_4_code 0 = .ok (.iload_n 3, 1) := by decide +kernel
theorem d14_1 : decode prog_42_method_4_code 1 = .ok (.istore 6, 2) := by decide +kernel
theorem d14_3 : decode prog_42_method_4_code 3 = .ok (.iload 4, 2) := by decide +kernel
theorem d14_5 : decode prog_42_method_4_code 5 = .ok (.istore 7, 2) := by decide +kernel
theorem d14_7 : decode prog_42_method_4_code 7 = .ok (.iload_n 3, 1) := by decide +kernel
theorem d14_8 : decode prog_42_method_4_code 8 = .ok (.istore 8, 2) := by decide +kernel
theorem d14_10 : decode prog_42_method_4_code 10 = .ok (.iload 8, 2) := by decide +kernel
theorem d14_12 : decode prog_42_method_4_code 12 = .ok (.iload 5, 2) := by decide +kernel
theorem d14_14 : decode prog_42_method_4_code 14 = .ok (.if_icmp .ge 64, 3) := by decide +kernel
theorem d14_17 : decode prog_42_method_4_code 17 = .ok (.iload 7, 2) := by decide +kernel
theorem d14_19 : decode prog_42_method_4_code 19 = .ok (.iload 5, 2) := by decide +kernel
theorem d14_21 : decode prog_42_method_4_code 21 = .ok (.if_icmp .eq 26, 3) := by decide +kernel
theorem d14_24 : decode prog_42_method_4_code 24 = .ok (.iload 6, 2) := by decide +kernel
theorem d14_26 : decode prog_42_method_4_code 26 = .ok (.iload 4, 2) := by decide +kernel
theorem d14_28 : decode prog_42_method_4_code 28 = .ok (.if_icmp .ge 33, 3) := by decide +kernel
theorem d14_31 : decode prog_42_method_4_code 31 = .ok (.aload_n 0, 1) := by decide +kernel
theorem d14_32 : decode prog_42_method_4_code 32 = .ok (.aload_n 1, 1) := by decide +kernel
theorem d14_33 : decode prog_42_method_4_code 33 = .ok (.iload 6, 2) := by decide +kernel
theorem d14_35 : decode prog_42_method_4_code 35 = .ok (.iaload, 1) := by decide +kernel
theorem d14_36 : decode prog_42_method_4_code 36 = .ok (.daload, 1) := by decide +kernel
theorem d14_37 : decode prog_42_method_4_code 37 = .ok (.aload_n 0, 1) := by decide +kernel
theorem d14_38 : decode prog_42_method_4_code 38 = .ok (.aload_n 1, 1) := by decide +kernel
theorem d14_39 : decode prog_42_method_4_code 39 = .ok (.iload 7, 2) := by decide +kernel
theorem d14_41 : decode prog_42_method_4_code 41 = .ok (.iaload, 1) := by decide +kernel
theorem d14_42 : decode prog_42_method_4_code 42 = .ok (.daload, 1) := by decide +kernel
theorem d14_43 : decode prog_42_method_4_code 43 = .ok (.dcmp .l, 1) := by decide +kernel
theorem d14_44 : decode prog_42_method_4_code 44 = .ok (.ifCond .lt 17, 3) := by decide +kernel
theorem d14_61 : decode prog_42_method_4_code 61 = .ok (.aload_n 2, 1) := by decide +kernel
theorem d14_62 : decode prog_42_method_4_code 62 = .ok (.iload 8, 2) := by decide +kernel
theorem d14_64 : decode prog_42_method_4_code 64 = .ok (.aload_n 1, 1) := by decide +kernel
theorem d14_65 : decode prog_42_method_4_code 65 = .ok (.iload 7, 2) := by decide +kernel
theorem d14_67 : decode prog_42_method_4_code 67 = .ok (.iinc 7 1, 3) := by decide +kernel
theorem d14_70 : decode prog_42_method_4_code 70 = .ok (.iaload, 1) := by decide +kernel
theorem d14_71 : decode prog_42_method_4_code 71 = .ok (.iastore, 1) := by decide +kernel
theorem d14_72 : decode prog_42_method_4_code 72 = .ok (.iinc 8 1, 3) := by decide +kernel
theorem d14_75 : decode prog_42_method_4_code 75 = .ok (.goto (-65), 3) := by decide +kernel
theorem d14_47 : decode prog_42_method_4_code 47 = .ok (.aload_n 2, 1) := by decide +kernel
theorem d14_48 : decode prog_42_method_4_code 48 = .ok (.iload 8, 2) := by decide +kernel
theorem d14_50 : decode prog_42_method_4_code 50 = .ok (.aload_n 1, 1) := by decide +kernel
theorem d14_51 : decode prog_42_method_4_code 51 = .ok (.iload 6, 2) := by decide +kernel
theorem d14_53 : decode prog_42_method_4_code 53 = .ok (.iinc 6 1, 3) := by decide +kernel
theorem d14_56 : decode prog_42_method_4_code 56 = .ok (.iaload, 1) := by decide +kernel
theorem d14_57 : decode prog_42_method_4_code 57 = .ok (.iastore, 1) := by decide +kernel
theorem d14_58 : decode prog_42_method_4_code 58 = .ok (.goto 14, 3) := by decide +kernel
theorem d14_78 : decode prog_42_method_4_code 78 = .ok (.return_, 1) := by decide +kernel
set_option maxRecDepth 65536 in
set_option maxHeartbeats 40000000 in
theorem rm1401 (l : Launch) (Z : State) (a0 : Array Value) (hw : ∀ d ∈ tables_1, d.before a0 Z = true) (ws : List Jvm.Cond) (va : Addr) (fa : Addr) (ta : Addr) (kv : ClassId) (kf : ClassId) (kt : ClassId) (m0_ : Int64) (m1_ : Int64) (t0 : Int32) (t1 : Int32) (h0 : Heap) (n0 : Nat) (Zle : n0 ≤ h0.size) (V_va : Arv Z h0 va kv .double (2 : Int32) [(.double (FP.l2d m0_)), (.double (FP.l2d m1_))] (.double (FP.l2d 0))) (V_fa : Arv Z h0 fa kf .int (2 : Int32) [(.int 0), (.int 1)] (.int 0)) (V_ta : Arv Z h0 ta kt .int (2 : Int32) [(.int t0), (.int t1)] (.int 0)) (g_ta : n0 ≤ ta) (ne_va_ta : va ≠ ta) (ne_fa_ta : fa ≠ ta) (bm0 : own_bd 63 m0_) (bm1 : own_bd 63 m1_) (hlt : m0_ < m1_) :
    MetFree l (⟨"com/example/firebreak/firebreak/strategies/CountFactor", "merge", "([D[I[IIII)V"⟩ : MethodName) (head1 (Jvm.Cond.code (⟨"com/example/firebreak/firebreak/strategies/CountFactor", "merge", "([D[I[IIII)V"⟩ : MethodName) prog_42_method_4_code 9 none :: ws) ({ frames := 0, cells := 0, slots := 0, locals := 0 } : Room)) (fun a U => a = #[(.ref va), (.ref fa), (.ref ta), (.int 0), (.int 1), (.int 2)] ∧ Z.Warmed39 U.vm ∧ U.heap = h0) (fun _ _ _ _ _ => True) (fun _ U o U' => ∃ v L, o = .returned v ∧ Q1401 Z va fa ta kv kf kt m0_ m1_ t0 t1 h0 n0 v U'.heap L ∧ FrameEnd U o U' L ({ frames := 0, cells := 0, slots := 0, locals := 0 } : Room).cells ({ frames := 0, cells := 0, slots := 0, locals := 0 } : Room).slots) := by
  refine MetFree.of_bodySF (plainFor_of_name pn_com_example_firebreak_firebreak_strategies_CountFactor) hisR ?_
  intro p e s m args below meth c s₁ Bd hml0 hP hK
  obtain ⟨rfl, hZ, hh⟩ := hP
  have hx := Bd.exec
  have hby := Bd.bytes
  have hml : c.maxLocals = 9 := hml0
  have hown : s.vm.findClass "com/example/firebreak/firebreak/strategies/CountFactor" = some m.cls := findClass_of_methodNamed Bd.named
  have hnm := (name_of_methodNamed Bd.named Bd.method).1
  have X0 : Stand p l e ({ frames := 0, cells := 0, slots := 0, locals := 0 } : Room) s m #[(.ref va), (.ref fa), (.ref ta), (.int 0), (.int 1), (.int 2)] below meth c s₁ [] 0 0 := Stand.of_body Bd
  have e0 : s₁.heap = h0 := by rw [← hh, Bd.state]; rfl
  have N_ := Fr.nil n0
  have K_ := Keep.refl h0 [ta]
  show own_Goes p.tables e below s (Q1401 Z va fa ta kv kf kt m0_ m1_ t0 t1 h0 n0) ({ frames := 0, cells := 0, slots := 0, locals := 0 } : Room).cells ({ frames := 0, cells := 0, slots := 0, locals := 0 } : Room).slots s₁ (entryFrame m #[(.ref va), (.ref fa), (.ref ta), (.int 0), (.int 1), (.int 2)] 9)
  refine own_by (T' := s₁) (g' := (mkF m 0 (Ls11 va fa ta 0 1 2) [])) (fun t k => castTop (ef_1401 m va fa ta) k) ?_
  have nin_va : va ∉ [ta] := (ninS ne_va_ta nin0)
  have nin_fa : fa ∉ [ta] := (ninS ne_fa_ta nin0)
  refine oIlN 1 X0 hx (hb hby d14_0) rfl rfl ?_
  refine oIst 3 X0 hx (hb hby d14_1) (Ls12 va fa ta 0 1 2 0) rfl rfl ?_
  refine oIl 5 X0 hx (hb hby d14_3) rfl rfl ?_
  refine oIst 7 X0 hx (hb hby d14_5) (Ls13 va fa ta 0 1 2 0 1) rfl rfl ?_
  refine oIlN 8 X0 hx (hb hby d14_7) rfl rfl ?_
  refine oIst 10 X0 hx (hb hby d14_8) (Ls14 va fa ta 0 1 2 0 1 0) rfl rfl ?_
  refine oIl 12 X0 hx (hb hby d14_10) rfl rfl ?_
  refine oIl 14 X0 hx (hb hby d14_12) rfl rfl ?_
  refine oCn 17 X0 hx (hb hby d14_14) (tlt (by decide)).2.1 rfl ?_
  refine oIl 19 X0 hx (hb hby d14_17) rfl rfl ?_
  refine oIl 21 X0 hx (hb hby d14_19) rfl rfl ?_
  refine oCn 24 X0 hx (hb hby d14_21) (feq (by decide)).1 rfl ?_
  refine oIl 26 X0 hx (hb hby d14_24) rfl rfl ?_
  refine oIl 28 X0 hx (hb hby d14_26) rfl rfl ?_
  refine oCn 31 X0 hx (hb hby d14_28) (tlt (by decide)).2.1 rfl ?_
  refine oAlN 32 X0 hx (hb hby d14_31) rfl rfl ?_
  refine oAlN 33 X0 hx (hb hby d14_32) rfl rfl ?_
  refine oIl 35 X0 hx (hb hby d14_33) rfl rfl ?_
  refine oIa 36 X0 hx hZ e0 (V_fa.keep K_ nin_fa) (.int 0) (hb hby d14_35) (by decide) rfl rfl ?_
  refine oDa 37 X0 hx hZ e0 (V_va.keep K_ nin_va) (.double (FP.l2d m0_)) (hb hby d14_36) (by decide) rfl rfl ?_
  refine oAlN 38 X0 hx (hb hby d14_37) rfl rfl ?_
  refine oAlN 39 X0 hx (hb hby d14_38) rfl rfl ?_
  refine oIl 41 X0 hx (hb hby d14_39) rfl rfl ?_
  refine oIa 42 X0 hx hZ e0 (V_fa.keep K_ nin_fa) (.int 1) (hb hby d14_41) (by decide) rfl rfl ?_
  refine oDa 43 X0 hx hZ e0 (V_va.keep K_ nin_va) (.double (FP.l2d m1_)) (hb hby d14_42) (by decide) rfl rfl ?_
  refine own_by (g' := (mkF m 44 (Ls14 va fa ta 0 1 2 0 1 0) [(.int (lcmpW m0_ m1_))])) (fun t k => XS.dcmpS X0.here hx rfl (hb hby d14_43) rfl (dcmpV_w (own_b53 bm0) (own_b53 bm1) _) k) ?_
  refine oFy 61 X0 hx (hb hby d14_44) ((if0 _ _).trans (tlt ((lw_lt _ _).mpr hlt)).1) (by decide) (by decide) ?_
  refine oAlN 62 X0 hx (hb hby d14_61) rfl rfl ?_
  refine oIl 64 X0 hx (hb hby d14_62) rfl rfl ?_
  refine oAlN 65 X0 hx (hb hby d14_64) rfl rfl ?_
  refine oIl 67 X0 hx (hb hby d14_65) rfl rfl ?_
  refine oInc 70 X0 hx (hb hby d14_67) (Ls14 va fa ta 0 1 2 0 2 0) rfl rfl rfl ?_
  refine oIa 71 X0 hx hZ e0 (V_fa.keep K_ nin_fa) (.int 1) (hb hby d14_70) (by decide) rfl rfl ?_
  refine oIs 72 X0 hx hZ e0 V_ta 0 [(.int 1), (.int t1)] (hb hby d14_71) (by decide) rfl (Nat.le_of_ble_eq_true rfl) rfl rfl fun T6 h6 X6 e6 W6 V_ta_ => ?_
  replace K_ := kW K_ W6 0 rfl
  replace V_ta := V_ta_
  clear V_ta_ W6
  replace N_ := Fr.snoc X6 N_ g_ta
  clear X0 e0
  refine oInc 75 X6 hx (hb hby d14_72) (Ls14 va fa ta 0 1 2 0 2 1) rfl rfl rfl ?_
  refine oGo 10 X6 hx (hb hby d14_75) (by decide) (by decide) ?_
  refine oIl 12 X6 hx (hb hby d14_10) rfl rfl ?_
  refine oIl 14 X6 hx (hb hby d14_12) rfl rfl ?_
  refine oCn 17 X6 hx (hb hby d14_14) (tlt (by decide)).2.1 rfl ?_
  refine oIl 19 X6 hx (hb hby d14_17) rfl rfl ?_
  refine oIl 21 X6 hx (hb hby d14_19) rfl rfl ?_
  refine oCy 47 X6 hx (hb hby d14_21) (teq (by decide)).1 (by decide) (by decide) ?_
  refine oAlN 48 X6 hx (hb hby d14_47) rfl rfl ?_
  refine oIl 50 X6 hx (hb hby d14_48) rfl rfl ?_
  refine oAlN 51 X6 hx (hb hby d14_50) rfl rfl ?_
  refine oIl 53 X6 hx (hb hby d14_51) rfl rfl ?_
  refine oInc 56 X6 hx (hb hby d14_53) (Ls14 va fa ta 0 1 2 1 2 1) rfl rfl rfl ?_
  refine oIa 57 X6 hx hZ e6 (V_fa.keep K_ nin_fa) (.int 0) (hb hby d14_56) (by decide) rfl rfl ?_
  refine oIs 58 X6 hx hZ e6 V_ta 1 [(.int 1), (.int 0)] (hb hby d14_57) (by decide) rfl (Nat.le_of_ble_eq_true rfl) rfl rfl fun T8 h8 X8 e8 W8 V_ta_ => ?_
  replace K_ := kW K_ W8 0 rfl
  replace V_ta := V_ta_
  clear V_ta_ W8
  replace N_ := Fr.snoc X8 N_ g_ta
  clear X6 e6
  refine oGo 72 X8 hx (hb hby d14_58) (by decide) (by decide) ?_
  refine oInc 75 X8 hx (hb hby d14_72) (Ls14 va fa ta 0 1 2 1 2 2) rfl rfl rfl ?_
  refine oGo 10 X8 hx (hb hby d14_75) (by decide) (by decide) ?_
  refine oIl 12 X8 hx (hb hby d14_10) rfl rfl ?_
  refine oIl 14 X8 hx (hb hby d14_12) rfl rfl ?_
  refine oCy 78 X8 hx (hb hby d14_14) (flt (by decide)).2.1 (by decide) (by decide) ?_
  exact own_retV X8 hx Bd.notSynchronized Bd.returns (hb hby d14_78) (by decide) (by decide) (by rw [e8]; exact ⟨rfl, N_, K_, V_ta⟩)

def Q1410 (Z : State) (va : Addr) (fa : Addr) (ta : Addr) (kv : ClassId) (kf : ClassId) (kt : ClassId) (m0_ : Int64) (m1_ : Int64) (t0 : Int32) (t1 : Int32) (h0 : Heap) (n0 : Nat) (v : Option Value) (h : Heap) (L : List Loc) : Prop := v = none ∧ Fr n0 L ∧ Keep h0 h [ta] ∧ Arv Z h ta kt .int (2 : Int32) [(.int 0), (.int 1)] (.int 0)
theorem ef_1410 (m : MethodId) (va : Addr) (fa : Addr) (ta : Addr) : entryFrame m #[(.ref va), (.ref fa), (.ref ta), (.int 0), (.int 1), (.int 2)] 9 = mkF m 0 #[.val (.ref va), .val (.ref fa), .val (.ref ta), .val (.int 0), .val (.int 1), .val (.int 2), .unset, .unset, .unset] [] := by first | (simp [entryFrame, mkF, argsToLocals, Value.category]; done) | rfl
set_option maxRecDepth 65536 in
set_option maxHeartbeats 40000000 in
theorem rm1410 (l : Launch) (Z : State) (a0 : Array Value) (hw : ∀ d ∈ tables_1, d.before a0 Z = true) (ws : List Jvm.Cond) (va : Addr) (fa : Addr) (ta : Addr) (kv : ClassId) (kf : ClassId) (kt : ClassId) (m0_ : Int64) (m1_ : Int64) (t0 : Int32) (t1 : Int32) (h0 : Heap) (n0 : Nat) (Zle : n0 ≤ h0.size) (V_va : Arv Z h0 va kv .double (2 : Int32) [(.double (FP.l2d m0_)), (.double (FP.l2d m1_))] (.double (FP.l2d 0))) (V_fa : Arv Z h0 fa kf .int (2 : Int32) [(.int 1), (.int 0)] (.int 0)) (V_ta : Arv Z h0 ta kt .int (2 : Int32) [(.int t0), (.int t1)] (.int 0)) (g_ta : n0 ≤ ta) (ne_va_ta : va ≠ ta) (ne_fa_ta : fa ≠ ta) (bm0 : own_bd 63 m0_) (bm1 : own_bd 63 m1_) (hlt : m1_ < m0_) :
    MetFree l (⟨"com/example/firebreak/firebreak/strategies/CountFactor", "merge", "([D[I[IIII)V"⟩ : MethodName) (head1 (Jvm.Cond.code (⟨"com/example/firebreak/firebreak/strategies/CountFactor", "merge", "([D[I[IIII)V"⟩ : MethodName) prog_42_method_4_code 9 none :: ws) ({ frames := 0, cells := 0, slots := 0, locals := 0 } : Room)) (fun a U => a = #[(.ref va), (.ref fa), (.ref ta), (.int 0), (.int 1), (.int 2)] ∧ Z.Warmed39 U.vm ∧ U.heap = h0) (fun _ _ _ _ _ => True) (fun _ U o U' => ∃ v L, o = .returned v ∧ Q1410 Z va fa ta kv kf kt m0_ m1_ t0 t1 h0 n0 v U'.heap L ∧ FrameEnd U o U' L ({ frames := 0, cells := 0, slots := 0, locals := 0 } : Room).cells ({ frames := 0, cells := 0, slots := 0, locals := 0 } : Room).slots) := by
  refine MetFree.of_bodySF (plainFor_of_name pn_com_example_firebreak_firebreak_strategies_CountFactor) hisR ?_
  intro p e s m args below meth c s₁ Bd hml0 hP hK
  obtain ⟨rfl, hZ, hh⟩ := hP
  have hx := Bd.exec
  have hby := Bd.bytes
  have hml : c.maxLocals = 9 := hml0
  have hown : s.vm.findClass "com/example/firebreak/firebreak/strategies/CountFactor" = some m.cls := findClass_of_methodNamed Bd.named
  have hnm := (name_of_methodNamed Bd.named Bd.method).1
  have X0 : Stand p l e ({ frames := 0, cells := 0, slots := 0, locals := 0 } : Room) s m #[(.ref va), (.ref fa), (.ref ta), (.int 0), (.int 1), (.int 2)] below meth c s₁ [] 0 0 := Stand.of_body Bd
  have e0 : s₁.heap = h0 := by rw [← hh, Bd.state]; rfl
  have N_ := Fr.nil n0
  have K_ := Keep.refl h0 [ta]
  show own_Goes p.tables e below s (Q1410 Z va fa ta kv kf kt m0_ m1_ t0 t1 h0 n0) ({ frames := 0, cells := 0, slots := 0, locals := 0 } : Room).cells ({ frames := 0, cells := 0, slots := 0, locals := 0 } : Room).slots s₁ (entryFrame m #[(.ref va), (.ref fa), (.ref ta), (.int 0), (.int 1), (.int 2)] 9)
  refine own_by (T' := s₁) (g' := (mkF m 0 (Ls11 va fa ta 0 1 2) [])) (fun t k => castTop (ef_1410 m va fa ta) k) ?_
  have nin_va : va ∉ [ta] := (ninS ne_va_ta nin0)
  have nin_fa : fa ∉ [ta] := (ninS ne_fa_ta nin0)
  refine oIlN 1 X0 hx (hb hby d14_0) rfl rfl ?_
  refine oIst 3 X0 hx (hb hby d14_1) (Ls12 va fa ta 0 1 2 0) rfl rfl ?_
  refine oIl 5 X0 hx (hb hby d14_3) rfl rfl ?_
  refine oIst 7 X0 hx (hb hby d14_5) (Ls13 va fa ta 0 1 2 0 1) rfl rfl ?_
  refine oIlN 8 X0 hx (hb hby d14_7) rfl rfl ?_
  refine oIst 10 X0 hx (hb hby d14_8) (Ls14 va fa ta 0 1 2 0 1 0) rfl rfl ?_
  refine oIl 12 X0 hx (hb hby d14_10) rfl rfl ?_
  refine oIl 14 X0 hx (hb hby d14_12) rfl rfl ?_
  refine oCn 17 X0 hx (hb hby d14_14) (tlt (by decide)).2.1 rfl ?_
  refine oIl 19 X0 hx (hb hby d14_17) rfl rfl ?_
  refine oIl 21 X0 hx (hb hby d14_19) rfl rfl ?_
  refine oCn 24 X0 hx (hb hby d14_21) (feq (by decide)).1 rfl ?_
  refine oIl 26 X0 hx (hb hby d14_24) rfl rfl ?_
  refine oIl 28 X0 hx (hb hby d14_26) rfl rfl ?_
  refine oCn 31 X0 hx (hb hby d14_28) (tlt (by decide)).2.1 rfl ?_
  refine oAlN 32 X0 hx (hb hby d14_31) rfl rfl ?_
  refine oAlN 33 X0 hx (hb hby d14_32) rfl rfl ?_
  refine oIl 35 X0 hx (hb hby d14_33) rfl rfl ?_
  refine oIa 36 X0 hx hZ e0 (V_fa.keep K_ nin_fa) (.int 1) (hb hby d14_35) (by decide) rfl rfl ?_
  refine oDa 37 X0 hx hZ e0 (V_va.keep K_ nin_va) (.double (FP.l2d m1_)) (hb hby d14_36) (by decide) rfl rfl ?_
  refine oAlN 38 X0 hx (hb hby d14_37) rfl rfl ?_
  refine oAlN 39 X0 hx (hb hby d14_38) rfl rfl ?_
  refine oIl 41 X0 hx (hb hby d14_39) rfl rfl ?_
  refine oIa 42 X0 hx hZ e0 (V_fa.keep K_ nin_fa) (.int 0) (hb hby d14_41) (by decide) rfl rfl ?_
  refine oDa 43 X0 hx hZ e0 (V_va.keep K_ nin_va) (.double (FP.l2d m0_)) (hb hby d14_42) (by decide) rfl rfl ?_
  refine own_by (g' := (mkF m 44 (Ls14 va fa ta 0 1 2 0 1 0) [(.int (lcmpW m1_ m0_))])) (fun t k => XS.dcmpS X0.here hx rfl (hb hby d14_43) rfl (dcmpV_w (own_b53 bm1) (own_b53 bm0) _) k) ?_
  refine oFy 61 X0 hx (hb hby d14_44) ((if0 _ _).trans (tlt ((lw_lt _ _).mpr hlt)).1) (by decide) (by decide) ?_
  refine oAlN 62 X0 hx (hb hby d14_61) rfl rfl ?_
  refine oIl 64 X0 hx (hb hby d14_62) rfl rfl ?_
  refine oAlN 65 X0 hx (hb hby d14_64) rfl rfl ?_
  refine oIl 67 X0 hx (hb hby d14_65) rfl rfl ?_
  refine oInc 70 X0 hx (hb hby d14_67) (Ls14 va fa ta 0 1 2 0 2 0) rfl rfl rfl ?_
  refine oIa 71 X0 hx hZ e0 (V_fa.keep K_ nin_fa) (.int 0) (hb hby d14_70) (by decide) rfl rfl ?_
  refine oIs 72 X0 hx hZ e0 V_ta 0 [(.int 0), (.int t1)] (hb hby d14_71) (by decide) rfl (Nat.le_of_ble_eq_true rfl) rfl rfl fun T6 h6 X6 e6 W6 V_ta_ => ?_
  replace K_ := kW K_ W6 0 rfl
  replace V_ta := V_ta_
  clear V_ta_ W6
  replace N_ := Fr.snoc X6 N_ g_ta
  clear X0 e0
  refine oInc 75 X6 hx (hb hby d14_72) (Ls14 va fa ta 0 1 2 0 2 1) rfl rfl rfl ?_
  refine oGo 10 X6 hx (hb hby d14_75) (by decide) (by decide) ?_
  refine oIl 12 X6 hx (hb hby d14_10) rfl rfl ?_
  refine oIl 14 X6 hx (hb hby d14_12) rfl rfl ?_
  refine oCn 17 X6 hx (hb hby d14_14) (tlt (by decide)).2.1 rfl ?_
  refine oIl 19 X6 hx (hb hby d14_17) rfl rfl ?_
  refine oIl 21 X6 hx (hb hby d14_19) rfl rfl ?_
  refine oCy 47 X6 hx (hb hby d14_21) (teq (by decide)).1 (by decide) (by decide) ?_
  refine oAlN 48 X6 hx (hb hby d14_47) rfl rfl ?_
  refine oIl 50 X6 hx (hb hby d14_48) rfl rfl ?_
  refine oAlN 51 X6 hx (hb hby d14_50) rfl rfl ?_
  refine oIl 53 X6 hx (hb hby d14_51) rfl rfl ?_
  refine oInc 56 X6 hx (hb hby d14_53) (Ls14 va fa ta 0 1 2 1 2 1) rfl rfl rfl ?_
  refine oIa 57 X6 hx hZ e6 (V_fa.keep K_ nin_fa) (.int 1) (hb hby d14_56) (by decide) rfl rfl ?_
  refine oIs 58 X6 hx hZ e6 V_ta 1 [(.int 0), (.int 1)] (hb hby d14_57) (by decide) rfl (Nat.le_of_ble_eq_true rfl) rfl rfl fun T8 h8 X8 e8 W8 V_ta_ => ?_
  replace K_ := kW K_ W8 0 rfl
  replace V_ta := V_ta_
  clear V_ta_ W8
  replace N_ := Fr.snoc X8 N_ g_ta
  clear X6 e6
  refine oGo 72 X8 hx (hb hby d14_58) (by decide) (by decide) ?_
  refine oInc 75 X8 hx (hb hby d14_72) (Ls14 va fa ta 0 1 2 1 2 2) rfl rfl rfl ?_
  refine oGo 10 X8 hx (hb hby d14_75) (by decide) (by decide) ?_
  refine oIl 12 X8 hx (hb hby d14_10) rfl rfl ?_
  refine oIl 14 X8 hx (hb hby d14_12) rfl rfl ?_
  refine oCy 78 X8 hx (hb hby d14_14) (flt (by decide)).2.1 (by decide) (by decide) ?_
  exact own_retV X8 hx Bd.notSynchronized Bd.returns (hb hby d14_78) (by decide) (by decide) (by rw [e8]; exact ⟨rfl, N_, K_, V_ta⟩)

def Q6 (Z : State) (ob : Addr) (se : Addr) (sc : Addr) (o0 : Int32) (o1 : Int32) (ma : Addr) (oA : Addr) (mb : Addr) (iB : Addr) (oB : Addr) (sB : Addr) (tB : Addr) (zB : Addr) (rs : Addr) (mg : Addr) (koA : ClassId) (kiB : ClassId) (koB : ClassId) (ksB : ClassId) (ktB : ClassId) (kzB : ClassId) (krs : ClassId) (kmg : ClassId) (kse : ClassId) (m0_ : Int64) (m1_ : Int64) (d0 : UInt64) (d1 : UInt64) (d2 : UInt64) (d3 : UInt64) (j0 : Int32) (j1 : Int32) (j2 : Int32) (j3 : Int32) (j4 : Int32) (j5 : Int32) (j6 : Int32) (j7 : Int32) (j8 : Int32) (j9 : Int32) (j10 : Int32) (h0 : Heap) (n0 : Nat) (v : Option Value) (h : Heap) (L : List Loc) : Prop := ∃ (pp qq z0 z1 : Int32) (v0 v1 : Int64) (t0 t1 r0 r1 r2 g0 g1 : Int32), v = none ∧ Fr n0 L ∧ Keep h0 h [iB, oB, sB, tB, zB, rs, mg] ∧ own_srt m0_ m1_ pp qq z0 z1 v0 v1 ∧ Arv Z h iB kiB .double (2 : Int32) [(.double (FP.l2d m0_)), (.double (FP.l2d m1_))] (.double (FP.l2d 0)) ∧ Arv Z h oB koB .int (2 : Int32) [(.int pp), (.int qq)] (.int 0) ∧ Arv Z h sB ksB .double (2 : Int32) [(.double (FP.l2d v0)), (.double (FP.l2d v1))] (.double (FP.l2d 0)) ∧ Arv Z h tB ktB .int (2 : Int32) [(.int t0), (.int t1)] (.int 0) ∧ Arv Z h zB kzB .int (2 : Int32) [(.int z0), (.int z1)] (.int 0) ∧ Arv Z h rs krs .int (3 : Int32) [(.int r0), (.int r1), (.int r2)] (.int 0) ∧ Arv Z h mg kmg .int (2 : Int32) [(.int g0), (.int g1)] (.int 0)
theorem ef_6 (m : MethodId) (ob : Addr) (se : Addr) (sc : Addr) : entryFrame m #[(.ref ob), (.ref se), (.ref sc)] 13 = mkF m 0 #[.val (.ref ob), .val (.ref se), .val (.ref sc), .unset, .unset, .unset, .unset, .unset, .unset, .unset, .unset, .unset, .unset] [] := by first | (simp [entryFrame, mkF, argsToLocals, Value.category]; done) | rfl
theorem d6_0 : decode prog_42_method_2_code 0 = .ok (.aload_n 0, 1) := by decide +kernel
theorem d6_1 : decode prog_42_method_2_code 1 = .ok (.getfield 35, 3) := by decide +kernel
theorem d6_4 : decode prog_42_method_2_code 4 = .ok (.getfield 48, 3) := by decide +kernel
theorem d6_7 : decode prog_42_method_2_code 7 = .ok (.astore_n 3, 1) := by decide +kernel
theorem d6_8 : decode prog_42_method_2_code 8 = .ok (.aload_n 1, 1) := by decide +kernel
theorem d6_9 : decode prog_42_method_2_code 9 = .ok (.iconst 0, 1) := by decide +kernel
theorem d6_10 : decode prog_42_method_2_code 10 = .ok (.aload_n 3, 1) := by decide +kernel
theorem d6_11 : decode prog_42_method_2_code 11 = .ok (.iconst 0, 1) := by decide +kernel
theorem d6_12 : decode prog_42_method_2_code 12 = .ok (.aload_n 0, 1) := by decide +kernel
theorem d6_13 : decode prog_42_method_2_code 13 = .ok (.getfield 7, 3) := by decide +kernel
theorem d6_16 : decode prog_42_method_2_code 16 = .ok (.invokestatic 51, 3) := by decide +kernel
theorem d6_19 : decode prog_42_method_2_code 19 = .ok (.aload_n 0, 1) := by decide +kernel
theorem d6_20 : decode prog_42_method_2_code 20 = .ok (.getfield 35, 3) := by decide +kernel
theorem d6_23 : decode prog_42_method_2_code 23 = .ok (.getfield 57, 3) := by decide +kernel
theorem d6_26 : decode prog_42_method_2_code 26 = .ok (.astore 4, 2) := by decide +kernel
theorem d6_28 : decode prog_42_method_2_code 28 = .ok (.aload_n 0, 1) := by decide +kernel
theorem d6_29 : decode prog_42_method_2_code 29 = .ok (.getfield 31, 3) := by decide +kernel
theorem d6_32 : decode prog_42_method_2_code 32 = .ok (.getfield 57, 3) := by decide +kernel
theorem d6_35 : decode prog_42_method_2_code 35 = .ok (.iconst 0, 1) := by decide +kernel
theorem d6_36 : decode prog_42_method_2_code 36 = .ok (.aload 4, 2) := by decide +kernel
theorem d6_38 : decode prog_42_method_2_code 38 = .ok (.iconst 0, 1) := by decide +kernel
theorem d6_39 : decode prog_42_method_2_code 39 = .ok (.aload_n 0, 1) := by decide +kernel
theorem d6_40 : decode prog_42_method_2_code 40 = .ok (.getfield 7, 3) := by decide +kernel
theorem d6_43 : decode prog_42_method_2_code 43 = .ok (.invokestatic 51, 3) := by decide +kernel
theorem d6_46 : decode prog_42_method_2_code 46 = .ok (.aload_n 2, 1) := by decide +kernel
theorem d6_47 : decode prog_42_method_2_code 47 = .ok (.getfield 60, 3) := by decide +kernel
theorem d6_50 : decode prog_42_method_2_code 50 = .ok (.astore 5, 2) := by decide +kernel
theorem d6_52 : decode prog_42_method_2_code 52 = .ok (.iconst 0, 1) := by decide +kernel
theorem d6_53 : decode prog_42_method_2_code 53 = .ok (.istore 6, 2) := by decide +kernel
theorem d6_55 : decode prog_42_method_2_code 55 = .ok (.iconst 0, 1) := by decide +kernel
theorem d6_56 : decode prog_42_method_2_code 56 = .ok (.istore 7, 2) := by decide +kernel
theorem d6_58 : decode prog_42_method_2_code 58 = .ok (.iload 7, 2) := by decide +kernel
theorem d6_60 : decode prog_42_method_2_code 60 = .ok (.aload_n 0, 1) := by decide +kernel
theorem d6_61 : decode prog_42_method_2_code 61 = .ok (.getfield 7, 3) := by decide +kernel
theorem d6_64 : decode prog_42_method_2_code 64 = .ok (.if_icmp .ge 44, 3) := by decide +kernel
theorem d6_67 : decode prog_42_method_2_code 67 = .ok (.iload 7, 2) := by decide +kernel
theorem d6_69 : decode prog_42_method_2_code 69 = .ok (.ifCond .eq 23, 3) := by decide +kernel
theorem d6_92 : decode prog_42_method_2_code 92 = .ok (.aload 5, 2) := by decide +kernel
theorem d6_94 : decode prog_42_method_2_code 94 = .ok (.iload 6, 2) := by decide +kernel
theorem d6_96 : decode prog_42_method_2_code 96 = .ok (.iinc 6 1, 3) := by decide +kernel
theorem d6_99 : decode prog_42_method_2_code 99 = .ok (.iload 7, 2) := by decide +kernel
theorem d6_101 : decode prog_42_method_2_code 101 = .ok (.iastore, 1) := by decide +kernel
theorem d6_102 : decode prog_42_method_2_code 102 = .ok (.iinc 7 1, 3) := by decide +kernel
theorem d6_105 : decode prog_42_method_2_code 105 = .ok (.goto (-47), 3) := by decide +kernel
theorem d6_72 : decode prog_42_method_2_code 72 = .ok (.aload_n 3, 1) := by decide +kernel
theorem d6_73 : decode prog_42_method_2_code 73 = .ok (.aload 4, 2) := by decide +kernel
theorem d6_75 : decode prog_42_method_2_code 75 = .ok (.iload 7, 2) := by decide +kernel
theorem d6_77 : decode prog_42_method_2_code 77 = .ok (.iaload, 1) := by decide +kernel
theorem d6_78 : decode prog_42_method_2_code 78 = .ok (.daload, 1) := by decide +kernel
theorem d6_79 : decode prog_42_method_2_code 79 = .ok (.aload_n 3, 1) := by decide +kernel
theorem d6_80 : decode prog_42_method_2_code 80 = .ok (.aload 4, 2) := by decide +kernel
theorem d6_82 : decode prog_42_method_2_code 82 = .ok (.iload 7, 2) := by decide +kernel
theorem d6_84 : decode prog_42_method_2_code 84 = .ok (.iconst 1, 1) := by decide +kernel
theorem d6_85 : decode prog_42_method_2_code 85 = .ok (.isub, 1) := by decide +kernel
theorem d6_86 : decode prog_42_method_2_code 86 = .ok (.iaload, 1) := by decide +kernel
theorem d6_87 : decode prog_42_method_2_code 87 = .ok (.daload, 1) := by decide +kernel
theorem d6_88 : decode prog_42_method_2_code 88 = .ok (.dcmp .l, 1) := by decide +kernel
theorem d6_89 : decode prog_42_method_2_code 89 = .ok (.ifCond .le 13, 3) := by decide +kernel
theorem d6_108 : decode prog_42_method_2_code 108 = .ok (.aload 5, 2) := by decide +kernel
theorem d6_110 : decode prog_42_method_2_code 110 = .ok (.iload 6, 2) := by decide +kernel
theorem d6_112 : decode prog_42_method_2_code 112 = .ok (.aload_n 0, 1) := by decide +kernel
theorem d6_113 : decode prog_42_method_2_code 113 = .ok (.getfield 7, 3) := by decide +kernel
theorem d6_116 : decode prog_42_method_2_code 116 = .ok (.iastore, 1) := by decide +kernel
theorem d6_117 : decode prog_42_method_2_code 117 = .ok (.aload 4, 2) := by decide +kernel
theorem d6_119 : decode prog_42_method_2_code 119 = .ok (.astore 7, 2) := by decide +kernel
theorem d6_121 : decode prog_42_method_2_code 121 = .ok (.aload_n 2, 1) := by decide +kernel
theorem d6_122 : decode prog_42_method_2_code 122 = .ok (.getfield 65, 3) := by decide +kernel
theorem d6_125 : decode prog_42_method_2_code 125 = .ok (.astore 8, 2) := by decide +kernel
theorem d6_127 : decode prog_42_method_2_code 127 = .ok (.iload 6, 2) := by decide +kernel
theorem d6_129 : decode prog_42_method_2_code 129 = .ok (.iconst 1, 1) := by decide +kernel
theorem d6_130 : decode prog_42_method_2_code 130 = .ok (.if_icmp .le 104, 3) := by decide +kernel
theorem d6_133 : decode prog_42_method_2_code 133 = .ok (.iconst 0, 1) := by decide +kernel
theorem d6_134 : decode prog_42_method_2_code 134 = .ok (.istore 9, 2) := by decide +kernel
theorem d6_136 : decode prog_42_method_2_code 136 = .ok (.iconst 0, 1) := by decide +kernel
theorem d6_137 : decode prog_42_method_2_code 137 = .ok (.istore 10, 2) := by decide +kernel
theorem d6_139 : decode prog_42_method_2_code 139 = .ok (.iload 10, 2) := by decide +kernel
theorem d6_141 : decode prog_42_method_2_code 141 = .ok (.iload 6, 2) := by decide +kernel
theorem d6_143 : decode prog_42_method_2_code 143 = .ok (.if_icmp .ge 63, 3) := by decide +kernel
theorem d6_146 : decode prog_42_method_2_code 146 = .ok (.aload 5, 2) := by decide +kernel
theorem d6_148 : decode prog_42_method_2_code 148 = .ok (.iload 10, 2) := by decide +kernel
theorem d6_150 : decode prog_42_method_2_code 150 = .ok (.iconst 1, 1) := by decide +kernel
theorem d6_151 : decode prog_42_method_2_code 151 = .ok (.iadd, 1) := by decide +kernel
theorem d6_152 : decode prog_42_method_2_code 152 = .ok (.iload 6, 2) := by decide +kernel
theorem d6_154 : decode prog_42_method_2_code 154 = .ok (.invokestatic 68, 3) := by decide +kernel
theorem pd_8 : parseMethodDescriptor "(II)I" = some ⟨[.int, .int], some .int⟩ := by decide +kernel
theorem d6_157 : decode prog_42_method_2_code 157 = .ok (.iaload, 1) := by decide +kernel
theorem d6_158 : decode prog_42_method_2_code 158 = .ok (.istore 11, 2) := by decide +kernel
theorem d6_160 : decode prog_42_method_2_code 160 = .ok (.aload_n 3, 1) := by decide +kernel
theorem d6_161 : decode prog_42_method_2_code 161 = .ok (.aload 7, 2) := by decide +kernel
theorem d6_163 : decode prog_42_method_2_code 163 = .ok (.aload 8, 2) := by decide +kernel
theorem d6_165 : decode prog_42_method_2_code 165 = .ok (.aload 5, 2) := by decide +kernel
theorem d6_167 : decode prog_42_method_2_code 167 = .ok (.iload 10, 2) := by decide +kernel
theorem d6_169 : decode prog_42_method_2_code 169 = .ok (.iaload, 1) := by decide +kernel
theorem d6_170 : decode prog_42_method_2_code 170 = .ok (.iload 11, 2) := by decide +kernel
theorem d6_172 : decode prog_42_method_2_code 172 = .ok (.aload 5, 2) := by decide +kernel
theorem d6_174 : decode prog_42_method_2_code 174 = .ok (.iload 10, 2) := by decide +kernel
theorem d6_176 : decode prog_42_method_2_code 176 = .ok (.iconst 2, 1) := by decide +kernel
theorem d6_177 : decode prog_42_method_2_code 177 = .ok (.iadd, 1) := by decide +kernel
theorem d6_178 : decode prog_42_method_2_code 178 = .ok (.iload 6, 2) := by decide +kernel
theorem d6_180 : decode prog_42_method_2_code 180 = .ok (.invokestatic 68, 3) := by decide +kernel
theorem d6_183 : decode prog_42_method_2_code 183 = .ok (.iaload, 1) := by decide +kernel
theorem d6_184 : decode prog_42_method_2_code 184 = .ok (.invokestatic 72, 3) := by decide +kernel
theorem pd_9 : parseMethodDescriptor "([D[I[IIII)V" = some ⟨[(.array .double), (.array .int), (.array .int), .int, .int, .int], none⟩ := by decide +kernel
theorem d6_187 : decode prog_42_method_2_code 187 = .ok (.aload 5, 2) := by decide +kernel
theorem d6_189 : decode prog_42_method_2_code 189 = .ok (.iload 9, 2) := by decide +kernel
theorem d6_191 : decode prog_42_method_2_code 191 = .ok (.iinc 9 1, 3) := by decide +kernel
theorem d6_194 : decode prog_42_method_2_code 194 = .ok (.aload 5, 2) := by decide +kernel
theorem d6_196 : decode prog_42_method_2_code 196 = .ok (.iload 10, 2) := by decide +kernel
theorem d6_198 : decode prog_42_method_2_code 198 = .ok (.iaload, 1) := by decide +kernel
theorem d6_199 : decode prog_42_method_2_code 199 = .ok (.iastore, 1) := by decide +kernel
theorem d6_200 : decode prog_42_method_2_code 200 = .ok (.iinc 10 2, 3) := by decide +kernel
theorem d6_203 : decode prog_42_method_2_code 203 = .ok (.goto (-64), 3) := by decide +kernel
theorem d6_206 : decode prog_42_method_2_code 206 = .ok (.aload 5, 2) := by decide +kernel
theorem d6_208 : decode prog_42_method_2_code 208 = .ok (.iload 9, 2) := by decide +kernel
theorem d6_210 : decode prog_42_method_2_code 210 = .ok (.aload_n 0, 1) := by decide +kernel
theorem d6_211 : decode prog_42_method_2_code 211 = .ok (.getfield 7, 3) := by decide +kernel
theorem d6_214 : decode prog_42_method_2_code 214 = .ok (.iastore, 1) := by decide +kernel
theorem d6_215 : decode prog_42_method_2_code 215 = .ok (.iload 9, 2) := by decide +kernel
theorem d6_217 : decode prog_42_method_2_code 217 = .ok (.istore 6, 2) := by decide +kernel
theorem d6_219 : decode prog_42_method_2_code 219 = .ok (.aload 8, 2) := by decide +kernel
theorem d6_221 : decode prog_42_method_2_code 221 = .ok (.astore 10, 2) := by decide +kernel
theorem d6_223 : decode prog_42_method_2_code 223 = .ok (.aload 7, 2) := by decide +kernel
theorem d6_225 : decode prog_42_method_2_code 225 = .ok (.astore 8, 2) := by decide +kernel
theorem d6_227 : decode prog_42_method_2_code 227 = .ok (.aload 10, 2) := by decide +kernel
theorem d6_229 : decode prog_42_method_2_code 229 = .ok (.astore 7, 2) := by decide +kernel
theorem d6_231 : decode prog_42_method_2_code 231 = .ok (.goto (-104), 3) := by decide +kernel
theorem d6_234 : decode prog_42_method_2_code 234 = .ok (.aload 7, 2) := by decide +kernel
theorem d6_236 : decode prog_42_method_2_code 236 = .ok (.aload 4, 2) := by decide +kernel
theorem d6_238 : decode prog_42_method_2_code 238 = .ok (.if_acmp .eq 16, 3) := by decide +kernel
theorem d6_241 : decode prog_42_method_2_code 241 = .ok (.aload 7, 2) := by decide +kernel
theorem d6_243 : decode prog_42_method_2_code 243 = .ok (.iconst 0, 1) := by decide +kernel
theorem d6_244 : decode prog_42_method_2_code 244 = .ok (.aload 4, 2) := by decide +kernel
theorem d6_246 : decode prog_42_method_2_code 246 = .ok (.iconst 0, 1) := by decide +kernel
theorem d6_247 : decode prog_42_method_2_code 247 = .ok (.aload_n 0, 1) := by decide +kernel
theorem d6_248 : decode prog_42_method_2_code 248 = .ok (.getfield 7, 3) := by decide +kernel
theorem d6_251 : decode prog_42_method_2_code 251 = .ok (.invokestatic 51, 3) := by decide +kernel
theorem d6_254 : decode prog_42_method_2_code 254 = .ok (.iconst 0, 1) := by decide +kernel
theorem d6_255 : decode prog_42_method_2_code 255 = .ok (.istore 9, 2) := by decide +kernel
theorem d6_257 : decode prog_42_method_2_code 257 = .ok (.iconst 0, 1) := by decide +kernel
theorem d6_258 : decode prog_42_method_2_code 258 = .ok (.istore 10, 2) := by decide +kernel
theorem d6_260 : decode prog_42_method_2_code 260 = .ok (.iload 10, 2) := by decide +kernel
theorem d6_262 : decode prog_42_method_2_code 262 = .ok (.aload_n 0, 1) := by decide +kernel
theorem d6_263 : decode prog_42_method_2_code 263 = .ok (.getfield 7, 3) := by decide +kernel
theorem d6_266 : decode prog_42_method_2_code 266 = .ok (.if_icmp .ge 100, 3) := by decide +kernel
theorem d6_269 : decode prog_42_method_2_code 269 = .ok (.aload_n 3, 1) := by decide +kernel
theorem d6_270 : decode prog_42_method_2_code 270 = .ok (.aload_n 0, 1) := by decide +kernel
theorem d6_271 : decode prog_42_method_2_code 271 = .ok (.getfield 35, 3) := by decide +kernel
theorem d6_274 : decode prog_42_method_2_code 274 = .ok (.getfield 57, 3) := by decide +kernel
theorem d6_277 : decode prog_42_method_2_code 277 = .ok (.iload 10, 2) := by decide +kernel
theorem d6_279 : decode prog_42_method_2_code 279 = .ok (.iaload, 1) := by decide +kernel
theorem d6_280 : decode prog_42_method_2_code 280 = .ok (.daload, 1) := by decide +kernel
theorem d6_281 : decode prog_42_method_2_code 281 = .ok (.dstore 11, 2) := by decide +kernel
theorem d6_283 : decode prog_42_method_2_code 283 = .ok (.aload_n 0, 1) := by decide +kernel
theorem d6_284 : decode prog_42_method_2_code 284 = .ok (.getfield 35, 3) := by decide +kernel
theorem d6_287 : decode prog_42_method_2_code 287 = .ok (.getfield 76, 3) := by decide +kernel
theorem d6_290 : decode prog_42_method_2_code 290 = .ok (.iload 10, 2) := by decide +kernel
theorem d6_292 : decode prog_42_method_2_code 292 = .ok (.dload 11, 2) := by decide +kernel
theorem d6_294 : decode prog_42_method_2_code 294 = .ok (.dastore, 1) := by decide +kernel
theorem d6_295 : decode prog_42_method_2_code 295 = .ok (.dload 11, 2) := by decide +kernel
theorem d6_297 : decode prog_42_method_2_code 297 = .ok (.aload_n 0, 1) := by decide +kernel
theorem d6_298 : decode prog_42_method_2_code 298 = .ok (.getfield 35, 3) := by decide +kernel
theorem d6_301 : decode prog_42_method_2_code 301 = .ok (.getfield 76, 3) := by decide +kernel
theorem d6_304 : decode prog_42_method_2_code 304 = .ok (.iload 9, 2) := by decide +kernel
theorem d6_306 : decode prog_42_method_2_code 306 = .ok (.daload, 1) := by decide +kernel
theorem d6_307 : decode prog_42_method_2_code 307 = .ok (.dcmp .l, 1) := by decide +kernel
theorem d6_308 : decode prog_42_method_2_code 308 = .ok (.ifCond .eq 7, 3) := by decide +kernel
theorem d6_315 : decode prog_42_method_2_code 315 = .ok (.aload_n 0, 1) := by decide +kernel
theorem d6_316 : decode prog_42_method_2_code 316 = .ok (.getfield 35, 3) := by decide +kernel
theorem d6_319 : decode prog_42_method_2_code 319 = .ok (.getfield 79, 3) := by decide +kernel
theorem d6_322 : decode prog_42_method_2_code 322 = .ok (.aload_n 0, 1) := by decide +kernel
theorem d6_323 : decode prog_42_method_2_code 323 = .ok (.getfield 35, 3) := by decide +kernel
theorem d6_326 : decode prog_42_method_2_code 326 = .ok (.getfield 57, 3) := by decide +kernel
theorem d6_329 : decode prog_42_method_2_code 329 = .ok (.iload 10, 2) := by decide +kernel
theorem d6_331 : decode prog_42_method_2_code 331 = .ok (.iaload, 1) := by decide +kernel
theorem d6_332 : decode prog_42_method_2_code 332 = .ok (.iload 9, 2) := by decide +kernel
theorem d6_334 : decode prog_42_method_2_code 334 = .ok (.iastore, 1) := by decide +kernel
theorem d6_335 : decode prog_42_method_2_code 335 = .ok (.aload_n 0, 1) := by decide +kernel
theorem d6_336 : decode prog_42_method_2_code 336 = .ok (.getfield 35, 3) := by decide +kernel
theorem d6_339 : decode prog_42_method_2_code 339 = .ok (.getfield 82, 3) := by decide +kernel
theorem d6_342 : decode prog_42_method_2_code 342 = .ok (.iload 10, 2) := by decide +kernel
theorem d6_344 : decode prog_42_method_2_code 344 = .ok (.iconst 0, 1) := by decide +kernel
theorem d6_345 : decode prog_42_method_2_code 345 = .ok (.iastore, 1) := by decide +kernel
theorem d6_346 : decode prog_42_method_2_code 346 = .ok (.aload_n 0, 1) := by decide +kernel
theorem d6_347 : decode prog_42_method_2_code 347 = .ok (.getfield 35, 3) := by decide +kernel
theorem d6_350 : decode prog_42_method_2_code 350 = .ok (.getfield 82, 3) := by decide +kernel
theorem d6_353 : decode prog_42_method_2_code 353 = .ok (.iload 9, 2) := by decide +kernel
theorem d6_355 : decode prog_42_method_2_code 355 = .ok (.dup2, 1) := by decide +kernel
theorem d6_356 : decode prog_42_method_2_code 356 = .ok (.iaload, 1) := by decide +kernel
theorem d6_357 : decode prog_42_method_2_code 357 = .ok (.iconst 1, 1) := by decide +kernel
theorem d6_358 : decode prog_42_method_2_code 358 = .ok (.iadd, 1) := by decide +kernel
theorem d6_359 : decode prog_42_method_2_code 359 = .ok (.iastore, 1) := by decide +kernel
theorem d6_360 : decode prog_42_method_2_code 360 = .ok (.iinc 10 1, 3) := by decide +kernel
theorem d6_363 : decode prog_42_method_2_code 363 = .ok (.goto (-103), 3) := by decide +kernel
theorem d6_311 : decode prog_42_method_2_code 311 = .ok (.iload 10, 2) := by decide +kernel
theorem d6_313 : decode prog_42_method_2_code 313 = .ok (.istore 9, 2) := by decide +kernel
theorem d6_366 : decode prog_42_method_2_code 366 = .ok (.return_, 1) := by decide +kernel
set_option maxRecDepth 65536 in
set_option maxHeartbeats 40000000 in
theorem own_rec01 (l : Launch) (Z : State) (a0 : Array Value) (hw : ∀ d ∈ tables_1, d.before a0 Z = true) {p : Program} {e : Env} {s : State} {m : MethodId} {below : List Frame} {meth : Method} {c : Code} (hx : p.tables.exec = Jvm.exec) (hby : c.code = prog_42_method_2_code) (hml : c.maxLocals = 13) (hlk : meth.locks = false) (hret : meth.sig.returnType = none) (ob : Addr) (se : Addr) (sc : Addr) (o0 : Int32) (o1 : Int32) (ma : Addr) (oA : Addr) (mb : Addr) (iB : Addr) (oB : Addr) (sB : Addr) (tB : Addr) (zB : Addr) (rs : Addr) (mg : Addr) (koA : ClassId) (kiB : ClassId) (koB : ClassId) (ksB : ClassId) (ktB : ClassId) (kzB : ClassId) (krs : ClassId) (kmg : ClassId) (kse : ClassId) (m0_ : Int64) (m1_ : Int64) (d0 : UInt64) (d1 : UInt64) (d2 : UInt64) (d3 : UInt64) (j0 : Int32) (j1 : Int32) (j2 : Int32) (j3 : Int32) (j4 : Int32) (j5 : Int32) (j6 : Int32) (j7 : Int32) (j8 : Int32) (j9 : Int32) (j10 : Int32) (h0 : Heap) (n0 : Nat) (hnd : ([ob, ma, oA, mb, iB, oB, sB, tB, zB, sc, rs, mg, se] : List Addr).Nodup) (hor : (o0 = 0 ∧ o1 = 1) ∨ (o0 = 1 ∧ o1 = 0)) (bm0 : own_bd 63 m0_) (bm1 : own_bd 63 m1_) {Tj : State} {hj : Heap} {locsj : List Loc}
    (hZ : Z.Warmed39 s.vm) (hown : s.vm.findClass "com/example/firebreak/firebreak/strategies/CountFactor" = some m.cls) (Xj : Stand p l e ({ frames := 2, cells := 0, slots := 0, locals := 60 } : Room) s m #[(.ref ob), (.ref se), (.ref sc)] below meth c Tj locsj 0 0) (ej : Tj.heap = hj)
    (F_received_ob : Fld Z h0 ob "com/example/firebreak/firebreak/strategies/CountFactor" "received" "Lcom/example/firebreak/firebreak/strategies/CountFactor$Messages;" (.ref mb)) (F_messages_ob : Fld Z h0 ob "com/example/firebreak/firebreak/strategies/CountFactor" "messages" "Lcom/example/firebreak/firebreak/strategies/CountFactor$Messages;" (.ref ma)) (F_n_ob : Fld Z h0 ob "com/example/firebreak/firebreak/strategies/CountFactor" "n" "I" (.int 2)) (F_order_ma : Fld Z h0 ma "com/example/firebreak/firebreak/strategies/CountFactor$Messages" "order" "[I" (.ref oA)) (V_oA : Arv Z h0 oA koA .int (2 : Int32) [(.int 0), (.int 1)] (.int 0)) (F_incoming_mb : Fld Z h0 mb "com/example/firebreak/firebreak/strategies/CountFactor$Messages" "incoming" "[D" (.ref iB)) (F_order_mb : Fld Z h0 mb "com/example/firebreak/firebreak/strategies/CountFactor$Messages" "order" "[I" (.ref oB)) (F_sorted_mb : Fld Z h0 mb "com/example/firebreak/firebreak/strategies/CountFactor$Messages" "sorted" "[D" (.ref sB)) (F_tieOf_mb : Fld Z h0 mb "com/example/firebreak/firebreak/strategies/CountFactor$Messages" "tieOf" "[I" (.ref tB)) (F_tieSize_mb : Fld Z h0 mb "com/example/firebreak/firebreak/strategies/CountFactor$Messages" "tieSize" "[I" (.ref zB)) (F_runStarts_sc : Fld Z h0 sc "com/example/firebreak/firebreak/strategies/CountFactor$Scratch" "runStarts" "[I" (.ref rs)) (F_merging_sc : Fld Z h0 sc "com/example/firebreak/firebreak/strategies/CountFactor$Scratch" "merging" "[I" (.ref mg)) (V_sB : Arv Z hj sB ksB .double (2 : Int32) [(.double d2), (.double d3)] (.double (FP.l2d 0))) (V_tB : Arv Z hj tB ktB .int (2 : Int32) [(.int j2), (.int j3)] (.int 0)) (V_zB : Arv Z hj zB kzB .int (2 : Int32) [(.int j4), (.int j5)] (.int 0)) (V_rs : Arv Z hj rs krs .int (3 : Int32) [(.int j6), (.int j7), (.int j8)] (.int 0)) (V_mg : Arv Z hj mg kmg .int (2 : Int32) [(.int j9), (.int j10)] (.int 0)) (V_se : Arv Z h0 se kse .double (2 : Int32) [(.double (FP.l2d m0_)), (.double (FP.l2d m1_))] (.double (FP.l2d 0))) (g_iB : n0 ≤ iB) (g_oB : n0 ≤ oB) (g_sB : n0 ≤ sB) (g_tB : n0 ≤ tB) (g_zB : n0 ≤ zB) (g_rs : n0 ≤ rs) (g_mg : n0 ≤ mg) (Zle : n0 ≤ h0.size) (N_ : Fr n0 locsj) (K_ : Keep h0 hj [iB, oB, sB, tB, zB, rs, mg]) (nin_ob : ob ∉ [iB, oB, sB, tB, zB, rs, mg]) (nin_ma : ma ∉ [iB, oB, sB, tB, zB, rs, mg]) (nin_oA : oA ∉ [iB, oB, sB, tB, zB, rs, mg]) (nin_mb : mb ∉ [iB, oB, sB, tB, zB, rs, mg]) (nin_sc : sc ∉ [iB, oB, sB, tB, zB, rs, mg]) (nin_se : se ∉ [iB, oB, sB, tB, zB, rs, mg]) (V3_iB : Arv Z hj iB kiB .double (2 : Int32) [(.double (FP.l2d m0_)), (.double (FP.l2d m1_))] (.double (FP.l2d 0))) (V7_oB : Arv Z hj oB koB .int (2 : Int32) [(.int 0), (.int 1)] (.int 0)) : own_Goes p.tables e below s (Q6 Z ob se sc o0 o1 ma oA mb iB oB sB tB zB rs mg koA kiB koB ksB ktB kzB krs kmg kse m0_ m1_ d0 d1 d2 d3 j0 j1 j2 j3 j4 j5 j6 j7 j8 j9 j10 h0 n0) ({ frames := 2, cells := 0, slots := 0, locals := 60 } : Room).cells ({ frames := 2, cells := 0, slots := 0, locals := 60 } : Room).slots Tj (mkF m 46 (Ls17 ob se sc iB oB) []) := by
  refine oAlN 47 Xj hx (hb hby d6_46) rfl rfl ?_
  refine oR 50 Xj hx hZ hown (hw _ (own_m 80 rfl)) ej (F_runStarts_sc.keep K_ nin_sc) (hb hby d6_47) rfl ?_
  refine oAst 52 Xj hx (hb hby d6_50) (Ls18 ob se sc iB oB rs) rfl rfl ?_
  refine oIc 53 Xj hx (hb hby d6_52) 0 rfl rfl ?_
  refine oIst 55 Xj hx (hb hby d6_53) (Ls19 ob se sc iB oB rs 0) rfl rfl ?_
  refine oIc 56 Xj hx (hb hby d6_55) 0 rfl rfl ?_
  refine oIst 58 Xj hx (hb hby d6_56) (Ls20 ob se sc iB oB rs 0 0) rfl rfl ?_
  refine oIl 60 Xj hx (hb hby d6_58) rfl rfl ?_
  refine oAlN 61 Xj hx (hb hby d6_60) rfl rfl ?_
  refine oF 64 Xj hx hZ hown (host := "") (Or.inl (hw _ (own_m 10 rfl))) Via.refl ej (F_n_ob.keep K_ nin_ob) (hb hby d6_61) rfl fun T8 X8 e8 => ?_
  refine oCn 67 X8 hx (hb hby d6_64) (tlt (by decide)).2.1 rfl ?_
  refine oIl 69 X8 hx (hb hby d6_67) rfl rfl ?_
  refine oFy 92 X8 hx (hb hby d6_69) ((if0 _ _).trans (teq (by decide)).1) (by decide) (by decide) ?_
  refine oAl 94 X8 hx (hb hby d6_92) rfl rfl ?_
  refine oIl 96 X8 hx (hb hby d6_94) rfl rfl ?_
  refine oInc 99 X8 hx (hb hby d6_96) (Ls20 ob se sc iB oB rs 1 0) rfl rfl rfl ?_
  refine oIl 101 X8 hx (hb hby d6_99) rfl rfl ?_
  refine oIs 102 X8 hx hZ e8 V_rs 0 [(.int 0), (.int j7), (.int j8)] (hb hby d6_101) (by decide) rfl (Nat.le_of_ble_eq_true rfl) rfl rfl fun T9 h9 X9 e9 W9 V_rs_ => ?_
  replace V_sB := V_sB.other W9 (nd hnd 6 10)
  replace V_tB := V_tB.other W9 (nd hnd 7 10)
  replace V_zB := V_zB.other W9 (nd hnd 8 10)
  replace V_mg := V_mg.other W9 (nd hnd 11 10)
  replace K_ := kW K_ W9 5 rfl
  replace V3_iB := V3_iB.other W9 (nd hnd 4 10)
  replace V7_oB := V7_oB.other W9 (nd hnd 5 10)
  replace V_rs := V_rs_
  clear V_rs_ W9
  replace N_ := Fr.snoc X9 N_ g_rs
  clear X8 e8
  refine oInc 105 X9 hx (hb hby d6_102) (Ls20 ob se sc iB oB rs 1 1) rfl rfl rfl ?_
  refine oGo 58 X9 hx (hb hby d6_105) (by decide) (by decide) ?_
  refine oIl 60 X9 hx (hb hby d6_58) rfl rfl ?_
  refine oAlN 61 X9 hx (hb hby d6_60) rfl rfl ?_
  refine oF 64 X9 hx hZ hown (host := "") (Or.inl (hw _ (own_m 10 rfl))) Via.refl e9 (F_n_ob.keep K_ nin_ob) (hb hby d6_61) rfl fun T10 X10 e10 => ?_
  clear X9 e9
  refine oCn 67 X10 hx (hb hby d6_64) (tlt (by decide)).2.1 rfl ?_
  refine oIl 69 X10 hx (hb hby d6_67) rfl rfl ?_
  refine oFn 72 X10 hx (hb hby d6_69) ((if0 _ _).trans (feq (by decide)).1) rfl ?_
  refine oAlN 73 X10 hx (hb hby d6_72) rfl rfl ?_
  refine oAl 75 X10 hx (hb hby d6_73) rfl rfl ?_
  refine oIl 77 X10 hx (hb hby d6_75) rfl rfl ?_
  refine oIa 78 X10 hx hZ e10 V7_oB (.int 1) (hb hby d6_77) (by decide) rfl rfl ?_
  refine oDa 79 X10 hx hZ e10 V3_iB (.double (FP.l2d m1_)) (hb hby d6_78) (by decide) rfl rfl ?_
  refine oAlN 80 X10 hx (hb hby d6_79) rfl rfl ?_
  refine oAl 82 X10 hx (hb hby d6_80) rfl rfl ?_
  refine oIl 84 X10 hx (hb hby d6_82) rfl rfl ?_
  refine oIc 85 X10 hx (hb hby d6_84) 1 rfl rfl ?_
  refine oSub 86 X10 hx (hb hby d6_85) 0 rfl rfl ?_
  refine oIa 87 X10 hx hZ e10 V7_oB (.int 0) (hb hby d6_86) (by decide) rfl rfl ?_
  refine oDa 88 X10 hx hZ e10 V3_iB (.double (FP.l2d m0_)) (hb hby d6_87) (by decide) rfl rfl ?_
  refine own_by (g' := (mkF m 89 (Ls20 ob se sc iB oB rs 1 1) [(.int (lcmpW m1_ m0_))])) (fun t k => XS.dcmpS X10.here hx rfl (hb hby d6_88) rfl (dcmpV_w (own_b53 bm1) (own_b53 bm0) _) k) ?_
  by_cases hc89_15 : m0_ < m1_
  · refine oFn 92 X10 hx (hb hby d6_89) ((if0 _ _).trans (tlt ((lw_gt _ _).mpr hc89_15)).2.2.2) rfl ?_
    refine oAl 94 X10 hx (hb hby d6_92) rfl rfl ?_
    refine oIl 96 X10 hx (hb hby d6_94) rfl rfl ?_
    refine oInc 99 X10 hx (hb hby d6_96) (Ls20 ob se sc iB oB rs 2 1) rfl rfl rfl ?_
    refine oIl 101 X10 hx (hb hby d6_99) rfl rfl ?_
    refine oIs 102 X10 hx hZ e10 V_rs 1 [(.int 0), (.int 1), (.int j8)] (hb hby d6_101) (by decide) rfl (Nat.le_of_ble_eq_true rfl) rfl rfl fun T16 h16 X16 e16 W16 V_rs_ => ?_
    replace V_sB := V_sB.other W16 (nd hnd 6 10)
    replace V_tB := V_tB.other W16 (nd hnd 7 10)
    replace V_zB := V_zB.other W16 (nd hnd 8 10)
    replace V_mg := V_mg.other W16 (nd hnd 11 10)
    replace K_ := kW K_ W16 5 rfl
    replace V3_iB := V3_iB.other W16 (nd hnd 4 10)
    replace V7_oB := V7_oB.other W16 (nd hnd 5 10)
    replace V_rs := V_rs_
    clear V_rs_ W16
    replace N_ := Fr.snoc X16 N_ g_rs
    clear X10 e10
    refine oInc 105 X16 hx (hb hby d6_102) (Ls20 ob se sc iB oB rs 2 2) rfl rfl rfl ?_
    refine oGo 58 X16 hx (hb hby d6_105) (by decide) (by decide) ?_
    refine oIl 60 X16 hx (hb hby d6_58) rfl rfl ?_
    refine oAlN 61 X16 hx (hb hby d6_60) rfl rfl ?_
    refine oF 64 X16 hx hZ hown (host := "") (Or.inl (hw _ (own_m 10 rfl))) Via.refl e16 (F_n_ob.keep K_ nin_ob) (hb hby d6_61) rfl fun T17 X17 e17 => ?_
    clear X16 e16
    refine oCy 108 X17 hx (hb hby d6_64) (flt (by decide)).2.1 (by decide) (by decide) ?_
    refine oAl 110 X17 hx (hb hby d6_108) rfl rfl ?_
    refine oIl 112 X17 hx (hb hby d6_110) rfl rfl ?_
    refine oAlN 113 X17 hx (hb hby d6_112) rfl rfl ?_
    refine oF 116 X17 hx hZ hown (host := "") (Or.inl (hw _ (own_m 10 rfl))) Via.refl e17 (F_n_ob.keep K_ nin_ob) (hb hby d6_113) rfl fun T18 X18 e18 => ?_
    clear X17 e17
    refine oIs 117 X18 hx hZ e18 V_rs 2 [(.int 0), (.int 1), (.int 2)] (hb hby d6_116) (by decide) rfl (Nat.le_of_ble_eq_true rfl) rfl rfl fun T19 h19 X19 e19 W19 V_rs_ => ?_
    replace V_sB := V_sB.other W19 (nd hnd 6 10)
    replace V_tB := V_tB.other W19 (nd hnd 7 10)
    replace V_zB := V_zB.other W19 (nd hnd 8 10)
    replace V_mg := V_mg.other W19 (nd hnd 11 10)
    replace K_ := kW K_ W19 5 rfl
    replace V3_iB := V3_iB.other W19 (nd hnd 4 10)
    replace V7_oB := V7_oB.other W19 (nd hnd 5 10)
    replace V_rs := V_rs_
    clear V_rs_ W19
    replace N_ := Fr.snoc X19 N_ g_rs
    clear X18 e18
    refine oAl 119 X19 hx (hb hby d6_117) rfl rfl ?_
    refine oAst 121 X19 hx (hb hby d6_119) (Ls21 ob se sc iB oB rs 2 oB) rfl rfl ?_
    refine oAlN 122 X19 hx (hb hby d6_121) rfl rfl ?_
    refine oR 125 X19 hx hZ hown (hw _ (own_m 81 rfl)) e19 (F_merging_sc.keep K_ nin_sc) (hb hby d6_122) rfl ?_
    refine oAst 127 X19 hx (hb hby d6_125) (Ls22 ob se sc iB oB rs 2 oB mg) rfl rfl ?_
    refine oIl 129 X19 hx (hb hby d6_127) rfl rfl ?_
    refine oIc 130 X19 hx (hb hby d6_129) 1 rfl rfl ?_
    refine oCn 133 X19 hx (hb hby d6_130) (tlt (by decide)).2.2.2 rfl ?_
    refine oIc 134 X19 hx (hb hby d6_133) 0 rfl rfl ?_
    refine oIst 136 X19 hx (hb hby d6_134) (Ls23 ob se sc iB oB rs 2 oB mg 0) rfl rfl ?_
    refine oIc 137 X19 hx (hb hby d6_136) 0 rfl rfl ?_
    refine oIst 139 X19 hx (hb hby d6_137) (Ls24 ob se sc iB oB rs 2 oB mg 0 0) rfl rfl ?_
    refine oIl 141 X19 hx (hb hby d6_139) rfl rfl ?_
    refine oIl 143 X19 hx (hb hby d6_141) rfl rfl ?_
    refine oCn 146 X19 hx (hb hby d6_143) (tlt (by decide)).2.1 rfl ?_
    refine oAl 148 X19 hx (hb hby d6_146) rfl rfl ?_
    refine oIl 150 X19 hx (hb hby d6_148) rfl rfl ?_
    refine oIc 151 X19 hx (hb hby d6_150) 1 rfl rfl ?_
    refine oAdd 152 X19 hx (hb hby d6_151) 1 rfl rfl ?_
    refine oIl 154 X19 hx (hb hby d6_152) rfl rfl ?_
    obtain ⟨_, _, ⟨T20, L20, k20, n20⟩, -, X20, ⟨Lc20, hQ20, l20, y20, z20⟩, st20⟩ := Jvm.LawKit.callS X19 hx (y := (⟨"java/lang/Math", "min", "(II)I"⟩ : MethodName)) hown (mvT hZ (hw _ (own_m 115 rfl))) (mvT hZ (hw _ (own_m 116 rfl))) (mvT hZ (hw _ (own_m 18 rfl))) (mvT hZ (hw _ (own_m 117 rfl))) (by decide) (backOf (W := 1) (rm13 l Z a0 hw [] (1 : Int32) (2 : Int32) h19 n0 (Nat.le_trans Zle K_.1) ) hZ (hw _ (own_m 117 rfl)) (hw _ (own_m 18 rfl)) (by decide) (by decide)) (g := (mkF m 154 (Ls24 ob se sc iB oB rs 2 oB mg 0 0) [(.int 2), (.int 1), (.ref rs)])) rfl (by rw [hml]; rfl) (argsL := [(.int 1), (.int 2)]) (rest := [(.ref rs)]) (lenOf pd_8 rfl) rfl (own_le rfl) (hb hby d6_154) (fun _ _ => ⟨rfl, e19, (by decide : 0 + 0 ≤ _), (by decide : 0 + 0 ≤ _)⟩)
    dsimp only [Pt.U, Pt.locs, Pt.cells, Pt.slots] at X20 l20 y20 z20 st20 hQ20
    subst l20 y20 z20
    obtain ⟨rfl, Nq20, e20⟩ := hQ20
    replace N_ := Fr.app N_ Nq20
    clear Nq20
    refine own_by (T' := T20) (g' := (mkF m 157 (Ls24 ob se sc iB oB rs 2 oB mg 0 0) [(.int (own_min (1 : Int32) (2 : Int32))), (.ref rs)])) (fun t k => st20 _ k) ?_
    clear st20 X19 e19
    rw [show (own_min (1 : Int32) (2 : Int32)) = (1 : Int32) from by decide]
    refine oIa 158 X20 hx hZ e20 V_rs (.int 1) (hb hby d6_157) (by decide) rfl rfl ?_
    refine oIst 160 X20 hx (hb hby d6_158) (Ls25 ob se sc iB oB rs 2 oB mg 0 0 1) rfl rfl ?_
    refine oAlN 161 X20 hx (hb hby d6_160) rfl rfl ?_
    refine oAl 163 X20 hx (hb hby d6_161) rfl rfl ?_
    refine oAl 165 X20 hx (hb hby d6_163) rfl rfl ?_
    refine oAl 167 X20 hx (hb hby d6_165) rfl rfl ?_
    refine oIl 169 X20 hx (hb hby d6_167) rfl rfl ?_
    refine oIa 170 X20 hx hZ e20 V_rs (.int 0) (hb hby d6_169) (by decide) rfl rfl ?_
    refine oIl 172 X20 hx (hb hby d6_170) rfl rfl ?_
    refine oAl 174 X20 hx (hb hby d6_172) rfl rfl ?_
    refine oIl 176 X20 hx (hb hby d6_174) rfl rfl ?_
    refine oIc 177 X20 hx (hb hby d6_176) 2 rfl rfl ?_
    refine oAdd 178 X20 hx (hb hby d6_177) 2 rfl rfl ?_
    refine oIl 180 X20 hx (hb hby d6_178) rfl rfl ?_
    obtain ⟨_, _, ⟨T23, L23, k23, n23⟩, -, X23, ⟨Lc23, hQ23, l23, y23, z23⟩, st23⟩ := Jvm.LawKit.callS X20 hx (y := (⟨"java/lang/Math", "min", "(II)I"⟩ : MethodName)) hown (mvT hZ (hw _ (own_m 115 rfl))) (mvT hZ (hw _ (own_m 116 rfl))) (mvT hZ (hw _ (own_m 18 rfl))) (mvT hZ (hw _ (own_m 117 rfl))) (by decide) (backOf (W := 6) (rm13 l Z a0 hw [] (2 : Int32) (2 : Int32) h19 n0 (Nat.le_trans Zle K_.1) ) hZ (hw _ (own_m 117 rfl)) (hw _ (own_m 18 rfl)) (by decide) (by decide)) (g := (mkF m 180 (Ls25 ob se sc iB oB rs 2 oB mg 0 0 1) [(.int 2), (.int 2), (.ref rs), (.int 1), (.int 0), (.ref mg), (.ref oB), (.ref iB)])) rfl (by rw [hml]; rfl) (argsL := [(.int 2), (.int 2)]) (rest := [(.ref rs), (.int 1), (.int 0), (.ref mg), (.ref oB), (.ref iB)]) (lenOf pd_8 rfl) rfl (own_le rfl) (hb hby d6_180) (fun _ _ => ⟨rfl, e20, (by decide : 0 + 0 ≤ _), (by decide : 0 + 0 ≤ _)⟩)
    dsimp only [Pt.U, Pt.locs, Pt.cells, Pt.slots] at X23 l23 y23 z23 st23 hQ23
    subst l23 y23 z23
    obtain ⟨rfl, Nq23, e23⟩ := hQ23
    replace N_ := Fr.app N_ Nq23
    clear Nq23
    refine own_by (T' := T23) (g' := (mkF m 183 (Ls25 ob se sc iB oB rs 2 oB mg 0 0 1) [(.int (own_min (2 : Int32) (2 : Int32))), (.ref rs), (.int 1), (.int 0), (.ref mg), (.ref oB), (.ref iB)])) (fun t k => st23 _ k) ?_
    clear st23 X20 e20
    rw [show (own_min (2 : Int32) (2 : Int32)) = (2 : Int32) from by decide]
    refine oIa 184 X23 hx hZ e23 V_rs (.int 2) (hb hby d6_183) (by decide) rfl rfl ?_
    obtain ⟨_, _, ⟨T25, L25, k25, n25⟩, -, X25, ⟨Lc25, hQ25, l25, y25, z25⟩, st25⟩ := Jvm.LawKit.callS X23 hx (y := (⟨"com/example/firebreak/firebreak/strategies/CountFactor", "merge", "([D[I[IIII)V"⟩ : MethodName)) hown (mvT hZ (hw _ (own_m 118 rfl))) (mvT hZ (hw _ (own_m 119 rfl))) (mvT hZ (hw _ (own_m 3 rfl))) (mvT hZ (hw _ (own_m 120 rfl))) (by decide) (backOf (W := 0) (rm1401 l Z a0 hw [] iB oB mg kiB koB kmg m0_ m1_ j9 j10 h19 n0 (Nat.le_trans Zle K_.1) V3_iB V7_oB V_mg g_mg ((nd hnd 4 11)) ((nd hnd 5 11)) (bm0) (bm1) (hc89_15)) hZ (hw _ (own_m 120 rfl)) (hw _ (own_m 3 rfl)) (by decide) (by decide)) (g := (mkF m 184 (Ls25 ob se sc iB oB rs 2 oB mg 0 0 1) [(.int 2), (.int 1), (.int 0), (.ref mg), (.ref oB), (.ref iB)])) rfl (by rw [hml]; rfl) (argsL := [(.ref iB), (.ref oB), (.ref mg), (.int 0), (.int 1), (.int 2)]) (rest := []) (lenOf pd_9 rfl) rfl (own_le rfl) (hb hby d6_184) (fun _ _ => ⟨rfl, e23, (by decide : 0 + 0 ≤ _), (by decide : 0 + 0 ≤ _)⟩)
    dsimp only [Pt.U, Pt.locs, Pt.cells, Pt.slots] at X25 l25 y25 z25 st25 hQ25
    subst l25 y25 z25
    obtain ⟨rfl, Nq25, c25_0, c25_1⟩ := hQ25
    replace N_ := Fr.app N_ Nq25
    clear Nq25
    replace V_sB := V_sB.keep c25_0 (ninS (nd hnd 6 11) nin0)
    replace V_tB := V_tB.keep c25_0 (ninS (nd hnd 7 11) nin0)
    replace V_zB := V_zB.keep c25_0 (ninS (nd hnd 8 11) nin0)
    replace K_ := K_.trans c25_0 (allS (Or.inl (List.mem_of_getElem? (i := 6) rfl)) all0)
    replace V3_iB := V3_iB.keep c25_0 (ninS (nd hnd 4 11) nin0)
    replace V7_oB := V7_oB.keep c25_0 (ninS (nd hnd 5 11) nin0)
    replace V_rs := V_rs.keep c25_0 (ninS (nd hnd 10 11) nin0)
    refine own_by (T' := T25) (g' := (mkF m 187 (Ls25 ob se sc iB oB rs 2 oB mg 0 0 1) [])) (fun t k => st25 _ k) ?_
    clear st25 X23 e23
    refine oAl 189 X25 hx (hb hby d6_187) rfl rfl ?_
    refine oIl 191 X25 hx (hb hby d6_189) rfl rfl ?_
    refine oInc 194 X25 hx (hb hby d6_191) (Ls25 ob se sc iB oB rs 2 oB mg 1 0 1) rfl rfl rfl ?_
    refine oAl 196 X25 hx (hb hby d6_194) rfl rfl ?_
    refine oIl 198 X25 hx (hb hby d6_196) rfl rfl ?_
    refine oIa 199 X25 hx hZ rfl V_rs (.int 0) (hb hby d6_198) (by decide) rfl rfl ?_
    refine oIs 200 X25 hx hZ rfl V_rs 0 [(.int 0), (.int 1), (.int 2)] (hb hby d6_199) (by decide) rfl (Nat.le_of_ble_eq_true rfl) rfl rfl fun T27 h27 X27 e27 W27 V_rs_ => ?_
    replace V_sB := V_sB.other W27 (nd hnd 6 10)
    replace V_tB := V_tB.other W27 (nd hnd 7 10)
    replace V_zB := V_zB.other W27 (nd hnd 8 10)
    replace K_ := kW K_ W27 5 rfl
    replace V3_iB := V3_iB.other W27 (nd hnd 4 10)
    replace V7_oB := V7_oB.other W27 (nd hnd 5 10)
    replace c25_1 := c25_1.other W27 (nd hnd 11 10)
    replace V_rs := V_rs_
    clear V_rs_ W27
    replace N_ := Fr.snoc X27 N_ g_rs
    clear X25
    refine oInc 203 X27 hx (hb hby d6_200) (Ls25 ob se sc iB oB rs 2 oB mg 1 2 1) rfl rfl rfl ?_
    refine oGo 139 X27 hx (hb hby d6_203) (by decide) (by decide) ?_
    refine oIl 141 X27 hx (hb hby d6_139) rfl rfl ?_
    refine oIl 143 X27 hx (hb hby d6_141) rfl rfl ?_
    refine oCy 206 X27 hx (hb hby d6_143) (flt (by decide)).2.1 (by decide) (by decide) ?_
    refine oAl 208 X27 hx (hb hby d6_206) rfl rfl ?_
    refine oIl 210 X27 hx (hb hby d6_208) rfl rfl ?_
    refine oAlN 211 X27 hx (hb hby d6_210) rfl rfl ?_
    refine oF 214 X27 hx hZ hown (host := "") (Or.inl (hw _ (own_m 10 rfl))) Via.refl e27 (F_n_ob.keep K_ nin_ob) (hb hby d6_211) rfl fun T28 X28 e28 => ?_
    clear X27 e27
    refine oIs 215 X28 hx hZ e28 V_rs 1 [(.int 0), (.int 2), (.int 2)] (hb hby d6_214) (by decide) rfl (Nat.le_of_ble_eq_true rfl) rfl rfl fun T29 h29 X29 e29 W29 V_rs_ => ?_
    replace V_sB := V_sB.other W29 (nd hnd 6 10)
    replace V_tB := V_tB.other W29 (nd hnd 7 10)
    replace V_zB := V_zB.other W29 (nd hnd 8 10)
    replace K_ := kW K_ W29 5 rfl
    replace V3_iB := V3_iB.other W29 (nd hnd 4 10)
    replace V7_oB := V7_oB.other W29 (nd hnd 5 10)
    replace c25_1 := c25_1.other W29 (nd hnd 11 10)
    replace V_rs := V_rs_
    clear V_rs_ W29
    replace N_ := Fr.snoc X29 N_ g_rs
    clear X28 e28
    refine oIl 217 X29 hx (hb hby d6_215) rfl rfl ?_
    refine oIst 219 X29 hx (hb hby d6_217) (Ls25 ob se sc iB oB rs 1 oB mg 1 2 1) rfl rfl ?_
    refine oAl 221 X29 hx (hb hby d6_219) rfl rfl ?_
    refine oAst 223 X29 hx (hb hby d6_221) (Ls26 ob se sc iB oB rs 1 oB mg 1 mg 1) rfl rfl ?_
    refine oAl 225 X29 hx (hb hby d6_223) rfl rfl ?_
    refine oAst 227 X29 hx (hb hby d6_225) (Ls26 ob se sc iB oB rs 1 oB oB 1 mg 1) rfl rfl ?_
    refine oAl 229 X29 hx (hb hby d6_227) rfl rfl ?_
    refine oAst 231 X29 hx (hb hby d6_229) (Ls26 ob se sc iB oB rs 1 mg oB 1 mg 1) rfl rfl ?_
    refine oGo 127 X29 hx (hb hby d6_231) (by decide) (by decide) ?_
    refine oIl 129 X29 hx (hb hby d6_127) rfl rfl ?_
    refine oIc 130 X29 hx (hb hby d6_129) 1 rfl rfl ?_
    refine oCy 234 X29 hx (hb hby d6_130) (flt (by decide)).2.2.2 (by decide) (by decide) ?_
    refine oAl 236 X29 hx (hb hby d6_234) rfl rfl ?_
    refine oAl 238 X29 hx (hb hby d6_236) rfl rfl ?_
    refine own_by (T' := T29) (g' := (mkF m 241 (Ls26 ob se sc iB oB rs 1 mg oB 1 mg 1) [])) (fun t k => Jvm.RoadKit.acmp (g := (mkF m 238 (Ls26 ob se sc iB oB rs 1 mg oB 1 mg 1) [(.ref oB), (.ref mg)])) X29 hx rfl rfl rfl (pc0 := 238) (pc' := 241) (same := false) rfl (hb hby d6_238) rfl (decide_eq_false fun q => (nd hnd 11 5) (Value.ref.inj q)) (by decide) (by decide) k) ?_
    refine oAl 243 X29 hx (hb hby d6_241) rfl rfl ?_
    refine oIc 244 X29 hx (hb hby d6_243) 0 rfl rfl ?_
    refine oAl 246 X29 hx (hb hby d6_244) rfl rfl ?_
    refine oIc 247 X29 hx (hb hby d6_246) 0 rfl rfl ?_
    refine oAlN 248 X29 hx (hb hby d6_247) rfl rfl ?_
    refine oF 251 X29 hx hZ hown (host := "") (Or.inl (hw _ (own_m 10 rfl))) Via.refl e29 (F_n_ob.keep K_ nin_ob) (hb hby d6_248) rfl fun T30 X30 e30 => ?_
    clear X29 e29
    obtain ⟨T31, h31, L31, X31, e31, Nn31, K31, Vn31, st31⟩ := cpA X30 hx hZ hown (hw _ (own_m 75 rfl)) (hw _ (own_m 78 rfl)) (hw _ (own_m 76 rfl)) (hw _ (own_m 77 rfl)) e30 (us := [(.int 1), (.int 0)]) c25_1 V7_oB (Or.inl ⟨rfl, rfl⟩) (by decide) (by decide) (by decide) (by decide) (by decide) rfl (Nat.le_of_ble_eq_true rfl) N_ g_oB (g := (mkF m 251 (Ls26 ob se sc iB oB rs 1 mg oB 1 mg 1) [(.int 2), (.int 0), (.ref oB), (.int 0), (.ref mg)])) rfl (by rw [hml]; rfl) (rest := []) rfl (hb hby d6_251) (by decide) (W := 0) (own_le rfl) (by decide)
    replace N_ := Nn31
    replace V_sB := V_sB.keep K31 (ninS (nd hnd 6 5) nin0)
    replace V_tB := V_tB.keep K31 (ninS (nd hnd 7 5) nin0)
    replace V_zB := V_zB.keep K31 (ninS (nd hnd 8 5) nin0)
    replace K_ := K_.trans K31 (allS (Or.inl (List.mem_of_getElem? (i := 1) rfl)) all0)
    replace V3_iB := V3_iB.keep K31 (ninS (nd hnd 4 5) nin0)
    replace c25_1 := c25_1.keep K31 (ninS (nd hnd 11 5) nin0)
    replace V_rs := V_rs.keep K31 (ninS (nd hnd 10 5) nin0)
    have V31_oB : Arv Z h31 oB koB .int (2 : Int32) [(.int 1), (.int 0)] (.int 0) := Vn31
    clear K31 Vn31
    refine own_by (T' := T31) (g' := (mkF m 254 (Ls26 ob se sc iB oB rs 1 mg oB 1 mg 1) [])) (fun t k => st31 t k) ?_
    clear st31 X30 e30
    refine oIc 255 X31 hx (hb hby d6_254) 0 rfl rfl ?_
    refine oIst 257 X31 hx (hb hby d6_255) (Ls26 ob se sc iB oB rs 1 mg oB 0 mg 1) rfl rfl ?_
    refine oIc 258 X31 hx (hb hby d6_257) 0 rfl rfl ?_
    refine oIst 260 X31 hx (hb hby d6_258) (Ls25 ob se sc iB oB rs 1 mg oB 0 0 1) rfl rfl ?_
    refine oIl 262 X31 hx (hb hby d6_260) rfl rfl ?_
    refine oAlN 263 X31 hx (hb hby d6_262) rfl rfl ?_
    refine oF 266 X31 hx hZ hown (host := "") (Or.inl (hw _ (own_m 10 rfl))) Via.refl e31 (F_n_ob.keep K_ nin_ob) (hb hby d6_263) rfl fun T32 X32 e32 => ?_
    clear X31 e31
    refine oCn 269 X32 hx (hb hby d6_266) (tlt (by decide)).2.1 rfl ?_
    refine oAlN 270 X32 hx (hb hby d6_269) rfl rfl ?_
    refine oAlN 271 X32 hx (hb hby d6_270) rfl rfl ?_
    refine oF 274 X32 hx hZ hown (host := "") (Or.inl (hw _ (own_m 40 rfl))) Via.refl e32 (F_received_ob.keep K_ nin_ob) (hb hby d6_271) rfl fun T33 X33 e33 => ?_
    clear X32 e32
    refine oR 277 X33 hx hZ hown (hw _ (own_m 79 rfl)) e33 (F_order_mb.keep K_ nin_mb) (hb hby d6_274) rfl ?_
    refine oIl 279 X33 hx (hb hby d6_277) rfl rfl ?_
    refine oIa 280 X33 hx hZ e33 V31_oB (.int 1) (hb hby d6_279) (by decide) rfl rfl ?_
    refine oDa 281 X33 hx hZ e33 V3_iB (.double (FP.l2d m1_)) (hb hby d6_280) (by decide) rfl rfl ?_
    refine oDst 283 X33 hx (hb hby d6_281) (Ls27 ob se sc iB oB rs 1 mg oB 0 0 (FP.l2d m1_)) rfl rfl ?_
    refine oAlN 284 X33 hx (hb hby d6_283) rfl rfl ?_
    refine oF 287 X33 hx hZ hown (host := "") (Or.inl (hw _ (own_m 40 rfl))) Via.refl e33 (F_received_ob.keep K_ nin_ob) (hb hby d6_284) rfl fun T36 X36 e36 => ?_
    clear X33 e33
    refine oR 290 X36 hx hZ hown (hw _ (own_m 82 rfl)) e36 (F_sorted_mb.keep K_ nin_mb) (hb hby d6_287) rfl ?_
    refine oIl 292 X36 hx (hb hby d6_290) rfl rfl ?_
    refine oDl 294 X36 hx (hb hby d6_292) rfl rfl ?_
    refine oDs 295 X36 hx hZ e36 V_sB 0 [(.double (FP.l2d m1_)), (.double d3)] (hb hby d6_294) (by decide) rfl (Nat.le_of_ble_eq_true rfl) rfl rfl fun T37 h37 X37 e37 W37 V_sB_ => ?_
    replace V_tB := V_tB.other W37 (nd hnd 7 6)
    replace V_zB := V_zB.other W37 (nd hnd 8 6)
    replace K_ := kW K_ W37 2 rfl
    replace V3_iB := V3_iB.other W37 (nd hnd 4 6)
    replace c25_1 := c25_1.other W37 (nd hnd 11 6)
    replace V_rs := V_rs.other W37 (nd hnd 10 6)
    replace V31_oB := V31_oB.other W37 (nd hnd 5 6)
    replace V_sB := V_sB_
    clear V_sB_ W37
    replace N_ := Fr.snoc X37 N_ g_sB
    clear X36 e36
    refine oDl 297 X37 hx (hb hby d6_295) rfl rfl ?_
    refine oAlN 298 X37 hx (hb hby d6_297) rfl rfl ?_
    refine oF 301 X37 hx hZ hown (host := "") (Or.inl (hw _ (own_m 40 rfl))) Via.refl e37 (F_received_ob.keep K_ nin_ob) (hb hby d6_298) rfl fun T38 X38 e38 => ?_
    clear X37 e37
    refine oR 304 X38 hx hZ hown (hw _ (own_m 82 rfl)) e38 (F_sorted_mb.keep K_ nin_mb) (hb hby d6_301) rfl ?_
    refine oIl 306 X38 hx (hb hby d6_304) rfl rfl ?_
    refine oDa 307 X38 hx hZ e38 V_sB (.double (FP.l2d m1_)) (hb hby d6_306) (by decide) rfl rfl ?_
    refine own_by (g' := (mkF m 308 (Ls27 ob se sc iB oB rs 1 mg oB 0 0 (FP.l2d m1_)) [(.int (lcmpW m1_ m1_))])) (fun t k => XS.dcmpS X38.here hx rfl (hb hby d6_307) rfl (dcmpV_w (own_b53 bm1) (own_b53 bm1) _) k) ?_
    refine oFy 315 X38 hx (hb hby d6_308) ((if0 _ _).trans (teq ((lw_eq _ _).mpr (rfl : m1_ = m1_))).1) (by decide) (by decide) ?_
    refine oAlN 316 X38 hx (hb hby d6_315) rfl rfl ?_
    refine oF 319 X38 hx hZ hown (host := "") (Or.inl (hw _ (own_m 40 rfl))) Via.refl e38 (F_received_ob.keep K_ nin_ob) (hb hby d6_316) rfl fun T40 X40 e40 => ?_
    clear X38 e38
    refine oR 322 X40 hx hZ hown (hw _ (own_m 83 rfl)) e40 (F_tieOf_mb.keep K_ nin_mb) (hb hby d6_319) rfl ?_
    refine oAlN 323 X40 hx (hb hby d6_322) rfl rfl ?_
    refine oF 326 X40 hx hZ hown (host := "") (Or.inl (hw _ (own_m 40 rfl))) Via.refl e40 (F_received_ob.keep K_ nin_ob) (hb hby d6_323) rfl fun T41 X41 e41 => ?_
    clear X40 e40
    refine oR 329 X41 hx hZ hown (hw _ (own_m 79 rfl)) e41 (F_order_mb.keep K_ nin_mb) (hb hby d6_326) rfl ?_
    refine oIl 331 X41 hx (hb hby d6_329) rfl rfl ?_
    refine oIa 332 X41 hx hZ e41 V31_oB (.int 1) (hb hby d6_331) (by decide) rfl rfl ?_
    refine oIl 334 X41 hx (hb hby d6_332) rfl rfl ?_
    refine oIs 335 X41 hx hZ e41 V_tB 1 [(.int j2), (.int 0)] (hb hby d6_334) (by decide) rfl (Nat.le_of_ble_eq_true rfl) rfl rfl fun T43 h43 X43 e43 W43 V_tB_ => ?_
    replace V_zB := V_zB.other W43 (nd hnd 8 7)
    replace K_ := kW K_ W43 3 rfl
    replace V3_iB := V3_iB.other W43 (nd hnd 4 7)
    replace c25_1 := c25_1.other W43 (nd hnd 11 7)
    replace V_rs := V_rs.other W43 (nd hnd 10 7)
    replace V31_oB := V31_oB.other W43 (nd hnd 5 7)
    replace V_sB := V_sB.other W43 (nd hnd 6 7)
    replace V_tB := V_tB_
    clear V_tB_ W43
    replace N_ := Fr.snoc X43 N_ g_tB
    clear X41 e41
    refine oAlN 336 X43 hx (hb hby d6_335) rfl rfl ?_
    refine oF 339 X43 hx hZ hown (host := "") (Or.inl (hw _ (own_m 40 rfl))) Via.refl e43 (F_received_ob.keep K_ nin_ob) (hb hby d6_336) rfl fun T44 X44 e44 => ?_
    clear X43 e43
    refine oR 342 X44 hx hZ hown (hw _ (own_m 84 rfl)) e44 (F_tieSize_mb.keep K_ nin_mb) (hb hby d6_339) rfl ?_
    refine oIl 344 X44 hx (hb hby d6_342) rfl rfl ?_
    refine oIc 345 X44 hx (hb hby d6_344) 0 rfl rfl ?_
    refine oIs 346 X44 hx hZ e44 V_zB 0 [(.int 0), (.int j5)] (hb hby d6_345) (by decide) rfl (Nat.le_of_ble_eq_true rfl) rfl rfl fun T45 h45 X45 e45 W45 V_zB_ => ?_
    replace K_ := kW K_ W45 4 rfl
    replace V3_iB := V3_iB.other W45 (nd hnd 4 8)
    replace c25_1 := c25_1.other W45 (nd hnd 11 8)
    replace V_rs := V_rs.other W45 (nd hnd 10 8)
    replace V31_oB := V31_oB.other W45 (nd hnd 5 8)
    replace V_sB := V_sB.other W45 (nd hnd 6 8)
    replace V_tB := V_tB.other W45 (nd hnd 7 8)
    replace V_zB := V_zB_
    clear V_zB_ W45
    replace N_ := Fr.snoc X45 N_ g_zB
    clear X44 e44
    refine oAlN 347 X45 hx (hb hby d6_346) rfl rfl ?_
    refine oF 350 X45 hx hZ hown (host := "") (Or.inl (hw _ (own_m 40 rfl))) Via.refl e45 (F_received_ob.keep K_ nin_ob) (hb hby d6_347) rfl fun T46 X46 e46 => ?_
    clear X45 e45
    refine oR 353 X46 hx hZ hown (hw _ (own_m 84 rfl)) e46 (F_tieSize_mb.keep K_ nin_mb) (hb hby d6_350) rfl ?_
    refine oIl 355 X46 hx (hb hby d6_353) rfl rfl ?_
    refine own_by (T' := T46) (g' := (mkF m 356 (Ls27 ob se sc iB oB rs 1 mg oB 0 0 (FP.l2d m1_)) [(.int 0), (.ref zB), (.int 0), (.ref zB)])) (fun t k => Jvm.Free.XT.dup2 X46.here hx rfl (hb hby d6_355) rfl rfl rfl k) ?_
    refine oIa 357 X46 hx hZ e46 V_zB (.int 0) (hb hby d6_356) (by decide) rfl rfl ?_
    refine oIc 358 X46 hx (hb hby d6_357) 1 rfl rfl ?_
    refine oAdd 359 X46 hx (hb hby d6_358) 1 rfl rfl ?_
    refine oIs 360 X46 hx hZ e46 V_zB 0 [(.int 1), (.int j5)] (hb hby d6_359) (by decide) rfl (Nat.le_of_ble_eq_true rfl) rfl rfl fun T48 h48 X48 e48 W48 V_zB_ => ?_
    replace K_ := kW K_ W48 4 rfl
    replace V3_iB := V3_iB.other W48 (nd hnd 4 8)
    replace c25_1 := c25_1.other W48 (nd hnd 11 8)
    replace V_rs := V_rs.other W48 (nd hnd 10 8)
    replace V31_oB := V31_oB.other W48 (nd hnd 5 8)
    replace V_sB := V_sB.other W48 (nd hnd 6 8)
    replace V_tB := V_tB.other W48 (nd hnd 7 8)
    replace V_zB := V_zB_
    clear V_zB_ W48
    replace N_ := Fr.snoc X48 N_ g_zB
    clear X46 e46
    refine oInc 363 X48 hx (hb hby d6_360) (Ls27 ob se sc iB oB rs 1 mg oB 0 1 (FP.l2d m1_)) rfl rfl rfl ?_
    refine oGo 260 X48 hx (hb hby d6_363) (by decide) (by decide) ?_
    refine oIl 262 X48 hx (hb hby d6_260) rfl rfl ?_
    refine oAlN 263 X48 hx (hb hby d6_262) rfl rfl ?_
    refine oF 266 X48 hx hZ hown (host := "") (Or.inl (hw _ (own_m 10 rfl))) Via.refl e48 (F_n_ob.keep K_ nin_ob) (hb hby d6_263) rfl fun T49 X49 e49 => ?_
    clear X48 e48
    refine oCn 269 X49 hx (hb hby d6_266) (tlt (by decide)).2.1 rfl ?_
    refine oAlN 270 X49 hx (hb hby d6_269) rfl rfl ?_
    refine oAlN 271 X49 hx (hb hby d6_270) rfl rfl ?_
    refine oF 274 X49 hx hZ hown (host := "") (Or.inl (hw _ (own_m 40 rfl))) Via.refl e49 (F_received_ob.keep K_ nin_ob) (hb hby d6_271) rfl fun T50 X50 e50 => ?_
    clear X49 e49
    refine oR 277 X50 hx hZ hown (hw _ (own_m 79 rfl)) e50 (F_order_mb.keep K_ nin_mb) (hb hby d6_274) rfl ?_
    refine oIl 279 X50 hx (hb hby d6_277) rfl rfl ?_
    refine oIa 280 X50 hx hZ e50 V31_oB (.int 0) (hb hby d6_279) (by decide) rfl rfl ?_
    refine oDa 281 X50 hx hZ e50 V3_iB (.double (FP.l2d m0_)) (hb hby d6_280) (by decide) rfl rfl ?_
    refine oDst 283 X50 hx (hb hby d6_281) (Ls27 ob se sc iB oB rs 1 mg oB 0 1 (FP.l2d m0_)) rfl rfl ?_
    refine oAlN 284 X50 hx (hb hby d6_283) rfl rfl ?_
    refine oF 287 X50 hx hZ hown (host := "") (Or.inl (hw _ (own_m 40 rfl))) Via.refl e50 (F_received_ob.keep K_ nin_ob) (hb hby d6_284) rfl fun T53 X53 e53 => ?_
    clear X50 e50
    refine oR 290 X53 hx hZ hown (hw _ (own_m 82 rfl)) e53 (F_sorted_mb.keep K_ nin_mb) (hb hby d6_287) rfl ?_
    refine oIl 292 X53 hx (hb hby d6_290) rfl rfl ?_
    refine oDl 294 X53 hx (hb hby d6_292) rfl rfl ?_
    refine oDs 295 X53 hx hZ e53 V_sB 1 [(.double (FP.l2d m1_)), (.double (FP.l2d m0_))] (hb hby d6_294) (by decide) rfl (Nat.le_of_ble_eq_true rfl) rfl rfl fun T54 h54 X54 e54 W54 V_sB_ => ?_
    replace K_ := kW K_ W54 2 rfl
    replace V3_iB := V3_iB.other W54 (nd hnd 4 6)
    replace c25_1 := c25_1.other W54 (nd hnd 11 6)
    replace V_rs := V_rs.other W54 (nd hnd 10 6)
    replace V31_oB := V31_oB.other W54 (nd hnd 5 6)
    replace V_tB := V_tB.other W54 (nd hnd 7 6)
    replace V_zB := V_zB.other W54 (nd hnd 8 6)
    replace V_sB := V_sB_
    clear V_sB_ W54
    replace N_ := Fr.snoc X54 N_ g_sB
    clear X53 e53
    refine oDl 297 X54 hx (hb hby d6_295) rfl rfl ?_
    refine oAlN 298 X54 hx (hb hby d6_297) rfl rfl ?_
    refine oF 301 X54 hx hZ hown (host := "") (Or.inl (hw _ (own_m 40 rfl))) Via.refl e54 (F_received_ob.keep K_ nin_ob) (hb hby d6_298) rfl fun T55 X55 e55 => ?_
    clear X54 e54
    refine oR 304 X55 hx hZ hown (hw _ (own_m 82 rfl)) e55 (F_sorted_mb.keep K_ nin_mb) (hb hby d6_301) rfl ?_
    refine oIl 306 X55 hx (hb hby d6_304) rfl rfl ?_
    refine oDa 307 X55 hx hZ e55 V_sB (.double (FP.l2d m1_)) (hb hby d6_306) (by decide) rfl rfl ?_
    refine own_by (g' := (mkF m 308 (Ls27 ob se sc iB oB rs 1 mg oB 0 1 (FP.l2d m0_)) [(.int (lcmpW m0_ m1_))])) (fun t k => XS.dcmpS X55.here hx rfl (hb hby d6_307) rfl (dcmpV_w (own_b53 bm0) (own_b53 bm1) _) k) ?_
    refine oFn 311 X55 hx (hb hby d6_308) ((if0 _ _).trans (feq (fun q => (own_ltne hc89_15) ((lw_eq _ _).mp q))).1) rfl ?_
    refine oIl 313 X55 hx (hb hby d6_311) rfl rfl ?_
    refine oIst 315 X55 hx (hb hby d6_313) (Ls27 ob se sc iB oB rs 1 mg oB 1 1 (FP.l2d m0_)) rfl rfl ?_
    refine oAlN 316 X55 hx (hb hby d6_315) rfl rfl ?_
    refine oF 319 X55 hx hZ hown (host := "") (Or.inl (hw _ (own_m 40 rfl))) Via.refl e55 (F_received_ob.keep K_ nin_ob) (hb hby d6_316) rfl fun T57 X57 e57 => ?_
    clear X55 e55
    refine oR 322 X57 hx hZ hown (hw _ (own_m 83 rfl)) e57 (F_tieOf_mb.keep K_ nin_mb) (hb hby d6_319) rfl ?_
    refine oAlN 323 X57 hx (hb hby d6_322) rfl rfl ?_
    refine oF 326 X57 hx hZ hown (host := "") (Or.inl (hw _ (own_m 40 rfl))) Via.refl e57 (F_received_ob.keep K_ nin_ob) (hb hby d6_323) rfl fun T58 X58 e58 => ?_
    clear X57 e57
    refine oR 329 X58 hx hZ hown (hw _ (own_m 79 rfl)) e58 (F_order_mb.keep K_ nin_mb) (hb hby d6_326) rfl ?_
    refine oIl 331 X58 hx (hb hby d6_329) rfl rfl ?_
    refine oIa 332 X58 hx hZ e58 V31_oB (.int 0) (hb hby d6_331) (by decide) rfl rfl ?_
    refine oIl 334 X58 hx (hb hby d6_332) rfl rfl ?_
    refine oIs 335 X58 hx hZ e58 V_tB 0 [(.int 1), (.int 0)] (hb hby d6_334) (by decide) rfl (Nat.le_of_ble_eq_true rfl) rfl rfl fun T60 h60 X60 e60 W60 V_tB_ => ?_
    replace K_ := kW K_ W60 3 rfl
    replace V3_iB := V3_iB.other W60 (nd hnd 4 7)
    replace c25_1 := c25_1.other W60 (nd hnd 11 7)
    replace V_rs := V_rs.other W60 (nd hnd 10 7)
    replace V31_oB := V31_oB.other W60 (nd hnd 5 7)
    replace V_zB := V_zB.other W60 (nd hnd 8 7)
    replace V_sB := V_sB.other W60 (nd hnd 6 7)
    replace V_tB := V_tB_
    clear V_tB_ W60
    replace N_ := Fr.snoc X60 N_ g_tB
    clear X58 e58
    refine oAlN 336 X60 hx (hb hby d6_335) rfl rfl ?_
    refine oF 339 X60 hx hZ hown (host := "") (Or.inl (hw _ (own_m 40 rfl))) Via.refl e60 (F_received_ob.keep K_ nin_ob) (hb hby d6_336) rfl fun T61 X61 e61 => ?_
    clear X60 e60
    refine oR 342 X61 hx hZ hown (hw _ (own_m 84 rfl)) e61 (F_tieSize_mb.keep K_ nin_mb) (hb hby d6_339) rfl ?_
    refine oIl 344 X61 hx (hb hby d6_342) rfl rfl ?_
    refine oIc 345 X61 hx (hb hby d6_344) 0 rfl rfl ?_
    refine oIs 346 X61 hx hZ e61 V_zB 1 [(.int 1), (.int 0)] (hb hby d6_345) (by decide) rfl (Nat.le_of_ble_eq_true rfl) rfl rfl fun T62 h62 X62 e62 W62 V_zB_ => ?_
    replace K_ := kW K_ W62 4 rfl
    replace V3_iB := V3_iB.other W62 (nd hnd 4 8)
    replace c25_1 := c25_1.other W62 (nd hnd 11 8)
    replace V_rs := V_rs.other W62 (nd hnd 10 8)
    replace V31_oB := V31_oB.other W62 (nd hnd 5 8)
    replace V_sB := V_sB.other W62 (nd hnd 6 8)
    replace V_tB := V_tB.other W62 (nd hnd 7 8)
    replace V_zB := V_zB_
    clear V_zB_ W62
    replace N_ := Fr.snoc X62 N_ g_zB
    clear X61 e61
    refine oAlN 347 X62 hx (hb hby d6_346) rfl rfl ?_
    refine oF 350 X62 hx hZ hown (host := "") (Or.inl (hw _ (own_m 40 rfl))) Via.refl e62 (F_received_ob.keep K_ nin_ob) (hb hby d6_347) rfl fun T63 X63 e63 => ?_
    clear X62 e62
    refine oR 353 X63 hx hZ hown (hw _ (own_m 84 rfl)) e63 (F_tieSize_mb.keep K_ nin_mb) (hb hby d6_350) rfl ?_
    refine oIl 355 X63 hx (hb hby d6_353) rfl rfl ?_
    refine own_by (T' := T63) (g' := (mkF m 356 (Ls27 ob se sc iB oB rs 1 mg oB 1 1 (FP.l2d m0_)) [(.int 1), (.ref zB), (.int 1), (.ref zB)])) (fun t k => Jvm.Free.XT.dup2 X63.here hx rfl (hb hby d6_355) rfl rfl rfl k) ?_
    refine oIa 357 X63 hx hZ e63 V_zB (.int 0) (hb hby d6_356) (by decide) rfl rfl ?_
    refine oIc 358 X63 hx (hb hby d6_357) 1 rfl rfl ?_
    refine oAdd 359 X63 hx (hb hby d6_358) 1 rfl rfl ?_
    refine oIs 360 X63 hx hZ e63 V_zB 1 [(.int 1), (.int 1)] (hb hby d6_359) (by decide) rfl (Nat.le_of_ble_eq_true rfl) rfl rfl fun T65 h65 X65 e65 W65 V_zB_ => ?_
    replace K_ := kW K_ W65 4 rfl
    replace V3_iB := V3_iB.other W65 (nd hnd 4 8)
    replace c25_1 := c25_1.other W65 (nd hnd 11 8)
    replace V_rs := V_rs.other W65 (nd hnd 10 8)
    replace V31_oB := V31_oB.other W65 (nd hnd 5 8)
    replace V_sB := V_sB.other W65 (nd hnd 6 8)
    replace V_tB := V_tB.other W65 (nd hnd 7 8)
    replace V_zB := V_zB_
    clear V_zB_ W65
    replace N_ := Fr.snoc X65 N_ g_zB
    clear X63 e63
    refine oInc 363 X65 hx (hb hby d6_360) (Ls27 ob se sc iB oB rs 1 mg oB 1 2 (FP.l2d m0_)) rfl rfl rfl ?_
    refine oGo 260 X65 hx (hb hby d6_363) (by decide) (by decide) ?_
    refine oIl 262 X65 hx (hb hby d6_260) rfl rfl ?_
    refine oAlN 263 X65 hx (hb hby d6_262) rfl rfl ?_
    refine oF 266 X65 hx hZ hown (host := "") (Or.inl (hw _ (own_m 10 rfl))) Via.refl e65 (F_n_ob.keep K_ nin_ob) (hb hby d6_263) rfl fun T66 X66 e66 => ?_
    clear X65 e65
    refine oCy 366 X66 hx (hb hby d6_266) (flt (by decide)).2.1 (by decide) (by decide) ?_
    exact own_retV X66 hx hlk hret (hb hby d6_366) (by decide) (by decide) (by rw [e66]; exact ⟨(1 : Int32), (0 : Int32), (1 : Int32), (1 : Int32), m1_, m0_, (1 : Int32), (0 : Int32), (0 : Int32), (2 : Int32), (2 : Int32), (1 : Int32), (0 : Int32), rfl, N_, K_, ⟨Or.inr ⟨rfl, rfl, rfl, rfl⟩, Or.inl ⟨rfl, rfl⟩⟩, V3_iB, V31_oB, V_sB, V_tB, V_zB, V_rs, c25_1⟩)
  · refine oFy 102 X10 hx (hb hby d6_89) ((if0 _ _).trans (flt (fun q => hc89_15 ((lw_gt _ _).mp q))).2.2.2) (by decide) (by decide) ?_
    refine oInc 105 X10 hx (hb hby d6_102) (Ls20 ob se sc iB oB rs 1 2) rfl rfl rfl ?_
    refine oGo 58 X10 hx (hb hby d6_105) (by decide) (by decide) ?_
    refine oIl 60 X10 hx (hb hby d6_58) rfl rfl ?_
    refine oAlN 61 X10 hx (hb hby d6_60) rfl rfl ?_
    refine oF 64 X10 hx hZ hown (host := "") (Or.inl (hw _ (own_m 10 rfl))) Via.refl e10 (F_n_ob.keep K_ nin_ob) (hb hby d6_61) rfl fun T67 X67 e67 => ?_
    clear X10 e10
    refine oCy 108 X67 hx (hb hby d6_64) (flt (by decide)).2.1 (by decide) (by decide) ?_
    refine oAl 110 X67 hx (hb hby d6_108) rfl rfl ?_
    refine oIl 112 X67 hx (hb hby d6_110) rfl rfl ?_
    refine oAlN 113 X67 hx (hb hby d6_112) rfl rfl ?_
    refine oF 116 X67 hx hZ hown (host := "") (Or.inl (hw _ (own_m 10 rfl))) Via.refl e67 (F_n_ob.keep K_ nin_ob) (hb hby d6_113) rfl fun T68 X68 e68 => ?_
    clear X67 e67
    refine oIs 117 X68 hx hZ e68 V_rs 1 [(.int 0), (.int 2), (.int j8)] (hb hby d6_116) (by decide) rfl (Nat.le_of_ble_eq_true rfl) rfl rfl fun T69 h69 X69 e69 W69 V_rs_ => ?_
    replace V_sB := V_sB.other W69 (nd hnd 6 10)
    replace V_tB := V_tB.other W69 (nd hnd 7 10)
    replace V_zB := V_zB.other W69 (nd hnd 8 10)
    replace V_mg := V_mg.other W69 (nd hnd 11 10)
    replace K_ := kW K_ W69 5 rfl
    replace V3_iB := V3_iB.other W69 (nd hnd 4 10)
    replace V7_oB := V7_oB.other W69 (nd hnd 5 10)
    replace V_rs := V_rs_
    clear V_rs_ W69
    replace N_ := Fr.snoc X69 N_ g_rs
    clear X68 e68
    refine oAl 119 X69 hx (hb hby d6_117) rfl rfl ?_
    refine oAst 121 X69 hx (hb hby d6_119) (Ls21 ob se sc iB oB rs 1 oB) rfl rfl ?_
    refine oAlN 122 X69 hx (hb hby d6_121) rfl rfl ?_
    refine oR 125 X69 hx hZ hown (hw _ (own_m 81 rfl)) e69 (F_merging_sc.keep K_ nin_sc) (hb hby d6_122) rfl ?_
    refine oAst 127 X69 hx (hb hby d6_125) (Ls22 ob se sc iB oB rs 1 oB mg) rfl rfl ?_
    refine oIl 129 X69 hx (hb hby d6_127) rfl rfl ?_
    refine oIc 130 X69 hx (hb hby d6_129) 1 rfl rfl ?_
    refine oCy 234 X69 hx (hb hby d6_130) (flt (by decide)).2.2.2 (by decide) (by decide) ?_
    refine oAl 236 X69 hx (hb hby d6_234) rfl rfl ?_
    refine oAl 238 X69 hx (hb hby d6_236) rfl rfl ?_
    refine own_by (T' := T69) (g' := (mkF m 254 (Ls22 ob se sc iB oB rs 1 oB mg) [])) (fun t k => Jvm.RoadKit.acmp (g := (mkF m 238 (Ls22 ob se sc iB oB rs 1 oB mg) [(.ref oB), (.ref oB)])) X69 hx rfl rfl rfl (pc0 := 238) (pc' := 254) (same := true) rfl (hb hby d6_238) rfl (decide_eq_true rfl) (by decide) (by decide) k) ?_
    refine oIc 255 X69 hx (hb hby d6_254) 0 rfl rfl ?_
    refine oIst 257 X69 hx (hb hby d6_255) (Ls23 ob se sc iB oB rs 1 oB mg 0) rfl rfl ?_
    refine oIc 258 X69 hx (hb hby d6_257) 0 rfl rfl ?_
    refine oIst 260 X69 hx (hb hby d6_258) (Ls24 ob se sc iB oB rs 1 oB mg 0 0) rfl rfl ?_
    refine oIl 262 X69 hx (hb hby d6_260) rfl rfl ?_
    refine oAlN 263 X69 hx (hb hby d6_262) rfl rfl ?_
    refine oF 266 X69 hx hZ hown (host := "") (Or.inl (hw _ (own_m 10 rfl))) Via.refl e69 (F_n_ob.keep K_ nin_ob) (hb hby d6_263) rfl fun T70 X70 e70 => ?_
    clear X69 e69
    refine oCn 269 X70 hx (hb hby d6_266) (tlt (by decide)).2.1 rfl ?_
    refine oAlN 270 X70 hx (hb hby d6_269) rfl rfl ?_
    refine oAlN 271 X70 hx (hb hby d6_270) rfl rfl ?_
    refine oF 274 X70 hx hZ hown (host := "") (Or.inl (hw _ (own_m 40 rfl))) Via.refl e70 (F_received_ob.keep K_ nin_ob) (hb hby d6_271) rfl fun T71 X71 e71 => ?_
    clear X70 e70
    refine oR 277 X71 hx hZ hown (hw _ (own_m 79 rfl)) e71 (F_order_mb.keep K_ nin_mb) (hb hby d6_274) rfl ?_
    refine oIl 279 X71 hx (hb hby d6_277) rfl rfl ?_
    refine oIa 280 X71 hx hZ e71 V7_oB (.int 0) (hb hby d6_279) (by decide) rfl rfl ?_
    refine oDa 281 X71 hx hZ e71 V3_iB (.double (FP.l2d m0_)) (hb hby d6_280) (by decide) rfl rfl ?_
    refine oDst 283 X71 hx (hb hby d6_281) (Ls27 ob se sc iB oB rs 1 oB mg 0 0 (FP.l2d m0_)) rfl rfl ?_
    refine oAlN 284 X71 hx (hb hby d6_283) rfl rfl ?_
    refine oF 287 X71 hx hZ hown (host := "") (Or.inl (hw _ (own_m 40 rfl))) Via.refl e71 (F_received_ob.keep K_ nin_ob) (hb hby d6_284) rfl fun T74 X74 e74 => ?_
    clear X71 e71
    refine oR 290 X74 hx hZ hown (hw _ (own_m 82 rfl)) e74 (F_sorted_mb.keep K_ nin_mb) (hb hby d6_287) rfl ?_
    refine oIl 292 X74 hx (hb hby d6_290) rfl rfl ?_
    refine oDl 294 X74 hx (hb hby d6_292) rfl rfl ?_
    refine oDs 295 X74 hx hZ e74 V_sB 0 [(.double (FP.l2d m0_)), (.double d3)] (hb hby d6_294) (by decide) rfl (Nat.le_of_ble_eq_true rfl) rfl rfl fun T75 h75 X75 e75 W75 V_sB_ => ?_
    replace V_tB := V_tB.other W75 (nd hnd 7 6)
    replace V_zB := V_zB.other W75 (nd hnd 8 6)
    replace V_mg := V_mg.other W75 (nd hnd 11 6)
    replace K_ := kW K_ W75 2 rfl
    replace V3_iB := V3_iB.other W75 (nd hnd 4 6)
    replace V7_oB := V7_oB.other W75 (nd hnd 5 6)
    replace V_rs := V_rs.other W75 (nd hnd 10 6)
    replace V_sB := V_sB_
    clear V_sB_ W75
    replace N_ := Fr.snoc X75 N_ g_sB
    clear X74 e74
    refine oDl 297 X75 hx (hb hby d6_295) rfl rfl ?_
    refine oAlN 298 X75 hx (hb hby d6_297) rfl rfl ?_
    refine oF 301 X75 hx hZ hown (host := "") (Or.inl (hw _ (own_m 40 rfl))) Via.refl e75 (F_received_ob.keep K_ nin_ob) (hb hby d6_298) rfl fun T76 X76 e76 => ?_
    clear X75 e75
    refine oR 304 X76 hx hZ hown (hw _ (own_m 82 rfl)) e76 (F_sorted_mb.keep K_ nin_mb) (hb hby d6_301) rfl ?_
    refine oIl 306 X76 hx (hb hby d6_304) rfl rfl ?_
    refine oDa 307 X76 hx hZ e76 V_sB (.double (FP.l2d m0_)) (hb hby d6_306) (by decide) rfl rfl ?_
    refine own_by (g' := (mkF m 308 (Ls27 ob se sc iB oB rs 1 oB mg 0 0 (FP.l2d m0_)) [(.int (lcmpW m0_ m0_))])) (fun t k => XS.dcmpS X76.here hx rfl (hb hby d6_307) rfl (dcmpV_w (own_b53 bm0) (own_b53 bm0) _) k) ?_
    refine oFy 315 X76 hx (hb hby d6_308) ((if0 _ _).trans (teq ((lw_eq _ _).mpr (rfl : m0_ = m0_))).1) (by decide) (by decide) ?_
    refine oAlN 316 X76 hx (hb hby d6_315) rfl rfl ?_
    refine oF 319 X76 hx hZ hown (host := "") (Or.inl (hw _ (own_m 40 rfl))) Via.refl e76 (F_received_ob.keep K_ nin_ob) (hb hby d6_316) rfl fun T78 X78 e78 => ?_
    clear X76 e76
    refine oR 322 X78 hx hZ hown (hw _ (own_m 83 rfl)) e78 (F_tieOf_mb.keep K_ nin_mb) (hb hby d6_319) rfl ?_
    refine oAlN 323 X78 hx (hb hby d6_322) rfl rfl ?_
    refine oF 326 X78 hx hZ hown (host := "") (Or.inl (hw _ (own_m 40 rfl))) Via.refl e78 (F_received_ob.keep K_ nin_ob) (hb hby d6_323) rfl fun T79 X79 e79 => ?_
    clear X78 e78
    refine oR 329 X79 hx hZ hown (hw _ (own_m 79 rfl)) e79 (F_order_mb.keep K_ nin_mb) (hb hby d6_326) rfl ?_
    refine oIl 331 X79 hx (hb hby d6_329) rfl rfl ?_
    refine oIa 332 X79 hx hZ e79 V7_oB (.int 0) (hb hby d6_331) (by decide) rfl rfl ?_
    refine oIl 334 X79 hx (hb hby d6_332) rfl rfl ?_
    refine oIs 335 X79 hx hZ e79 V_tB 0 [(.int 0), (.int j3)] (hb hby d6_334) (by decide) rfl (Nat.le_of_ble_eq_true rfl) rfl rfl fun T81 h81 X81 e81 W81 V_tB_ => ?_
    replace V_zB := V_zB.other W81 (nd hnd 8 7)
    replace V_mg := V_mg.other W81 (nd hnd 11 7)
    replace K_ := kW K_ W81 3 rfl
    replace V3_iB := V3_iB.other W81 (nd hnd 4 7)
    replace V7_oB := V7_oB.other W81 (nd hnd 5 7)
    replace V_rs := V_rs.other W81 (nd hnd 10 7)
    replace V_sB := V_sB.other W81 (nd hnd 6 7)
    replace V_tB := V_tB_
    clear V_tB_ W81
    replace N_ := Fr.snoc X81 N_ g_tB
    clear X79 e79
    refine oAlN 336 X81 hx (hb hby d6_335) rfl rfl ?_
    refine oF 339 X81 hx hZ hown (host := "") (Or.inl (hw _ (own_m 40 rfl))) Via.refl e81 (F_received_ob.keep K_ nin_ob) (hb hby d6_336) rfl fun T82 X82 e82 => ?_
    clear X81 e81
    refine oR 342 X82 hx hZ hown (hw _ (own_m 84 rfl)) e82 (F_tieSize_mb.keep K_ nin_mb) (hb hby d6_339) rfl ?_
    refine oIl 344 X82 hx (hb hby d6_342) rfl rfl ?_
    refine oIc 345 X82 hx (hb hby d6_344) 0 rfl rfl ?_
    refine oIs 346 X82 hx hZ e82 V_zB 0 [(.int 0), (.int j5)] (hb hby d6_345) (by decide) rfl (Nat.le_of_ble_eq_true rfl) rfl rfl fun T83 h83 X83 e83 W83 V_zB_ => ?_
    replace V_mg := V_mg.other W83 (nd hnd 11 8)
    replace K_ := kW K_ W83 4 rfl
    replace V3_iB := V3_iB.other W83 (nd hnd 4 8)
    replace V7_oB := V7_oB.other W83 (nd hnd 5 8)
    replace V_rs := V_rs.other W83 (nd hnd 10 8)
    replace V_sB := V_sB.other W83 (nd hnd 6 8)
    replace V_tB := V_tB.other W83 (nd hnd 7 8)
    replace V_zB := V_zB_
    clear V_zB_ W83
    replace N_ := Fr.snoc X83 N_ g_zB
    clear X82 e82
    refine oAlN 347 X83 hx (hb hby d6_346) rfl rfl ?_
    refine oF 350 X83 hx hZ hown (host := "") (Or.inl (hw _ (own_m 40 rfl))) Via.refl e83 (F_received_ob.keep K_ nin_ob) (hb hby d6_347) rfl fun T84 X84 e84 => ?_
    clear X83 e83
    refine oR 353 X84 hx hZ hown (hw _ (own_m 84 rfl)) e84 (F_tieSize_mb.keep K_ nin_mb) (hb hby d6_350) rfl ?_
    refine oIl 355 X84 hx (hb hby d6_353) rfl rfl ?_
    refine own_by (T' := T84) (g' := (mkF m 356 (Ls27 ob se sc iB oB rs 1 oB mg 0 0 (FP.l2d m0_)) [(.int 0), (.ref zB), (.int 0), (.ref zB)])) (fun t k => Jvm.Free.XT.dup2 X84.here hx rfl (hb hby d6_355) rfl rfl rfl k) ?_
    refine oIa 357 X84 hx hZ e84 V_zB (.int 0) (hb hby d6_356) (by decide) rfl rfl ?_
    refine oIc 358 X84 hx (hb hby d6_357) 1 rfl rfl ?_
    refine oAdd 359 X84 hx (hb hby d6_358) 1 rfl rfl ?_
    refine oIs 360 X84 hx hZ e84 V_zB 0 [(.int 1), (.int j5)] (hb hby d6_359) (by decide) rfl (Nat.le_of_ble_eq_true rfl) rfl rfl fun T86 h86 X86 e86 W86 V_zB_ => ?_
    replace V_mg := V_mg.other W86 (nd hnd 11 8)
    replace K_ := kW K_ W86 4 rfl
    replace V3_iB := V3_iB.other W86 (nd hnd 4 8)
    replace V7_oB := V7_oB.other W86 (nd hnd 5 8)
    replace V_rs := V_rs.other W86 (nd hnd 10 8)
    replace V_sB := V_sB.other W86 (nd hnd 6 8)
    replace V_tB := V_tB.other W86 (nd hnd 7 8)
    replace V_zB := V_zB_
    clear V_zB_ W86
    replace N_ := Fr.snoc X86 N_ g_zB
    clear X84 e84
    refine oInc 363 X86 hx (hb hby d6_360) (Ls27 ob se sc iB oB rs 1 oB mg 0 1 (FP.l2d m0_)) rfl rfl rfl ?_
    refine oGo 260 X86 hx (hb hby d6_363) (by decide) (by decide) ?_
    refine oIl 262 X86 hx (hb hby d6_260) rfl rfl ?_
    refine oAlN 263 X86 hx (hb hby d6_262) rfl rfl ?_
    refine oF 266 X86 hx hZ hown (host := "") (Or.inl (hw _ (own_m 10 rfl))) Via.refl e86 (F_n_ob.keep K_ nin_ob) (hb hby d6_263) rfl fun T87 X87 e87 => ?_
    clear X86 e86
    refine oCn 269 X87 hx (hb hby d6_266) (tlt (by decide)).2.1 rfl ?_
    refine oAlN 270 X87 hx (hb hby d6_269) rfl rfl ?_
    refine oAlN 271 X87 hx (hb hby d6_270) rfl rfl ?_
    refine oF 274 X87 hx hZ hown (host := "") (Or.inl (hw _ (own_m 40 rfl))) Via.refl e87 (F_received_ob.keep K_ nin_ob) (hb hby d6_271) rfl fun T88 X88 e88 => ?_
    clear X87 e87
    refine oR 277 X88 hx hZ hown (hw _ (own_m 79 rfl)) e88 (F_order_mb.keep K_ nin_mb) (hb hby d6_274) rfl ?_
    refine oIl 279 X88 hx (hb hby d6_277) rfl rfl ?_
    refine oIa 280 X88 hx hZ e88 V7_oB (.int 1) (hb hby d6_279) (by decide) rfl rfl ?_
    refine oDa 281 X88 hx hZ e88 V3_iB (.double (FP.l2d m1_)) (hb hby d6_280) (by decide) rfl rfl ?_
    refine oDst 283 X88 hx (hb hby d6_281) (Ls27 ob se sc iB oB rs 1 oB mg 0 1 (FP.l2d m1_)) rfl rfl ?_
    refine oAlN 284 X88 hx (hb hby d6_283) rfl rfl ?_
    refine oF 287 X88 hx hZ hown (host := "") (Or.inl (hw _ (own_m 40 rfl))) Via.refl e88 (F_received_ob.keep K_ nin_ob) (hb hby d6_284) rfl fun T91 X91 e91 => ?_
    clear X88 e88
    refine oR 290 X91 hx hZ hown (hw _ (own_m 82 rfl)) e91 (F_sorted_mb.keep K_ nin_mb) (hb hby d6_287) rfl ?_
    refine oIl 292 X91 hx (hb hby d6_290) rfl rfl ?_
    refine oDl 294 X91 hx (hb hby d6_292) rfl rfl ?_
    refine oDs 295 X91 hx hZ e91 V_sB 1 [(.double (FP.l2d m0_)), (.double (FP.l2d m1_))] (hb hby d6_294) (by decide) rfl (Nat.le_of_ble_eq_true rfl) rfl rfl fun T92 h92 X92 e92 W92 V_sB_ => ?_
    replace V_mg := V_mg.other W92 (nd hnd 11 6)
    replace K_ := kW K_ W92 2 rfl
    replace V3_iB := V3_iB.other W92 (nd hnd 4 6)
    replace V7_oB := V7_oB.other W92 (nd hnd 5 6)
    replace V_rs := V_rs.other W92 (nd hnd 10 6)
    replace V_tB := V_tB.other W92 (nd hnd 7 6)
    replace V_zB := V_zB.other W92 (nd hnd 8 6)
    replace V_sB := V_sB_
    clear V_sB_ W92
    replace N_ := Fr.snoc X92 N_ g_sB
    clear X91 e91
    refine oDl 297 X92 hx (hb hby d6_295) rfl rfl ?_
    refine oAlN 298 X92 hx (hb hby d6_297) rfl rfl ?_
    refine oF 301 X92 hx hZ hown (host := "") (Or.inl (hw _ (own_m 40 rfl))) Via.refl e92 (F_received_ob.keep K_ nin_ob) (hb hby d6_298) rfl fun T93 X93 e93 => ?_
    clear X92 e92
    refine oR 304 X93 hx hZ hown (hw _ (own_m 82 rfl)) e93 (F_sorted_mb.keep K_ nin_mb) (hb hby d6_301) rfl ?_
    refine oIl 306 X93 hx (hb hby d6_304) rfl rfl ?_
    refine oDa 307 X93 hx hZ e93 V_sB (.double (FP.l2d m0_)) (hb hby d6_306) (by decide) rfl rfl ?_
    refine own_by (g' := (mkF m 308 (Ls27 ob se sc iB oB rs 1 oB mg 0 1 (FP.l2d m1_)) [(.int (lcmpW m1_ m0_))])) (fun t k => XS.dcmpS X93.here hx rfl (hb hby d6_307) rfl (dcmpV_w (own_b53 bm1) (own_b53 bm0) _) k) ?_
    by_cases hc308_95 : m1_ = m0_
    · refine oFy 315 X93 hx (hb hby d6_308) ((if0 _ _).trans (teq ((lw_eq _ _).mpr hc308_95)).1) (by decide) (by decide) ?_
      refine oAlN 316 X93 hx (hb hby d6_315) rfl rfl ?_
      refine oF 319 X93 hx hZ hown (host := "") (Or.inl (hw _ (own_m 40 rfl))) Via.refl e93 (F_received_ob.keep K_ nin_ob) (hb hby d6_316) rfl fun T96 X96 e96 => ?_
      clear X93 e93
      refine oR 322 X96 hx hZ hown (hw _ (own_m 83 rfl)) e96 (F_tieOf_mb.keep K_ nin_mb) (hb hby d6_319) rfl ?_
      refine oAlN 323 X96 hx (hb hby d6_322) rfl rfl ?_
      refine oF 326 X96 hx hZ hown (host := "") (Or.inl (hw _ (own_m 40 rfl))) Via.refl e96 (F_received_ob.keep K_ nin_ob) (hb hby d6_323) rfl fun T97 X97 e97 => ?_
      clear X96 e96
      refine oR 329 X97 hx hZ hown (hw _ (own_m 79 rfl)) e97 (F_order_mb.keep K_ nin_mb) (hb hby d6_326) rfl ?_
      refine oIl 331 X97 hx (hb hby d6_329) rfl rfl ?_
      refine oIa 332 X97 hx hZ e97 V7_oB (.int 1) (hb hby d6_331) (by decide) rfl rfl ?_
      refine oIl 334 X97 hx (hb hby d6_332) rfl rfl ?_
      refine oIs 335 X97 hx hZ e97 V_tB 1 [(.int 0), (.int 0)] (hb hby d6_334) (by decide) rfl (Nat.le_of_ble_eq_true rfl) rfl rfl fun T99 h99 X99 e99 W99 V_tB_ => ?_
      replace V_mg := V_mg.other W99 (nd hnd 11 7)
      replace K_ := kW K_ W99 3 rfl
      replace V3_iB := V3_iB.other W99 (nd hnd 4 7)
      replace V7_oB := V7_oB.other W99 (nd hnd 5 7)
      replace V_rs := V_rs.other W99 (nd hnd 10 7)
      replace V_zB := V_zB.other W99 (nd hnd 8 7)
      replace V_sB := V_sB.other W99 (nd hnd 6 7)
      replace V_tB := V_tB_
      clear V_tB_ W99
      replace N_ := Fr.snoc X99 N_ g_tB
      clear X97 e97
      refine oAlN 336 X99 hx (hb hby d6_335) rfl rfl ?_
      refine oF 339 X99 hx hZ hown (host := "") (Or.inl (hw _ (own_m 40 rfl))) Via.refl e99 (F_received_ob.keep K_ nin_ob) (hb hby d6_336) rfl fun T100 X100 e100 => ?_
      clear X99 e99
      refine oR 342 X100 hx hZ hown (hw _ (own_m 84 rfl)) e100 (F_tieSize_mb.keep K_ nin_mb) (hb hby d6_339) rfl ?_
      refine oIl 344 X100 hx (hb hby d6_342) rfl rfl ?_
      refine oIc 345 X100 hx (hb hby d6_344) 0 rfl rfl ?_
      refine oIs 346 X100 hx hZ e100 V_zB 1 [(.int 1), (.int 0)] (hb hby d6_345) (by decide) rfl (Nat.le_of_ble_eq_true rfl) rfl rfl fun T101 h101 X101 e101 W101 V_zB_ => ?_
      replace V_mg := V_mg.other W101 (nd hnd 11 8)
      replace K_ := kW K_ W101 4 rfl
      replace V3_iB := V3_iB.other W101 (nd hnd 4 8)
      replace V7_oB := V7_oB.other W101 (nd hnd 5 8)
      replace V_rs := V_rs.other W101 (nd hnd 10 8)
      replace V_sB := V_sB.other W101 (nd hnd 6 8)
      replace V_tB := V_tB.other W101 (nd hnd 7 8)
      replace V_zB := V_zB_
      clear V_zB_ W101
      replace N_ := Fr.snoc X101 N_ g_zB
      clear X100 e100
      refine oAlN 347 X101 hx (hb hby d6_346) rfl rfl ?_
      refine oF 350 X101 hx hZ hown (host := "") (Or.inl (hw _ (own_m 40 rfl))) Via.refl e101 (F_received_ob.keep K_ nin_ob) (hb hby d6_347) rfl fun T102 X102 e102 => ?_
      clear X101 e101
      refine oR 353 X102 hx hZ hown (hw _ (own_m 84 rfl)) e102 (F_tieSize_mb.keep K_ nin_mb) (hb hby d6_350) rfl ?_
      refine oIl 355 X102 hx (hb hby d6_353) rfl rfl ?_
      refine own_by (T' := T102) (g' := (mkF m 356 (Ls27 ob se sc iB oB rs 1 oB mg 0 1 (FP.l2d m1_)) [(.int 0), (.ref zB), (.int 0), (.ref zB)])) (fun t k => Jvm.Free.XT.dup2 X102.here hx rfl (hb hby d6_355) rfl rfl rfl k) ?_
      refine oIa 357 X102 hx hZ e102 V_zB (.int 1) (hb hby d6_356) (by decide) rfl rfl ?_
      refine oIc 358 X102 hx (hb hby d6_357) 1 rfl rfl ?_
      refine oAdd 359 X102 hx (hb hby d6_358) 2 rfl rfl ?_
      refine oIs 360 X102 hx hZ e102 V_zB 0 [(.int 2), (.int 0)] (hb hby d6_359) (by decide) rfl (Nat.le_of_ble_eq_true rfl) rfl rfl fun T104 h104 X104 e104 W104 V_zB_ => ?_
      replace V_mg := V_mg.other W104 (nd hnd 11 8)
      replace K_ := kW K_ W104 4 rfl
      replace V3_iB := V3_iB.other W104 (nd hnd 4 8)
      replace V7_oB := V7_oB.other W104 (nd hnd 5 8)
      replace V_rs := V_rs.other W104 (nd hnd 10 8)
      replace V_sB := V_sB.other W104 (nd hnd 6 8)
      replace V_tB := V_tB.other W104 (nd hnd 7 8)
      replace V_zB := V_zB_
      clear V_zB_ W104
      replace N_ := Fr.snoc X104 N_ g_zB
      clear X102 e102
      refine oInc 363 X104 hx (hb hby d6_360) (Ls27 ob se sc iB oB rs 1 oB mg 0 2 (FP.l2d m1_)) rfl rfl rfl ?_
      refine oGo 260 X104 hx (hb hby d6_363) (by decide) (by decide) ?_
      refine oIl 262 X104 hx (hb hby d6_260) rfl rfl ?_
      refine oAlN 263 X104 hx (hb hby d6_262) rfl rfl ?_
      refine oF 266 X104 hx hZ hown (host := "") (Or.inl (hw _ (own_m 10 rfl))) Via.refl e104 (F_n_ob.keep K_ nin_ob) (hb hby d6_263) rfl fun T105 X105 e105 => ?_
      clear X104 e104
      refine oCy 366 X105 hx (hb hby d6_266) (flt (by decide)).2.1 (by decide) (by decide) ?_
      exact own_retV X105 hx hlk hret (hb hby d6_366) (by decide) (by decide) (by rw [e105]; exact ⟨(0 : Int32), (1 : Int32), (2 : Int32), (0 : Int32), m0_, m1_, (0 : Int32), (0 : Int32), (0 : Int32), (2 : Int32), j8, j9, j10, rfl, N_, K_, ⟨Or.inl ⟨rfl, rfl, rfl, rfl⟩, Or.inr ⟨rfl, rfl, hc308_95.symm⟩⟩, V3_iB, V7_oB, V_sB, V_tB, V_zB, V_rs, V_mg⟩)
    · refine oFn 311 X93 hx (hb hby d6_308) ((if0 _ _).trans (feq (fun q => hc308_95 ((lw_eq _ _).mp q))).1) rfl ?_
      refine oIl 313 X93 hx (hb hby d6_311) rfl rfl ?_
      refine oIst 315 X93 hx (hb hby d6_313) (Ls27 ob se sc iB oB rs 1 oB mg 1 1 (FP.l2d m1_)) rfl rfl ?_
      refine oAlN 316 X93 hx (hb hby d6_315) rfl rfl ?_
      refine oF 319 X93 hx hZ hown (host := "") (Or.inl (hw _ (own_m 40 rfl))) Via.refl e93 (F_received_ob.keep K_ nin_ob) (hb hby d6_316) rfl fun T106 X106 e106 => ?_
      clear X93 e93
      refine oR 322 X106 hx hZ hown (hw _ (own_m 83 rfl)) e106 (F_tieOf_mb.keep K_ nin_mb) (hb hby d6_319) rfl ?_
      refine oAlN 323 X106 hx (hb hby d6_322) rfl rfl ?_
      refine oF 326 X106 hx hZ hown (host := "") (Or.inl (hw _ (own_m 40 rfl))) Via.refl e106 (F_received_ob.keep K_ nin_ob) (hb hby d6_323) rfl fun T107 X107 e107 => ?_
      clear X106 e106
      refine oR 329 X107 hx hZ hown (hw _ (own_m 79 rfl)) e107 (F_order_mb.keep K_ nin_mb) (hb hby d6_326) rfl ?_
      refine oIl 331 X107 hx (hb hby d6_329) rfl rfl ?_
      refine oIa 332 X107 hx hZ e107 V7_oB (.int 1) (hb hby d6_331) (by decide) rfl rfl ?_
      refine oIl 334 X107 hx (hb hby d6_332) rfl rfl ?_
      refine oIs 335 X107 hx hZ e107 V_tB 1 [(.int 0), (.int 1)] (hb hby d6_334) (by decide) rfl (Nat.le_of_ble_eq_true rfl) rfl rfl fun T109 h109 X109 e109 W109 V_tB_ => ?_
      replace V_mg := V_mg.other W109 (nd hnd 11 7)
      replace K_ := kW K_ W109 3 rfl
      replace V3_iB := V3_iB.other W109 (nd hnd 4 7)
      replace V7_oB := V7_oB.other W109 (nd hnd 5 7)
      replace V_rs := V_rs.other W109 (nd hnd 10 7)
      replace V_zB := V_zB.other W109 (nd hnd 8 7)
      replace V_sB := V_sB.other W109 (nd hnd 6 7)
      replace V_tB := V_tB_
      clear V_tB_ W109
      replace N_ := Fr.snoc X109 N_ g_tB
      clear X107 e107
      refine oAlN 336 X109 hx (hb hby d6_335) rfl rfl ?_
      refine oF 339 X109 hx hZ hown (host := "") (Or.inl (hw _ (own_m 40 rfl))) Via.refl e109 (F_received_ob.keep K_ nin_ob) (hb hby d6_336) rfl fun T110 X110 e110 => ?_
      clear X109 e109
      refine oR 342 X110 hx hZ hown (hw _ (own_m 84 rfl)) e110 (F_tieSize_mb.keep K_ nin_mb) (hb hby d6_339) rfl ?_
      refine oIl 344 X110 hx (hb hby d6_342) rfl rfl ?_
      refine oIc 345 X110 hx (hb hby d6_344) 0 rfl rfl ?_
      refine oIs 346 X110 hx hZ e110 V_zB 1 [(.int 1), (.int 0)] (hb hby d6_345) (by decide) rfl (Nat.le_of_ble_eq_true rfl) rfl rfl fun T111 h111 X111 e111 W111 V_zB_ => ?_
      replace V_mg := V_mg.other W111 (nd hnd 11 8)
      replace K_ := kW K_ W111 4 rfl
      replace V3_iB := V3_iB.other W111 (nd hnd 4 8)
      replace V7_oB := V7_oB.other W111 (nd hnd 5 8)
      replace V_rs := V_rs.other W111 (nd hnd 10 8)
      replace V_sB := V_sB.other W111 (nd hnd 6 8)
      replace V_tB := V_tB.other W111 (nd hnd 7 8)
      replace V_zB := V_zB_
      clear V_zB_ W111
      replace N_ := Fr.snoc X111 N_ g_zB
      clear X110 e110
      refine oAlN 347 X111 hx (hb hby d6_346) rfl rfl ?_
      refine oF 350 X111 hx hZ hown (host := "") (Or.inl (hw _ (own_m 40 rfl))) Via.refl e111 (F_received_ob.keep K_ nin_ob) (hb hby d6_347) rfl fun T112 X112 e112 => ?_
      clear X111 e111
      refine oR 353 X112 hx hZ hown (hw _ (own_m 84 rfl)) e112 (F_tieSize_mb.keep K_ nin_mb) (hb hby d6_350) rfl ?_
      refine oIl 355 X112 hx (hb hby d6_353) rfl rfl ?_
      refine own_by (T' := T112) (g' := (mkF m 356 (Ls27 ob se sc iB oB rs 1 oB mg 1 1 (FP.l2d m1_)) [(.int 1), (.ref zB), (.int 1), (.ref zB)])) (fun t k => Jvm.Free.XT.dup2 X112.here hx rfl (hb hby d6_355) rfl rfl rfl k) ?_
      refine oIa 357 X112 hx hZ e112 V_zB (.int 0) (hb hby d6_356) (by decide) rfl rfl ?_
      refine oIc 358 X112 hx (hb hby d6_357) 1 rfl rfl ?_
      refine oAdd 359 X112 hx (hb hby d6_358) 1 rfl rfl ?_
      refine oIs 360 X112 hx hZ e112 V_zB 1 [(.int 1), (.int 1)] (hb hby d6_359) (by decide) rfl (Nat.le_of_ble_eq_true rfl) rfl rfl fun T114 h114 X114 e114 W114 V_zB_ => ?_
      replace V_mg := V_mg.other W114 (nd hnd 11 8)
      replace K_ := kW K_ W114 4 rfl
      replace V3_iB := V3_iB.other W114 (nd hnd 4 8)
      replace V7_oB := V7_oB.other W114 (nd hnd 5 8)
      replace V_rs := V_rs.other W114 (nd hnd 10 8)
      replace V_sB := V_sB.other W114 (nd hnd 6 8)
      replace V_tB := V_tB.other W114 (nd hnd 7 8)
      replace V_zB := V_zB_
      clear V_zB_ W114
      replace N_ := Fr.snoc X114 N_ g_zB
      clear X112 e112
      refine oInc 363 X114 hx (hb hby d6_360) (Ls27 ob se sc iB oB rs 1 oB mg 1 2 (FP.l2d m1_)) rfl rfl rfl ?_
      refine oGo 260 X114 hx (hb hby d6_363) (by decide) (by decide) ?_
      refine oIl 262 X114 hx (hb hby d6_260) rfl rfl ?_
      refine oAlN 263 X114 hx (hb hby d6_262) rfl rfl ?_
      refine oF 266 X114 hx hZ hown (host := "") (Or.inl (hw _ (own_m 10 rfl))) Via.refl e114 (F_n_ob.keep K_ nin_ob) (hb hby d6_263) rfl fun T115 X115 e115 => ?_
      clear X114 e114
      refine oCy 366 X115 hx (hb hby d6_266) (flt (by decide)).2.1 (by decide) (by decide) ?_
      exact own_retV X115 hx hlk hret (hb hby d6_366) (by decide) (by decide) (by rw [e115]; exact ⟨(0 : Int32), (1 : Int32), (1 : Int32), (1 : Int32), m0_, m1_, (0 : Int32), (1 : Int32), (0 : Int32), (2 : Int32), j8, j9, j10, rfl, N_, K_, ⟨Or.inl ⟨rfl, rfl, rfl, rfl⟩, Or.inl ⟨rfl, rfl⟩⟩, V3_iB, V7_oB, V_sB, V_tB, V_zB, V_rs, V_mg⟩)
set_option maxRecDepth 65536 in
set_option maxHeartbeats 40000000 in
theorem own_rec10 (l : Launch) (Z : State) (a0 : Array Value) (hw : ∀ d ∈ tables_1, d.before a0 Z = true) {p : Program} {e : Env} {s : State} {m : MethodId} {below : List Frame} {meth : Method} {c : Code} (hx : p.tables.exec = Jvm.exec) (hby : c.code = prog_42_method_2_code) (hml : c.maxLocals = 13) (hlk : meth.locks = false) (hret : meth.sig.returnType = none) (ob : Addr) (se : Addr) (sc : Addr) (o0 : Int32) (o1 : Int32) (ma : Addr) (oA : Addr) (mb : Addr) (iB : Addr) (oB : Addr) (sB : Addr) (tB : Addr) (zB : Addr) (rs : Addr) (mg : Addr) (koA : ClassId) (kiB : ClassId) (koB : ClassId) (ksB : ClassId) (ktB : ClassId) (kzB : ClassId) (krs : ClassId) (kmg : ClassId) (kse : ClassId) (m0_ : Int64) (m1_ : Int64) (d0 : UInt64) (d1 : UInt64) (d2 : UInt64) (d3 : UInt64) (j0 : Int32) (j1 : Int32) (j2 : Int32) (j3 : Int32) (j4 : Int32) (j5 : Int32) (j6 : Int32) (j7 : Int32) (j8 : Int32) (j9 : Int32) (j10 : Int32) (h0 : Heap) (n0 : Nat) (hnd : ([ob, ma, oA, mb, iB, oB, sB, tB, zB, sc, rs, mg, se] : List Addr).Nodup) (hor : (o0 = 0 ∧ o1 = 1) ∨ (o0 = 1 ∧ o1 = 0)) (bm0 : own_bd 63 m0_) (bm1 : own_bd 63 m1_) {Tj : State} {hj : Heap} {locsj : List Loc}
    (hZ : Z.Warmed39 s.vm) (hown : s.vm.findClass "com/example/firebreak/firebreak/strategies/CountFactor" = some m.cls) (Xj : Stand p l e ({ frames := 2, cells := 0, slots := 0, locals := 60 } : Room) s m #[(.ref ob), (.ref se), (.ref sc)] below meth c Tj locsj 0 0) (ej : Tj.heap = hj)
    (F_received_ob : Fld Z h0 ob "com/example/firebreak/firebreak/strategies/CountFactor" "received" "Lcom/example/firebreak/firebreak/strategies/CountFactor$Messages;" (.ref mb)) (F_messages_ob : Fld Z h0 ob "com/example/firebreak/firebreak/strategies/CountFactor" "messages" "Lcom/example/firebreak/firebreak/strategies/CountFactor$Messages;" (.ref ma)) (F_n_ob : Fld Z h0 ob "com/example/firebreak/firebreak/strategies/CountFactor" "n" "I" (.int 2)) (F_order_ma : Fld Z h0 ma "com/example/firebreak/firebreak/strategies/CountFactor$Messages" "order" "[I" (.ref oA)) (V_oA : Arv Z h0 oA koA .int (2 : Int32) [(.int 1), (.int 0)] (.int 0)) (F_incoming_mb : Fld Z h0 mb "com/example/firebreak/firebreak/strategies/CountFactor$Messages" "incoming" "[D" (.ref iB)) (F_order_mb : Fld Z h0 mb "com/example/firebreak/firebreak/strategies/CountFactor$Messages" "order" "[I" (.ref oB)) (F_sorted_mb : Fld Z h0 mb "com/example/firebreak/firebreak/strategies/CountFactor$Messages" "sorted" "[D" (.ref sB)) (F_tieOf_mb : Fld Z h0 mb "com/example/firebreak/firebreak/strategies/CountFactor$Messages" "tieOf" "[I" (.ref tB)) (F_tieSize_mb : Fld Z h0 mb "com/example/firebreak/firebreak/strategies/CountFactor$Messages" "tieSize" "[I" (.ref zB)) (F_runStarts_sc : Fld Z h0 sc "com/example/firebreak/firebreak/strategies/CountFactor$Scratch" "runStarts" "[I" (.ref rs)) (F_merging_sc : Fld Z h0 sc "com/example/firebreak/firebreak/strategies/CountFactor$Scratch" "merging" "[I" (.ref mg)) (V_sB : Arv Z hj sB ksB .double (2 : Int32) [(.double d2), (.double d3)] (.double (FP.l2d 0))) (V_tB : Arv Z hj tB ktB .int (2 : Int32) [(.int j2), (.int j3)] (.int 0)) (V_zB : Arv Z hj zB kzB .int (2 : Int32) [(.int j4), (.int j5)] (.int 0)) (V_rs : Arv Z hj rs krs .int (3 : Int32) [(.int j6), (.int j7), (.int j8)] (.int 0)) (V_mg : Arv Z hj mg kmg .int (2 : Int32) [(.int j9), (.int j10)] (.int 0)) (V_se : Arv Z h0 se kse .double (2 : Int32) [(.double (FP.l2d m0_)), (.double (FP.l2d m1_))] (.double (FP.l2d 0))) (g_iB : n0 ≤ iB) (g_oB : n0 ≤ oB) (g_sB : n0 ≤ sB) (g_tB : n0 ≤ tB) (g_zB : n0 ≤ zB) (g_rs : n0 ≤ rs) (g_mg : n0 ≤ mg) (Zle : n0 ≤ h0.size) (N_ : Fr n0 locsj) (K_ : Keep h0 hj [iB, oB, sB, tB, zB, rs, mg]) (nin_ob : ob ∉ [iB, oB, sB, tB, zB, rs, mg]) (nin_ma : ma ∉ [iB, oB, sB, tB, zB, rs, mg]) (nin_oA : oA ∉ [iB, oB, sB, tB, zB, rs, mg]) (nin_mb : mb ∉ [iB, oB, sB, tB, zB, rs, mg]) (nin_sc : sc ∉ [iB, oB, sB, tB, zB, rs, mg]) (nin_se : se ∉ [iB, oB, sB, tB, zB, rs, mg]) (V3_iB : Arv Z hj iB kiB .double (2 : Int32) [(.double (FP.l2d m0_)), (.double (FP.l2d m1_))] (.double (FP.l2d 0))) (V7_oB : Arv Z hj oB koB .int (2 : Int32) [(.int 1), (.int 0)] (.int 0)) : own_Goes p.tables e below s (Q6 Z ob se sc o0 o1 ma oA mb iB oB sB tB zB rs mg koA kiB koB ksB ktB kzB krs kmg kse m0_ m1_ d0 d1 d2 d3 j0 j1 j2 j3 j4 j5 j6 j7 j8 j9 j10 h0 n0) ({ frames := 2, cells := 0, slots := 0, locals := 60 } : Room).cells ({ frames := 2, cells := 0, slots := 0, locals := 60 } : Room).slots Tj (mkF m 46 (Ls17 ob se sc iB oB) []) := by
  refine oAlN 47 Xj hx (hb hby d6_46) rfl rfl ?_
  refine oR 50 Xj hx hZ hown (hw _ (own_m 80 rfl)) ej (F_runStarts_sc.keep K_ nin_sc) (hb hby d6_47) rfl ?_
  refine oAst 52 Xj hx (hb hby d6_50) (Ls18 ob se sc iB oB rs) rfl rfl ?_
  refine oIc 53 Xj hx (hb hby d6_52) 0 rfl rfl ?_
  refine oIst 55 Xj hx (hb hby d6_53) (Ls19 ob se sc iB oB rs 0) rfl rfl ?_
  refine oIc 56 Xj hx (hb hby d6_55) 0 rfl rfl ?_
  refine oIst 58 Xj hx (hb hby d6_56) (Ls20 ob se sc iB oB rs 0 0) rfl rfl ?_
  refine oIl 60 Xj hx (hb hby d6_58) rfl rfl ?_
  refine oAlN 61 Xj hx (hb hby d6_60) rfl rfl ?_
  refine oF 64 Xj hx hZ hown (host := "") (Or.inl (hw _ (own_m 10 rfl))) Via.refl ej (F_n_ob.keep K_ nin_ob) (hb hby d6_61) rfl fun T116 X116 e116 => ?_
  refine oCn 67 X116 hx (hb hby d6_64) (tlt (by decide)).2.1 rfl ?_
  refine oIl 69 X116 hx (hb hby d6_67) rfl rfl ?_
  refine oFy 92 X116 hx (hb hby d6_69) ((if0 _ _).trans (teq (by decide)).1) (by decide) (by decide) ?_
  refine oAl 94 X116 hx (hb hby d6_92) rfl rfl ?_
  refine oIl 96 X116 hx (hb hby d6_94) rfl rfl ?_
  refine oInc 99 X116 hx (hb hby d6_96) (Ls20 ob se sc iB oB rs 1 0) rfl rfl rfl ?_
  refine oIl 101 X116 hx (hb hby d6_99) rfl rfl ?_
  refine oIs 102 X116 hx hZ e116 V_rs 0 [(.int 0), (.int j7), (.int j8)] (hb hby d6_101) (by decide) rfl (Nat.le_of_ble_eq_true rfl) rfl rfl fun T117 h117 X117 e117 W117 V_rs_ => ?_
  replace V_sB := V_sB.other W117 (nd hnd 6 10)
  replace V_tB := V_tB.other W117 (nd hnd 7 10)
  replace V_zB := V_zB.other W117 (nd hnd 8 10)
  replace V_mg := V_mg.other W117 (nd hnd 11 10)
  replace K_ := kW K_ W117 5 rfl
  replace V3_iB := V3_iB.other W117 (nd hnd 4 10)
  replace V7_oB := V7_oB.other W117 (nd hnd 5 10)
  replace V_rs := V_rs_
  clear V_rs_ W117
  replace N_ := Fr.snoc X117 N_ g_rs
  clear X116 e116
  refine oInc 105 X117 hx (hb hby d6_102) (Ls20 ob se sc iB oB rs 1 1) rfl rfl rfl ?_
  refine oGo 58 X117 hx (hb hby d6_105) (by decide) (by decide) ?_
  refine oIl 60 X117 hx (hb hby d6_58) rfl rfl ?_
  refine oAlN 61 X117 hx (hb hby d6_60) rfl rfl ?_
  refine oF 64 X117 hx hZ hown (host := "") (Or.inl (hw _ (own_m 10 rfl))) Via.refl e117 (F_n_ob.keep K_ nin_ob) (hb hby d6_61) rfl fun T118 X118 e118 => ?_
  clear X117 e117
  refine oCn 67 X118 hx (hb hby d6_64) (tlt (by decide)).2.1 rfl ?_
  refine oIl 69 X118 hx (hb hby d6_67) rfl rfl ?_
  refine oFn 72 X118 hx (hb hby d6_69) ((if0 _ _).trans (feq (by decide)).1) rfl ?_
  refine oAlN 73 X118 hx (hb hby d6_72) rfl rfl ?_
  refine oAl 75 X118 hx (hb hby d6_73) rfl rfl ?_
  refine oIl 77 X118 hx (hb hby d6_75) rfl rfl ?_
  refine oIa 78 X118 hx hZ e118 V7_oB (.int 0) (hb hby d6_77) (by decide) rfl rfl ?_
  refine oDa 79 X118 hx hZ e118 V3_iB (.double (FP.l2d m0_)) (hb hby d6_78) (by decide) rfl rfl ?_
  refine oAlN 80 X118 hx (hb hby d6_79) rfl rfl ?_
  refine oAl 82 X118 hx (hb hby d6_80) rfl rfl ?_
  refine oIl 84 X118 hx (hb hby d6_82) rfl rfl ?_
  refine oIc 85 X118 hx (hb hby d6_84) 1 rfl rfl ?_
  refine oSub 86 X118 hx (hb hby d6_85) 0 rfl rfl ?_
  refine oIa 87 X118 hx hZ e118 V7_oB (.int 1) (hb hby d6_86) (by decide) rfl rfl ?_
  refine oDa 88 X118 hx hZ e118 V3_iB (.double (FP.l2d m1_)) (hb hby d6_87) (by decide) rfl rfl ?_
  refine own_by (g' := (mkF m 89 (Ls20 ob se sc iB oB rs 1 1) [(.int (lcmpW m0_ m1_))])) (fun t k => XS.dcmpS X118.here hx rfl (hb hby d6_88) rfl (dcmpV_w (own_b53 bm0) (own_b53 bm1) _) k) ?_
  by_cases hc89_123 : m1_ < m0_
  · refine oFn 92 X118 hx (hb hby d6_89) ((if0 _ _).trans (tlt ((lw_gt _ _).mpr hc89_123)).2.2.2) rfl ?_
    refine oAl 94 X118 hx (hb hby d6_92) rfl rfl ?_
    refine oIl 96 X118 hx (hb hby d6_94) rfl rfl ?_
    refine oInc 99 X118 hx (hb hby d6_96) (Ls20 ob se sc iB oB rs 2 1) rfl rfl rfl ?_
    refine oIl 101 X118 hx (hb hby d6_99) rfl rfl ?_
    refine oIs 102 X118 hx hZ e118 V_rs 1 [(.int 0), (.int 1), (.int j8)] (hb hby d6_101) (by decide) rfl (Nat.le_of_ble_eq_true rfl) rfl rfl fun T124 h124 X124 e124 W124 V_rs_ => ?_
    replace V_sB := V_sB.other W124 (nd hnd 6 10)
    replace V_tB := V_tB.other W124 (nd hnd 7 10)
    replace V_zB := V_zB.other W124 (nd hnd 8 10)
    replace V_mg := V_mg.other W124 (nd hnd 11 10)
    replace K_ := kW K_ W124 5 rfl
    replace V3_iB := V3_iB.other W124 (nd hnd 4 10)
    replace V7_oB := V7_oB.other W124 (nd hnd 5 10)
    replace V_rs := V_rs_
    clear V_rs_ W124
    replace N_ := Fr.snoc X124 N_ g_rs
    clear X118 e118
    refine oInc 105 X124 hx (hb hby d6_102) (Ls20 ob se sc iB oB rs 2 2) rfl rfl rfl ?_
    refine oGo 58 X124 hx (hb hby d6_105) (by decide) (by decide) ?_
    refine oIl 60 X124 hx (hb hby d6_58) rfl rfl ?_
    refine oAlN 61 X124 hx (hb hby d6_60) rfl rfl ?_
    refine oF 64 X124 hx hZ hown (host := "") (Or.inl (hw _ (own_m 10 rfl))) Via.refl e124 (F_n_ob.keep K_ nin_ob) (hb hby d6_61) rfl fun T125 X125 e125 => ?_
    clear X124 e124
    refine oCy 108 X125 hx (hb hby d6_64) (flt (by decide)).2.1 (by decide) (by decide) ?_
    refine oAl 110 X125 hx (hb hby d6_108) rfl rfl ?_
    refine oIl 112 X125 hx (hb hby d6_110) rfl rfl ?_
    refine oAlN 113 X125 hx (hb hby d6_112) rfl rfl ?_
    refine oF 116 X125 hx hZ hown (host := "") (Or.inl (hw _ (own_m 10 rfl))) Via.refl e125 (F_n_ob.keep K_ nin_ob) (hb hby d6_113) rfl fun T126 X126 e126 => ?_
    clear X125 e125
    refine oIs 117 X126 hx hZ e126 V_rs 2 [(.int 0), (.int 1), (.int 2)] (hb hby d6_116) (by decide) rfl (Nat.le_of_ble_eq_true rfl) rfl rfl fun T127 h127 X127 e127 W127 V_rs_ => ?_
    replace V_sB := V_sB.other W127 (nd hnd 6 10)
    replace V_tB := V_tB.other W127 (nd hnd 7 10)
    replace V_zB := V_zB.other W127 (nd hnd 8 10)
    replace V_mg := V_mg.other W127 (nd hnd 11 10)
    replace K_ := kW K_ W127 5 rfl
    replace V3_iB := V3_iB.other W127 (nd hnd 4 10)
    replace V7_oB := V7_oB.other W127 (nd hnd 5 10)
    replace V_rs := V_rs_
    clear V_rs_ W127
    replace N_ := Fr.snoc X127 N_ g_rs
    clear X126 e126
    refine oAl 119 X127 hx (hb hby d6_117) rfl rfl ?_
    refine oAst 121 X127 hx (hb hby d6_119) (Ls21 ob se sc iB oB rs 2 oB) rfl rfl ?_
    refine oAlN 122 X127 hx (hb hby d6_121) rfl rfl ?_
    refine oR 125 X127 hx hZ hown (hw _ (own_m 81 rfl)) e127 (F_merging_sc.keep K_ nin_sc) (hb hby d6_122) rfl ?_
    refine oAst 127 X127 hx (hb hby d6_125) (Ls22 ob se sc iB oB rs 2 oB mg) rfl rfl ?_
    refine oIl 129 X127 hx (hb hby d6_127) rfl rfl ?_
    refine oIc 130 X127 hx (hb hby d6_129) 1 rfl rfl ?_
    refine oCn 133 X127 hx (hb hby d6_130) (tlt (by decide)).2.2.2 rfl ?_
    refine oIc 134 X127 hx (hb hby d6_133) 0 rfl rfl ?_
    refine oIst 136 X127 hx (hb hby d6_134) (Ls23 ob se sc iB oB rs 2 oB mg 0) rfl rfl ?_
    refine oIc 137 X127 hx (hb hby d6_136) 0 rfl rfl ?_
    refine oIst 139 X127 hx (hb hby d6_137) (Ls24 ob se sc iB oB rs 2 oB mg 0 0) rfl rfl ?_
    refine oIl 141 X127 hx (hb hby d6_139) rfl rfl ?_
    refine oIl 143 X127 hx (hb hby d6_141) rfl rfl ?_
    refine oCn 146 X127 hx (hb hby d6_143) (tlt (by decide)).2.1 rfl ?_
    refine oAl 148 X127 hx (hb hby d6_146) rfl rfl ?_
    refine oIl 150 X127 hx (hb hby d6_148) rfl rfl ?_
    refine oIc 151 X127 hx (hb hby d6_150) 1 rfl rfl ?_
    refine oAdd 152 X127 hx (hb hby d6_151) 1 rfl rfl ?_
    refine oIl 154 X127 hx (hb hby d6_152) rfl rfl ?_
    obtain ⟨_, _, ⟨T128, L128, k128, n128⟩, -, X128, ⟨Lc128, hQ128, l128, y128, z128⟩, st128⟩ := Jvm.LawKit.callS X127 hx (y := (⟨"java/lang/Math", "min", "(II)I"⟩ : MethodName)) hown (mvT hZ (hw _ (own_m 115 rfl))) (mvT hZ (hw _ (own_m 116 rfl))) (mvT hZ (hw _ (own_m 18 rfl))) (mvT hZ (hw _ (own_m 117 rfl))) (by decide) (backOf (W := 1) (rm13 l Z a0 hw [] (1 : Int32) (2 : Int32) h127 n0 (Nat.le_trans Zle K_.1) ) hZ (hw _ (own_m 117 rfl)) (hw _ (own_m 18 rfl)) (by decide) (by decide)) (g := (mkF m 154 (Ls24 ob se sc iB oB rs 2 oB mg 0 0) [(.int 2), (.int 1), (.ref rs)])) rfl (by rw [hml]; rfl) (argsL := [(.int 1), (.int 2)]) (rest := [(.ref rs)]) (lenOf pd_8 rfl) rfl (own_le rfl) (hb hby d6_154) (fun _ _ => ⟨rfl, e127, (by decide : 0 + 0 ≤ _), (by decide : 0 + 0 ≤ _)⟩)
    dsimp only [Pt.U, Pt.locs, Pt.cells, Pt.slots] at X128 l128 y128 z128 st128 hQ128
    subst l128 y128 z128
    obtain ⟨rfl, Nq128, e128⟩ := hQ128
    replace N_ := Fr.app N_ Nq128
    clear Nq128
    refine own_by (T' := T128) (g' := (mkF m 157 (Ls24 ob se sc iB oB rs 2 oB mg 0 0) [(.int (own_min (1 : Int32) (2 : Int32))), (.ref rs)])) (fun t k => st128 _ k) ?_
    clear st128 X127 e127
    rw [show (own_min (1 : Int32) (2 : Int32)) = (1 : Int32) from by decide]
    refine oIa 158 X128 hx hZ e128 V_rs (.int 1) (hb hby d6_157) (by decide) rfl rfl ?_
    refine oIst 160 X128 hx (hb hby d6_158) (Ls25 ob se sc iB oB rs 2 oB mg 0 0 1) rfl rfl ?_
    refine oAlN 161 X128 hx (hb hby d6_160) rfl rfl ?_
    refine oAl 163 X128 hx (hb hby d6_161) rfl rfl ?_
    refine oAl 165 X128 hx (hb hby d6_163) rfl rfl ?_
    refine oAl 167 X128 hx (hb hby d6_165) rfl rfl ?_
    refine oIl 169 X128 hx (hb hby d6_167) rfl rfl ?_
    refine oIa 170 X128 hx hZ e128 V_rs (.int 0) (hb hby d6_169) (by decide) rfl rfl ?_
    refine oIl 172 X128 hx (hb hby d6_170) rfl rfl ?_
    refine oAl 174 X128 hx (hb hby d6_172) rfl rfl ?_
    refine oIl 176 X128 hx (hb hby d6_174) rfl rfl ?_
    refine oIc 177 X128 hx (hb hby d6_176) 2 rfl rfl ?_
    refine oAdd 178 X128 hx (hb hby d6_177) 2 rfl rfl ?_
    refine oIl 180 X128 hx (hb hby d6_178) rfl rfl ?_
    obtain ⟨_, _, ⟨T131, L131, k131, n131⟩, -, X131, ⟨Lc131, hQ131, l131, y131, z131⟩, st131⟩ := Jvm.LawKit.callS X128 hx (y := (⟨"java/lang/Math", "min", "(II)I"⟩ : MethodName)) hown (mvT hZ (hw _ (own_m 115 rfl))) (mvT hZ (hw _ (own_m 116 rfl))) (mvT hZ (hw _ (own_m 18 rfl))) (mvT hZ (hw _ (own_m 117 rfl))) (by decide) (backOf (W := 6) (rm13 l Z a0 hw [] (2 : Int32) (2 : Int32) h127 n0 (Nat.le_trans Zle K_.1) ) hZ (hw _ (own_m 117 rfl)) (hw _ (own_m 18 rfl)) (by decide) (by decide)) (g := (mkF m 180 (Ls25 ob se sc iB oB rs 2 oB mg 0 0 1) [(.int 2), (.int 2), (.ref rs), (.int 1), (.int 0), (.ref mg), (.ref oB), (.ref iB)])) rfl (by rw [hml]; rfl) (argsL := [(.int 2), (.int 2)]) (rest := [(.ref rs), (.int 1), (.int 0), (.ref mg), (.ref oB), (.ref iB)]) (lenOf pd_8 rfl) rfl (own_le rfl) (hb hby d6_180) (fun _ _ => ⟨rfl, e128, (by decide : 0 + 0 ≤ _), (by decide : 0 + 0 ≤ _)⟩)
    dsimp only [Pt.U, Pt.locs, Pt.cells, Pt.slots] at X131 l131 y131 z131 st131 hQ131
    subst l131 y131 z131
    obtain ⟨rfl, Nq131, e131⟩ := hQ131
    replace N_ := Fr.app N_ Nq131
    clear Nq131
    refine own_by (T' := T131) (g' := (mkF m 183 (Ls25 ob se sc iB oB rs 2 oB mg 0 0 1) [(.int (own_min (2 : Int32) (2 : Int32))), (.ref rs), (.int 1), (.int 0), (.ref mg), (.ref oB), (.ref iB)])) (fun t k => st131 _ k) ?_
    clear st131 X128 e128
    rw [show (own_min (2 : Int32) (2 : Int32)) = (2 : Int32) from by decide]
    refine oIa 184 X131 hx hZ e131 V_rs (.int 2) (hb hby d6_183) (by decide) rfl rfl ?_
    obtain ⟨_, _, ⟨T133, L133, k133, n133⟩, -, X133, ⟨Lc133, hQ133, l133, y133, z133⟩, st133⟩ := Jvm.LawKit.callS X131 hx (y := (⟨"com/example/firebreak/firebreak/strategies/CountFactor", "merge", "([D[I[IIII)V"⟩ : MethodName)) hown (mvT hZ (hw _ (own_m 118 rfl))) (mvT hZ (hw _ (own_m 119 rfl))) (mvT hZ (hw _ (own_m 3 rfl))) (mvT hZ (hw _ (own_m 120 rfl))) (by decide) (backOf (W := 0) (rm1410 l Z a0 hw [] iB oB mg kiB koB kmg m0_ m1_ j9 j10 h127 n0 (Nat.le_trans Zle K_.1) V3_iB V7_oB V_mg g_mg ((nd hnd 4 11)) ((nd hnd 5 11)) (bm0) (bm1) (hc89_123)) hZ (hw _ (own_m 120 rfl)) (hw _ (own_m 3 rfl)) (by decide) (by decide)) (g := (mkF m 184 (Ls25 ob se sc iB oB rs 2 oB mg 0 0 1) [(.int 2), (.int 1), (.int 0), (.ref mg), (.ref oB), (.ref iB)])) rfl (by rw [hml]; rfl) (argsL := [(.ref iB), (.ref oB), (.ref mg), (.int 0), (.int 1), (.int 2)]) (rest := []) (lenOf pd_9 rfl) rfl (own_le rfl) (hb hby d6_184) (fun _ _ => ⟨rfl, e131, (by decide : 0 + 0 ≤ _), (by decide : 0 + 0 ≤ _)⟩)
    dsimp only [Pt.U, Pt.locs, Pt.cells, Pt.slots] at X133 l133 y133 z133 st133 hQ133
    subst l133 y133 z133
    obtain ⟨rfl, Nq133, c133_0, c133_1⟩ := hQ133
    replace N_ := Fr.app N_ Nq133
    clear Nq133
    replace V_sB := V_sB.keep c133_0 (ninS (nd hnd 6 11) nin0)
    replace V_tB := V_tB.keep c133_0 (ninS (nd hnd 7 11) nin0)
    replace V_zB := V_zB.keep c133_0 (ninS (nd hnd 8 11) nin0)
    replace K_ := K_.trans c133_0 (allS (Or.inl (List.mem_of_getElem? (i := 6) rfl)) all0)
    replace V3_iB := V3_iB.keep c133_0 (ninS (nd hnd 4 11) nin0)
    replace V7_oB := V7_oB.keep c133_0 (ninS (nd hnd 5 11) nin0)
    replace V_rs := V_rs.keep c133_0 (ninS (nd hnd 10 11) nin0)
    refine own_by (T' := T133) (g' := (mkF m 187 (Ls25 ob se sc iB oB rs 2 oB mg 0 0 1) [])) (fun t k => st133 _ k) ?_
    clear st133 X131 e131
    refine oAl 189 X133 hx (hb hby d6_187) rfl rfl ?_
    refine oIl 191 X133 hx (hb hby d6_189) rfl rfl ?_
    refine oInc 194 X133 hx (hb hby d6_191) (Ls25 ob se sc iB oB rs 2 oB mg 1 0 1) rfl rfl rfl ?_
    refine oAl 196 X133 hx (hb hby d6_194) rfl rfl ?_
    refine oIl 198 X133 hx (hb hby d6_196) rfl rfl ?_
    refine oIa 199 X133 hx hZ rfl V_rs (.int 0) (hb hby d6_198) (by decide) rfl rfl ?_
    refine oIs 200 X133 hx hZ rfl V_rs 0 [(.int 0), (.int 1), (.int 2)] (hb hby d6_199) (by decide) rfl (Nat.le_of_ble_eq_true rfl) rfl rfl fun T135 h135 X135 e135 W135 V_rs_ => ?_
    replace V_sB := V_sB.other W135 (nd hnd 6 10)
    replace V_tB := V_tB.other W135 (nd hnd 7 10)
    replace V_zB := V_zB.other W135 (nd hnd 8 10)
    replace K_ := kW K_ W135 5 rfl
    replace V3_iB := V3_iB.other W135 (nd hnd 4 10)
    replace V7_oB := V7_oB.other W135 (nd hnd 5 10)
    replace c133_1 := c133_1.other W135 (nd hnd 11 10)
    replace V_rs := V_rs_
    clear V_rs_ W135
    replace N_ := Fr.snoc X135 N_ g_rs
    clear X133
    refine oInc 203 X135 hx (hb hby d6_200) (Ls25 ob se sc iB oB rs 2 oB mg 1 2 1) rfl rfl rfl ?_
    refine oGo 139 X135 hx (hb hby d6_203) (by decide) (by decide) ?_
    refine oIl 141 X135 hx (hb hby d6_139) rfl rfl ?_
    refine oIl 143 X135 hx (hb hby d6_141) rfl rfl ?_
    refine oCy 206 X135 hx (hb hby d6_143) (flt (by decide)).2.1 (by decide) (by decide) ?_
    refine oAl 208 X135 hx (hb hby d6_206) rfl rfl ?_
    refine oIl 210 X135 hx (hb hby d6_208) rfl rfl ?_
    refine oAlN 211 X135 hx (hb hby d6_210) rfl rfl ?_
    refine oF 214 X135 hx hZ hown (host := "") (Or.inl (hw _ (own_m 10 rfl))) Via.refl e135 (F_n_ob.keep K_ nin_ob) (hb hby d6_211) rfl fun T136 X136 e136 => ?_
    clear X135 e135
    refine oIs 215 X136 hx hZ e136 V_rs 1 [(.int 0), (.int 2), (.int 2)] (hb hby d6_214) (by decide) rfl (Nat.le_of_ble_eq_true rfl) rfl rfl fun T137 h137 X137 e137 W137 V_rs_ => ?_
    replace V_sB := V_sB.other W137 (nd hnd 6 10)
    replace V_tB := V_tB.other W137 (nd hnd 7 10)
    replace V_zB := V_zB.other W137 (nd hnd 8 10)
    replace K_ := kW K_ W137 5 rfl
    replace V3_iB := V3_iB.other W137 (nd hnd 4 10)
    replace V7_oB := V7_oB.other W137 (nd hnd 5 10)
    replace c133_1 := c133_1.other W137 (nd hnd 11 10)
    replace V_rs := V_rs_
    clear V_rs_ W137
    replace N_ := Fr.snoc X137 N_ g_rs
    clear X136 e136
    refine oIl 217 X137 hx (hb hby d6_215) rfl rfl ?_
    refine oIst 219 X137 hx (hb hby d6_217) (Ls25 ob se sc iB oB rs 1 oB mg 1 2 1) rfl rfl ?_
    refine oAl 221 X137 hx (hb hby d6_219) rfl rfl ?_
    refine oAst 223 X137 hx (hb hby d6_221) (Ls26 ob se sc iB oB rs 1 oB mg 1 mg 1) rfl rfl ?_
    refine oAl 225 X137 hx (hb hby d6_223) rfl rfl ?_
    refine oAst 227 X137 hx (hb hby d6_225) (Ls26 ob se sc iB oB rs 1 oB oB 1 mg 1) rfl rfl ?_
    refine oAl 229 X137 hx (hb hby d6_227) rfl rfl ?_
    refine oAst 231 X137 hx (hb hby d6_229) (Ls26 ob se sc iB oB rs 1 mg oB 1 mg 1) rfl rfl ?_
    refine oGo 127 X137 hx (hb hby d6_231) (by decide) (by decide) ?_
    refine oIl 129 X137 hx (hb hby d6_127) rfl rfl ?_
    refine oIc 130 X137 hx (hb hby d6_129) 1 rfl rfl ?_
    refine oCy 234 X137 hx (hb hby d6_130) (flt (by decide)).2.2.2 (by decide) (by decide) ?_
    refine oAl 236 X137 hx (hb hby d6_234) rfl rfl ?_
    refine oAl 238 X137 hx (hb hby d6_236) rfl rfl ?_
    refine own_by (T' := T137) (g' := (mkF m 241 (Ls26 ob se sc iB oB rs 1 mg oB 1 mg 1) [])) (fun t k => Jvm.RoadKit.acmp (g := (mkF m 238 (Ls26 ob se sc iB oB rs 1 mg oB 1 mg 1) [(.ref oB), (.ref mg)])) X137 hx rfl rfl rfl (pc0 := 238) (pc' := 241) (same := false) rfl (hb hby d6_238) rfl (decide_eq_false fun q => (nd hnd 11 5) (Value.ref.inj q)) (by decide) (by decide) k) ?_
    refine oAl 243 X137 hx (hb hby d6_241) rfl rfl ?_
    refine oIc 244 X137 hx (hb hby d6_243) 0 rfl rfl ?_
    refine oAl 246 X137 hx (hb hby d6_244) rfl rfl ?_
    refine oIc 247 X137 hx (hb hby d6_246) 0 rfl rfl ?_
    refine oAlN 248 X137 hx (hb hby d6_247) rfl rfl ?_
    refine oF 251 X137 hx hZ hown (host := "") (Or.inl (hw _ (own_m 10 rfl))) Via.refl e137 (F_n_ob.keep K_ nin_ob) (hb hby d6_248) rfl fun T138 X138 e138 => ?_
    clear X137 e137
    obtain ⟨T139, h139, L139, X139, e139, Nn139, K139, Vn139, st139⟩ := cpA X138 hx hZ hown (hw _ (own_m 75 rfl)) (hw _ (own_m 78 rfl)) (hw _ (own_m 76 rfl)) (hw _ (own_m 77 rfl)) e138 (us := [(.int 0), (.int 1)]) c133_1 V7_oB (Or.inl ⟨rfl, rfl⟩) (by decide) (by decide) (by decide) (by decide) (by decide) rfl (Nat.le_of_ble_eq_true rfl) N_ g_oB (g := (mkF m 251 (Ls26 ob se sc iB oB rs 1 mg oB 1 mg 1) [(.int 2), (.int 0), (.ref oB), (.int 0), (.ref mg)])) rfl (by rw [hml]; rfl) (rest := []) rfl (hb hby d6_251) (by decide) (W := 0) (own_le rfl) (by decide)
    replace N_ := Nn139
    replace V_sB := V_sB.keep K139 (ninS (nd hnd 6 5) nin0)
    replace V_tB := V_tB.keep K139 (ninS (nd hnd 7 5) nin0)
    replace V_zB := V_zB.keep K139 (ninS (nd hnd 8 5) nin0)
    replace K_ := K_.trans K139 (allS (Or.inl (List.mem_of_getElem? (i := 1) rfl)) all0)
    replace V3_iB := V3_iB.keep K139 (ninS (nd hnd 4 5) nin0)
    replace c133_1 := c133_1.keep K139 (ninS (nd hnd 11 5) nin0)
    replace V_rs := V_rs.keep K139 (ninS (nd hnd 10 5) nin0)
    have V139_oB : Arv Z h139 oB koB .int (2 : Int32) [(.int 0), (.int 1)] (.int 0) := Vn139
    clear K139 Vn139
    refine own_by (T' := T139) (g' := (mkF m 254 (Ls26 ob se sc iB oB rs 1 mg oB 1 mg 1) [])) (fun t k => st139 t k) ?_
    clear st139 X138 e138
    refine oIc 255 X139 hx (hb hby d6_254) 0 rfl rfl ?_
    refine oIst 257 X139 hx (hb hby d6_255) (Ls26 ob se sc iB oB rs 1 mg oB 0 mg 1) rfl rfl ?_
    refine oIc 258 X139 hx (hb hby d6_257) 0 rfl rfl ?_
    refine oIst 260 X139 hx (hb hby d6_258) (Ls25 ob se sc iB oB rs 1 mg oB 0 0 1) rfl rfl ?_
    refine oIl 262 X139 hx (hb hby d6_260) rfl rfl ?_
    refine oAlN 263 X139 hx (hb hby d6_262) rfl rfl ?_
    refine oF 266 X139 hx hZ hown (host := "") (Or.inl (hw _ (own_m 10 rfl))) Via.refl e139 (F_n_ob.keep K_ nin_ob) (hb hby d6_263) rfl fun T140 X140 e140 => ?_
    clear X139 e139
    refine oCn 269 X140 hx (hb hby d6_266) (tlt (by decide)).2.1 rfl ?_
    refine oAlN 270 X140 hx (hb hby d6_269) rfl rfl ?_
    refine oAlN 271 X140 hx (hb hby d6_270) rfl rfl ?_
    refine oF 274 X140 hx hZ hown (host := "") (Or.inl (hw _ (own_m 40 rfl))) Via.refl e140 (F_received_ob.keep K_ nin_ob) (hb hby d6_271) rfl fun T141 X141 e141 => ?_
    clear X140 e140
    refine oR 277 X141 hx hZ hown (hw _ (own_m 79 rfl)) e141 (F_order_mb.keep K_ nin_mb) (hb hby d6_274) rfl ?_
    refine oIl 279 X141 hx (hb hby d6_277) rfl rfl ?_
    refine oIa 280 X141 hx hZ e141 V139_oB (.int 0) (hb hby d6_279) (by decide) rfl rfl ?_
    refine oDa 281 X141 hx hZ e141 V3_iB (.double (FP.l2d m0_)) (hb hby d6_280) (by decide) rfl rfl ?_
    refine oDst 283 X141 hx (hb hby d6_281) (Ls27 ob se sc iB oB rs 1 mg oB 0 0 (FP.l2d m0_)) rfl rfl ?_
    refine oAlN 284 X141 hx (hb hby d6_283) rfl rfl ?_
    refine oF 287 X141 hx hZ hown (host := "") (Or.inl (hw _ (own_m 40 rfl))) Via.refl e141 (F_received_ob.keep K_ nin_ob) (hb hby d6_284) rfl fun T144 X144 e144 => ?_
    clear X141 e141
    refine oR 290 X144 hx hZ hown (hw _ (own_m 82 rfl)) e144 (F_sorted_mb.keep K_ nin_mb) (hb hby d6_287) rfl ?_
    refine oIl 292 X144 hx (hb hby d6_290) rfl rfl ?_
    refine oDl 294 X144 hx (hb hby d6_292) rfl rfl ?_
    refine oDs 295 X144 hx hZ e144 V_sB 0 [(.double (FP.l2d m0_)), (.double d3)] (hb hby d6_294) (by decide) rfl (Nat.le_of_ble_eq_true rfl) rfl rfl fun T145 h145 X145 e145 W145 V_sB_ => ?_
    replace V_tB := V_tB.other W145 (nd hnd 7 6)
    replace V_zB := V_zB.other W145 (nd hnd 8 6)
    replace K_ := kW K_ W145 2 rfl
    replace V3_iB := V3_iB.other W145 (nd hnd 4 6)
    replace c133_1 := c133_1.other W145 (nd hnd 11 6)
    replace V_rs := V_rs.other W145 (nd hnd 10 6)
    replace V139_oB := V139_oB.other W145 (nd hnd 5 6)
    replace V_sB := V_sB_
    clear V_sB_ W145
    replace N_ := Fr.snoc X145 N_ g_sB
    clear X144 e144
    refine oDl 297 X145 hx (hb hby d6_295) rfl rfl ?_
    refine oAlN 298 X145 hx (hb hby d6_297) rfl rfl ?_
    refine oF 301 X145 hx hZ hown (host := "") (Or.inl (hw _ (own_m 40 rfl))) Via.refl e145 (F_received_ob.keep K_ nin_ob) (hb hby d6_298) rfl fun T146 X146 e146 => ?_
    clear X145 e145
    refine oR 304 X146 hx hZ hown (hw _ (own_m 82 rfl)) e146 (F_sorted_mb.keep K_ nin_mb) (hb hby d6_301) rfl ?_
    refine oIl 306 X146 hx (hb hby d6_304) rfl rfl ?_
    refine oDa 307 X146 hx hZ e146 V_sB (.double (FP.l2d m0_)) (hb hby d6_306) (by decide) rfl rfl ?_
    refine own_by (g' := (mkF m 308 (Ls27 ob se sc iB oB rs 1 mg oB 0 0 (FP.l2d m0_)) [(.int (lcmpW m0_ m0_))])) (fun t k => XS.dcmpS X146.here hx rfl (hb hby d6_307) rfl (dcmpV_w (own_b53 bm0) (own_b53 bm0) _) k) ?_
    refine oFy 315 X146 hx (hb hby d6_308) ((if0 _ _).trans (teq ((lw_eq _ _).mpr (rfl : m0_ = m0_))).1) (by decide) (by decide) ?_
    refine oAlN 316 X146 hx (hb hby d6_315) rfl rfl ?_
    refine oF 319 X146 hx hZ hown (host := "") (Or.inl (hw _ (own_m 40 rfl))) Via.refl e146 (F_received_ob.keep K_ nin_ob) (hb hby d6_316) rfl fun T148 X148 e148 => ?_
    clear X146 e146
    refine oR 322 X148 hx hZ hown (hw _ (own_m 83 rfl)) e148 (F_tieOf_mb.keep K_ nin_mb) (hb hby d6_319) rfl ?_
    refine oAlN 323 X148 hx (hb hby d6_322) rfl rfl ?_
    refine oF 326 X148 hx hZ hown (host := "") (Or.inl (hw _ (own_m 40 rfl))) Via.refl e148 (F_received_ob.keep K_ nin_ob) (hb hby d6_323) rfl fun T149 X149 e149 => ?_
    clear X148 e148
    refine oR 329 X149 hx hZ hown (hw _ (own_m 79 rfl)) e149 (F_order_mb.keep K_ nin_mb) (hb hby d6_326) rfl ?_
    refine oIl 331 X149 hx (hb hby d6_329) rfl rfl ?_
    refine oIa 332 X149 hx hZ e149 V139_oB (.int 0) (hb hby d6_331) (by decide) rfl rfl ?_
    refine oIl 334 X149 hx (hb hby d6_332) rfl rfl ?_
    refine oIs 335 X149 hx hZ e149 V_tB 0 [(.int 0), (.int j3)] (hb hby d6_334) (by decide) rfl (Nat.le_of_ble_eq_true rfl) rfl rfl fun T151 h151 X151 e151 W151 V_tB_ => ?_
    replace V_zB := V_zB.other W151 (nd hnd 8 7)
    replace K_ := kW K_ W151 3 rfl
    replace V3_iB := V3_iB.other W151 (nd hnd 4 7)
    replace c133_1 := c133_1.other W151 (nd hnd 11 7)
    replace V_rs := V_rs.other W151 (nd hnd 10 7)
    replace V139_oB := V139_oB.other W151 (nd hnd 5 7)
    replace V_sB := V_sB.other W151 (nd hnd 6 7)
    replace V_tB := V_tB_
    clear V_tB_ W151
    replace N_ := Fr.snoc X151 N_ g_tB
    clear X149 e149
    refine oAlN 336 X151 hx (hb hby d6_335) rfl rfl ?_
    refine oF 339 X151 hx hZ hown (host := "") (Or.inl (hw _ (own_m 40 rfl))) Via.refl e151 (F_received_ob.keep K_ nin_ob) (hb hby d6_336) rfl fun T152 X152 e152 => ?_
    clear X151 e151
    refine oR 342 X152 hx hZ hown (hw _ (own_m 84 rfl)) e152 (F_tieSize_mb.keep K_ nin_mb) (hb hby d6_339) rfl ?_
    refine oIl 344 X152 hx (hb hby d6_342) rfl rfl ?_
    refine oIc 345 X152 hx (hb hby d6_344) 0 rfl rfl ?_
    refine oIs 346 X152 hx hZ e152 V_zB 0 [(.int 0), (.int j5)] (hb hby d6_345) (by decide) rfl (Nat.le_of_ble_eq_true rfl) rfl rfl fun T153 h153 X153 e153 W153 V_zB_ => ?_
    replace K_ := kW K_ W153 4 rfl
    replace V3_iB := V3_iB.other W153 (nd hnd 4 8)
    replace c133_1 := c133_1.other W153 (nd hnd 11 8)
    replace V_rs := V_rs.other W153 (nd hnd 10 8)
    replace V139_oB := V139_oB.other W153 (nd hnd 5 8)
    replace V_sB := V_sB.other W153 (nd hnd 6 8)
    replace V_tB := V_tB.other W153 (nd hnd 7 8)
    replace V_zB := V_zB_
    clear V_zB_ W153
    replace N_ := Fr.snoc X153 N_ g_zB
    clear X152 e152
    refine oAlN 347 X153 hx (hb hby d6_346) rfl rfl ?_
    refine oF 350 X153 hx hZ hown (host := "") (Or.inl (hw _ (own_m 40 rfl))) Via.refl e153 (F_received_ob.keep K_ nin_ob) (hb hby d6_347) rfl fun T154 X154 e154 => ?_
    clear X153 e153
    refine oR 353 X154 hx hZ hown (hw _ (own_m 84 rfl)) e154 (F_tieSize_mb.keep K_ nin_mb) (hb hby d6_350) rfl ?_
    refine oIl 355 X154 hx (hb hby d6_353) rfl rfl ?_
    refine own_by (T' := T154) (g' := (mkF m 356 (Ls27 ob se sc iB oB rs 1 mg oB 0 0 (FP.l2d m0_)) [(.int 0), (.ref zB), (.int 0), (.ref zB)])) (fun t k => Jvm.Free.XT.dup2 X154.here hx rfl (hb hby d6_355) rfl rfl rfl k) ?_
    refine oIa 357 X154 hx hZ e154 V_zB (.int 0) (hb hby d6_356) (by decide) rfl rfl ?_
    refine oIc 358 X154 hx (hb hby d6_357) 1 rfl rfl ?_
    refine oAdd 359 X154 hx (hb hby d6_358) 1 rfl rfl ?_
    refine oIs 360 X154 hx hZ e154 V_zB 0 [(.int 1), (.int j5)] (hb hby d6_359) (by decide) rfl (Nat.le_of_ble_eq_true rfl) rfl rfl fun T156 h156 X156 e156 W156 V_zB_ => ?_
    replace K_ := kW K_ W156 4 rfl
    replace V3_iB := V3_iB.other W156 (nd hnd 4 8)
    replace c133_1 := c133_1.other W156 (nd hnd 11 8)
    replace V_rs := V_rs.other W156 (nd hnd 10 8)
    replace V139_oB := V139_oB.other W156 (nd hnd 5 8)
    replace V_sB := V_sB.other W156 (nd hnd 6 8)
    replace V_tB := V_tB.other W156 (nd hnd 7 8)
    replace V_zB := V_zB_
    clear V_zB_ W156
    replace N_ := Fr.snoc X156 N_ g_zB
    clear X154 e154
    refine oInc 363 X156 hx (hb hby d6_360) (Ls27 ob se sc iB oB rs 1 mg oB 0 1 (FP.l2d m0_)) rfl rfl rfl ?_
    refine oGo 260 X156 hx (hb hby d6_363) (by decide) (by decide) ?_
    refine oIl 262 X156 hx (hb hby d6_260) rfl rfl ?_
    refine oAlN 263 X156 hx (hb hby d6_262) rfl rfl ?_
    refine oF 266 X156 hx hZ hown (host := "") (Or.inl (hw _ (own_m 10 rfl))) Via.refl e156 (F_n_ob.keep K_ nin_ob) (hb hby d6_263) rfl fun T157 X157 e157 => ?_
    clear X156 e156
    refine oCn 269 X157 hx (hb hby d6_266) (tlt (by decide)).2.1 rfl ?_
    refine oAlN 270 X157 hx (hb hby d6_269) rfl rfl ?_
    refine oAlN 271 X157 hx (hb hby d6_270) rfl rfl ?_
    refine oF 274 X157 hx hZ hown (host := "") (Or.inl (hw _ (own_m 40 rfl))) Via.refl e157 (F_received_ob.keep K_ nin_ob) (hb hby d6_271) rfl fun T158 X158 e158 => ?_
    clear X157 e157
    refine oR 277 X158 hx hZ hown (hw _ (own_m 79 rfl)) e158 (F_order_mb.keep K_ nin_mb) (hb hby d6_274) rfl ?_
    refine oIl 279 X158 hx (hb hby d6_277) rfl rfl ?_
    refine oIa 280 X158 hx hZ e158 V139_oB (.int 1) (hb hby d6_279) (by decide) rfl rfl ?_
    refine oDa 281 X158 hx hZ e158 V3_iB (.double (FP.l2d m1_)) (hb hby d6_280) (by decide) rfl rfl ?_
    refine oDst 283 X158 hx (hb hby d6_281) (Ls27 ob se sc iB oB rs 1 mg oB 0 1 (FP.l2d m1_)) rfl rfl ?_
    refine oAlN 284 X158 hx (hb hby d6_283) rfl rfl ?_
    refine oF 287 X158 hx hZ hown (host := "") (Or.inl (hw _ (own_m 40 rfl))) Via.refl e158 (F_received_ob.keep K_ nin_ob) (hb hby d6_284) rfl fun T161 X161 e161 => ?_
    clear X158 e158
    refine oR 290 X161 hx hZ hown (hw _ (own_m 82 rfl)) e161 (F_sorted_mb.keep K_ nin_mb) (hb hby d6_287) rfl ?_
    refine oIl 292 X161 hx (hb hby d6_290) rfl rfl ?_
    refine oDl 294 X161 hx (hb hby d6_292) rfl rfl ?_
    refine oDs 295 X161 hx hZ e161 V_sB 1 [(.double (FP.l2d m0_)), (.double (FP.l2d m1_))] (hb hby d6_294) (by decide) rfl (Nat.le_of_ble_eq_true rfl) rfl rfl fun T162 h162 X162 e162 W162 V_sB_ => ?_
    replace K_ := kW K_ W162 2 rfl
    replace V3_iB := V3_iB.other W162 (nd hnd 4 6)
    replace c133_1 := c133_1.other W162 (nd hnd 11 6)
    replace V_rs := V_rs.other W162 (nd hnd 10 6)
    replace V139_oB := V139_oB.other W162 (nd hnd 5 6)
    replace V_tB := V_tB.other W162 (nd hnd 7 6)
    replace V_zB := V_zB.other W162 (nd hnd 8 6)
    replace V_sB := V_sB_
    clear V_sB_ W162
    replace N_ := Fr.snoc X162 N_ g_sB
    clear X161 e161
    refine oDl 297 X162 hx (hb hby d6_295) rfl rfl ?_
    refine oAlN 298 X162 hx (hb hby d6_297) rfl rfl ?_
    refine oF 301 X162 hx hZ hown (host := "") (Or.inl (hw _ (own_m 40 rfl))) Via.refl e162 (F_received_ob.keep K_ nin_ob) (hb hby d6_298) rfl fun T163 X163 e163 => ?_
    clear X162 e162
    refine oR 304 X163 hx hZ hown (hw _ (own_m 82 rfl)) e163 (F_sorted_mb.keep K_ nin_mb) (hb hby d6_301) rfl ?_
    refine oIl 306 X163 hx (hb hby d6_304) rfl rfl ?_
    refine oDa 307 X163 hx hZ e163 V_sB (.double (FP.l2d m0_)) (hb hby d6_306) (by decide) rfl rfl ?_
    refine own_by (g' := (mkF m 308 (Ls27 ob se sc iB oB rs 1 mg oB 0 1 (FP.l2d m1_)) [(.int (lcmpW m1_ m0_))])) (fun t k => XS.dcmpS X163.here hx rfl (hb hby d6_307) rfl (dcmpV_w (own_b53 bm1) (own_b53 bm0) _) k) ?_
    refine oFn 311 X163 hx (hb hby d6_308) ((if0 _ _).trans (feq (fun q => (own_ltne hc89_123) ((lw_eq _ _).mp q))).1) rfl ?_
    refine oIl 313 X163 hx (hb hby d6_311) rfl rfl ?_
    refine oIst 315 X163 hx (hb hby d6_313) (Ls27 ob se sc iB oB rs 1 mg oB 1 1 (FP.l2d m1_)) rfl rfl ?_
    refine oAlN 316 X163 hx (hb hby d6_315) rfl rfl ?_
    refine oF 319 X163 hx hZ hown (host := "") (Or.inl (hw _ (own_m 40 rfl))) Via.refl e163 (F_received_ob.keep K_ nin_ob) (hb hby d6_316) rfl fun T165 X165 e165 => ?_
    clear X163 e163
    refine oR 322 X165 hx hZ hown (hw _ (own_m 83 rfl)) e165 (F_tieOf_mb.keep K_ nin_mb) (hb hby d6_319) rfl ?_
    refine oAlN 323 X165 hx (hb hby d6_322) rfl rfl ?_
    refine oF 326 X165 hx hZ hown (host := "") (Or.inl (hw _ (own_m 40 rfl))) Via.refl e165 (F_received_ob.keep K_ nin_ob) (hb hby d6_323) rfl fun T166 X166 e166 => ?_
    clear X165 e165
    refine oR 329 X166 hx hZ hown (hw _ (own_m 79 rfl)) e166 (F_order_mb.keep K_ nin_mb) (hb hby d6_326) rfl ?_
    refine oIl 331 X166 hx (hb hby d6_329) rfl rfl ?_
    refine oIa 332 X166 hx hZ e166 V139_oB (.int 1) (hb hby d6_331) (by decide) rfl rfl ?_
    refine oIl 334 X166 hx (hb hby d6_332) rfl rfl ?_
    refine oIs 335 X166 hx hZ e166 V_tB 1 [(.int 0), (.int 1)] (hb hby d6_334) (by decide) rfl (Nat.le_of_ble_eq_true rfl) rfl rfl fun T168 h168 X168 e168 W168 V_tB_ => ?_
    replace K_ := kW K_ W168 3 rfl
    replace V3_iB := V3_iB.other W168 (nd hnd 4 7)
    replace c133_1 := c133_1.other W168 (nd hnd 11 7)
    replace V_rs := V_rs.other W168 (nd hnd 10 7)
    replace V139_oB := V139_oB.other W168 (nd hnd 5 7)
    replace V_zB := V_zB.other W168 (nd hnd 8 7)
    replace V_sB := V_sB.other W168 (nd hnd 6 7)
    replace V_tB := V_tB_
    clear V_tB_ W168
    replace N_ := Fr.snoc X168 N_ g_tB
    clear X166 e166
    refine oAlN 336 X168 hx (hb hby d6_335) rfl rfl ?_
    refine oF 339 X168 hx hZ hown (host := "") (Or.inl (hw _ (own_m 40 rfl))) Via.refl e168 (F_received_ob.keep K_ nin_ob) (hb hby d6_336) rfl fun T169 X169 e169 => ?_
    clear X168 e168
    refine oR 342 X169 hx hZ hown (hw _ (own_m 84 rfl)) e169 (F_tieSize_mb.keep K_ nin_mb) (hb hby d6_339) rfl ?_
    refine oIl 344 X169 hx (hb hby d6_342) rfl rfl ?_
    refine oIc 345 X169 hx (hb hby d6_344) 0 rfl rfl ?_
    refine oIs 346 X169 hx hZ e169 V_zB 1 [(.int 1), (.int 0)] (hb hby d6_345) (by decide) rfl (Nat.le_of_ble_eq_true rfl) rfl rfl fun T170 h170 X170 e170 W170 V_zB_ => ?_
    replace K_ := kW K_ W170 4 rfl
    replace V3_iB := V3_iB.other W170 (nd hnd 4 8)
    replace c133_1 := c133_1.other W170 (nd hnd 11 8)
    replace V_rs := V_rs.other W170 (nd hnd 10 8)
    replace V139_oB := V139_oB.other W170 (nd hnd 5 8)
    replace V_sB := V_sB.other W170 (nd hnd 6 8)
    replace V_tB := V_tB.other W170 (nd hnd 7 8)
    replace V_zB := V_zB_
    clear V_zB_ W170
    replace N_ := Fr.snoc X170 N_ g_zB
    clear X169 e169
    refine oAlN 347 X170 hx (hb hby d6_346) rfl rfl ?_
    refine oF 350 X170 hx hZ hown (host := "") (Or.inl (hw _ (own_m 40 rfl))) Via.refl e170 (F_received_ob.keep K_ nin_ob) (hb hby d6_347) rfl fun T171 X171 e171 => ?_
    clear X170 e170
    refine oR 353 X171 hx hZ hown (hw _ (own_m 84 rfl)) e171 (F_tieSize_mb.keep K_ nin_mb) (hb hby d6_350) rfl ?_
    refine oIl 355 X171 hx (hb hby d6_353) rfl rfl ?_
    refine own_by (T' := T171) (g' := (mkF m 356 (Ls27 ob se sc iB oB rs 1 mg oB 1 1 (FP.l2d m1_)) [(.int 1), (.ref zB), (.int 1), (.ref zB)])) (fun t k => Jvm.Free.XT.dup2 X171.here hx rfl (hb hby d6_355) rfl rfl rfl k) ?_
    refine oIa 357 X171 hx hZ e171 V_zB (.int 0) (hb hby d6_356) (by decide) rfl rfl ?_
    refine oIc 358 X171 hx (hb hby d6_357) 1 rfl rfl ?_
    refine oAdd 359 X171 hx (hb hby d6_358) 1 rfl rfl ?_
    refine oIs 360 X171 hx hZ e171 V_zB 1 [(.int 1), (.int 1)] (hb hby d6_359) (by decide) rfl (Nat.le_of_ble_eq_true rfl) rfl rfl fun T173 h173 X173 e173 W173 V_zB_ => ?_
    replace K_ := kW K_ W173 4 rfl
    replace V3_iB := V3_iB.other W173 (nd hnd 4 8)
    replace c133_1 := c133_1.other W173 (nd hnd 11 8)
    replace V_rs := V_rs.other W173 (nd hnd 10 8)
    replace V139_oB := V139_oB.other W173 (nd hnd 5 8)
    replace V_sB := V_sB.other W173 (nd hnd 6 8)
    replace V_tB := V_tB.other W173 (nd hnd 7 8)
    replace V_zB := V_zB_
    clear V_zB_ W173
    replace N_ := Fr.snoc X173 N_ g_zB
    clear X171 e171
    refine oInc 363 X173 hx (hb hby d6_360) (Ls27 ob se sc iB oB rs 1 mg oB 1 2 (FP.l2d m1_)) rfl rfl rfl ?_
    refine oGo 260 X173 hx (hb hby d6_363) (by decide) (by decide) ?_
    refine oIl 262 X173 hx (hb hby d6_260) rfl rfl ?_
    refine oAlN 263 X173 hx (hb hby d6_262) rfl rfl ?_
    refine oF 266 X173 hx hZ hown (host := "") (Or.inl (hw _ (own_m 10 rfl))) Via.refl e173 (F_n_ob.keep K_ nin_ob) (hb hby d6_263) rfl fun T174 X174 e174 => ?_
    clear X173 e173
    refine oCy 366 X174 hx (hb hby d6_266) (flt (by decide)).2.1 (by decide) (by decide) ?_
    exact own_retV X174 hx hlk hret (hb hby d6_366) (by decide) (by decide) (by rw [e174]; exact ⟨(0 : Int32), (1 : Int32), (1 : Int32), (1 : Int32), m0_, m1_, (0 : Int32), (1 : Int32), (0 : Int32), (2 : Int32), (2 : Int32), (0 : Int32), (1 : Int32), rfl, N_, K_, ⟨Or.inl ⟨rfl, rfl, rfl, rfl⟩, Or.inl ⟨rfl, rfl⟩⟩, V3_iB, V139_oB, V_sB, V_tB, V_zB, V_rs, c133_1⟩)
  · refine oFy 102 X118 hx (hb hby d6_89) ((if0 _ _).trans (flt (fun q => hc89_123 ((lw_gt _ _).mp q))).2.2.2) (by decide) (by decide) ?_
    refine oInc 105 X118 hx (hb hby d6_102) (Ls20 ob se sc iB oB rs 1 2) rfl rfl rfl ?_
    refine oGo 58 X118 hx (hb hby d6_105) (by decide) (by decide) ?_
    refine oIl 60 X118 hx (hb hby d6_58) rfl rfl ?_
    refine oAlN 61 X118 hx (hb hby d6_60) rfl rfl ?_
    refine oF 64 X118 hx hZ hown (host := "") (Or.inl (hw _ (own_m 10 rfl))) Via.refl e118 (F_n_ob.keep K_ nin_ob) (hb hby d6_61) rfl fun T175 X175 e175 => ?_
    clear X118 e118
    refine oCy 108 X175 hx (hb hby d6_64) (flt (by decide)).2.1 (by decide) (by decide) ?_
    refine oAl 110 X175 hx (hb hby d6_108) rfl rfl ?_
    refine oIl 112 X175 hx (hb hby d6_110) rfl rfl ?_
    refine oAlN 113 X175 hx (hb hby d6_112) rfl rfl ?_
    refine oF 116 X175 hx hZ hown (host := "") (Or.inl (hw _ (own_m 10 rfl))) Via.refl e175 (F_n_ob.keep K_ nin_ob) (hb hby d6_113) rfl fun T176 X176 e176 => ?_
    clear X175 e175
    refine oIs 117 X176 hx hZ e176 V_rs 1 [(.int 0), (.int 2), (.int j8)] (hb hby d6_116) (by decide) rfl (Nat.le_of_ble_eq_true rfl) rfl rfl fun T177 h177 X177 e177 W177 V_rs_ => ?_
    replace V_sB := V_sB.other W177 (nd hnd 6 10)
    replace V_tB := V_tB.other W177 (nd hnd 7 10)
    replace V_zB := V_zB.other W177 (nd hnd 8 10)
    replace V_mg := V_mg.other W177 (nd hnd 11 10)
    replace K_ := kW K_ W177 5 rfl
    replace V3_iB := V3_iB.other W177 (nd hnd 4 10)
    replace V7_oB := V7_oB.other W177 (nd hnd 5 10)
    replace V_rs := V_rs_
    clear V_rs_ W177
    replace N_ := Fr.snoc X177 N_ g_rs
    clear X176 e176
    refine oAl 119 X177 hx (hb hby d6_117) rfl rfl ?_
    refine oAst 121 X177 hx (hb hby d6_119) (Ls21 ob se sc iB oB rs 1 oB) rfl rfl ?_
    refine oAlN 122 X177 hx (hb hby d6_121) rfl rfl ?_
    refine oR 125 X177 hx hZ hown (hw _ (own_m 81 rfl)) e177 (F_merging_sc.keep K_ nin_sc) (hb hby d6_122) rfl ?_
    refine oAst 127 X177 hx (hb hby d6_125) (Ls22 ob se sc iB oB rs 1 oB mg) rfl rfl ?_
    refine oIl 129 X177 hx (hb hby d6_127) rfl rfl ?_
    refine oIc 130 X177 hx (hb hby d6_129) 1 rfl rfl ?_
    refine oCy 234 X177 hx (hb hby d6_130) (flt (by decide)).2.2.2 (by decide) (by decide) ?_
    refine oAl 236 X177 hx (hb hby d6_234) rfl rfl ?_
    refine oAl 238 X177 hx (hb hby d6_236) rfl rfl ?_
    refine own_by (T' := T177) (g' := (mkF m 254 (Ls22 ob se sc iB oB rs 1 oB mg) [])) (fun t k => Jvm.RoadKit.acmp (g := (mkF m 238 (Ls22 ob se sc iB oB rs 1 oB mg) [(.ref oB), (.ref oB)])) X177 hx rfl rfl rfl (pc0 := 238) (pc' := 254) (same := true) rfl (hb hby d6_238) rfl (decide_eq_true rfl) (by decide) (by decide) k) ?_
    refine oIc 255 X177 hx (hb hby d6_254) 0 rfl rfl ?_
    refine oIst 257 X177 hx (hb hby d6_255) (Ls23 ob se sc iB oB rs 1 oB mg 0) rfl rfl ?_
    refine oIc 258 X177 hx (hb hby d6_257) 0 rfl rfl ?_
    refine oIst 260 X177 hx (hb hby d6_258) (Ls24 ob se sc iB oB rs 1 oB mg 0 0) rfl rfl ?_
    refine oIl 262 X177 hx (hb hby d6_260) rfl rfl ?_
    refine oAlN 263 X177 hx (hb hby d6_262) rfl rfl ?_
    refine oF 266 X177 hx hZ hown (host := "") (Or.inl (hw _ (own_m 10 rfl))) Via.refl e177 (F_n_ob.keep K_ nin_ob) (hb hby d6_263) rfl fun T178 X178 e178 => ?_
    clear X177 e177
    refine oCn 269 X178 hx (hb hby d6_266) (tlt (by decide)).2.1 rfl ?_
    refine oAlN 270 X178 hx (hb hby d6_269) rfl rfl ?_
    refine oAlN 271 X178 hx (hb hby d6_270) rfl rfl ?_
    refine oF 274 X178 hx hZ hown (host := "") (Or.inl (hw _ (own_m 40 rfl))) Via.refl e178 (F_received_ob.keep K_ nin_ob) (hb hby d6_271) rfl fun T179 X179 e179 => ?_
    clear X178 e178
    refine oR 277 X179 hx hZ hown (hw _ (own_m 79 rfl)) e179 (F_order_mb.keep K_ nin_mb) (hb hby d6_274) rfl ?_
    refine oIl 279 X179 hx (hb hby d6_277) rfl rfl ?_
    refine oIa 280 X179 hx hZ e179 V7_oB (.int 1) (hb hby d6_279) (by decide) rfl rfl ?_
    refine oDa 281 X179 hx hZ e179 V3_iB (.double (FP.l2d m1_)) (hb hby d6_280) (by decide) rfl rfl ?_
    refine oDst 283 X179 hx (hb hby d6_281) (Ls27 ob se sc iB oB rs 1 oB mg 0 0 (FP.l2d m1_)) rfl rfl ?_
    refine oAlN 284 X179 hx (hb hby d6_283) rfl rfl ?_
    refine oF 287 X179 hx hZ hown (host := "") (Or.inl (hw _ (own_m 40 rfl))) Via.refl e179 (F_received_ob.keep K_ nin_ob) (hb hby d6_284) rfl fun T182 X182 e182 => ?_
    clear X179 e179
    refine oR 290 X182 hx hZ hown (hw _ (own_m 82 rfl)) e182 (F_sorted_mb.keep K_ nin_mb) (hb hby d6_287) rfl ?_
    refine oIl 292 X182 hx (hb hby d6_290) rfl rfl ?_
    refine oDl 294 X182 hx (hb hby d6_292) rfl rfl ?_
    refine oDs 295 X182 hx hZ e182 V_sB 0 [(.double (FP.l2d m1_)), (.double d3)] (hb hby d6_294) (by decide) rfl (Nat.le_of_ble_eq_true rfl) rfl rfl fun T183 h183 X183 e183 W183 V_sB_ => ?_
    replace V_tB := V_tB.other W183 (nd hnd 7 6)
    replace V_zB := V_zB.other W183 (nd hnd 8 6)
    replace V_mg := V_mg.other W183 (nd hnd 11 6)
    replace K_ := kW K_ W183 2 rfl
    replace V3_iB := V3_iB.other W183 (nd hnd 4 6)
    replace V7_oB := V7_oB.other W183 (nd hnd 5 6)
    replace V_rs := V_rs.other W183 (nd hnd 10 6)
    replace V_sB := V_sB_
    clear V_sB_ W183
    replace N_ := Fr.snoc X183 N_ g_sB
    clear X182 e182
    refine oDl 297 X183 hx (hb hby d6_295) rfl rfl ?_
    refine oAlN 298 X183 hx (hb hby d6_297) rfl rfl ?_
    refine oF 301 X183 hx hZ hown (host := "") (Or.inl (hw _ (own_m 40 rfl))) Via.refl e183 (F_received_ob.keep K_ nin_ob) (hb hby d6_298) rfl fun T184 X184 e184 => ?_
    clear X183 e183
    refine oR 304 X184 hx hZ hown (hw _ (own_m 82 rfl)) e184 (F_sorted_mb.keep K_ nin_mb) (hb hby d6_301) rfl ?_
    refine oIl 306 X184 hx (hb hby d6_304) rfl rfl ?_
    refine oDa 307 X184 hx hZ e184 V_sB (.double (FP.l2d m1_)) (hb hby d6_306) (by decide) rfl rfl ?_
    refine own_by (g' := (mkF m 308 (Ls27 ob se sc iB oB rs 1 oB mg 0 0 (FP.l2d m1_)) [(.int (lcmpW m1_ m1_))])) (fun t k => XS.dcmpS X184.here hx rfl (hb hby d6_307) rfl (dcmpV_w (own_b53 bm1) (own_b53 bm1) _) k) ?_
    refine oFy 315 X184 hx (hb hby d6_308) ((if0 _ _).trans (teq ((lw_eq _ _).mpr (rfl : m1_ = m1_))).1) (by decide) (by decide) ?_
    refine oAlN 316 X184 hx (hb hby d6_315) rfl rfl ?_
    refine oF 319 X184 hx hZ hown (host := "") (Or.inl (hw _ (own_m 40 rfl))) Via.refl e184 (F_received_ob.keep K_ nin_ob) (hb hby d6_316) rfl fun T186 X186 e186 => ?_
    clear X184 e184
    refine oR 322 X186 hx hZ hown (hw _ (own_m 83 rfl)) e186 (F_tieOf_mb.keep K_ nin_mb) (hb hby d6_319) rfl ?_
    refine oAlN 323 X186 hx (hb hby d6_322) rfl rfl ?_
    refine oF 326 X186 hx hZ hown (host := "") (Or.inl (hw _ (own_m 40 rfl))) Via.refl e186 (F_received_ob.keep K_ nin_ob) (hb hby d6_323) rfl fun T187 X187 e187 => ?_
    clear X186 e186
    refine oR 329 X187 hx hZ hown (hw _ (own_m 79 rfl)) e187 (F_order_mb.keep K_ nin_mb) (hb hby d6_326) rfl ?_
    refine oIl 331 X187 hx (hb hby d6_329) rfl rfl ?_
    refine oIa 332 X187 hx hZ e187 V7_oB (.int 1) (hb hby d6_331) (by decide) rfl rfl ?_
    refine oIl 334 X187 hx (hb hby d6_332) rfl rfl ?_
    refine oIs 335 X187 hx hZ e187 V_tB 1 [(.int j2), (.int 0)] (hb hby d6_334) (by decide) rfl (Nat.le_of_ble_eq_true rfl) rfl rfl fun T189 h189 X189 e189 W189 V_tB_ => ?_
    replace V_zB := V_zB.other W189 (nd hnd 8 7)
    replace V_mg := V_mg.other W189 (nd hnd 11 7)
    replace K_ := kW K_ W189 3 rfl
    replace V3_iB := V3_iB.other W189 (nd hnd 4 7)
    replace V7_oB := V7_oB.other W189 (nd hnd 5 7)
    replace V_rs := V_rs.other W189 (nd hnd 10 7)
    replace V_sB := V_sB.other W189 (nd hnd 6 7)
    replace V_tB := V_tB_
    clear V_tB_ W189
    replace N_ := Fr.snoc X189 N_ g_tB
    clear X187 e187
    refine oAlN 336 X189 hx (hb hby d6_335) rfl rfl ?_
    refine oF 339 X189 hx hZ hown (host := "") (Or.inl (hw _ (own_m 40 rfl))) Via.refl e189 (F_received_ob.keep K_ nin_ob) (hb hby d6_336) rfl fun T190 X190 e190 => ?_
    clear X189 e189
    refine oR 342 X190 hx hZ hown (hw _ (own_m 84 rfl)) e190 (F_tieSize_mb.keep K_ nin_mb) (hb hby d6_339) rfl ?_
    refine oIl 344 X190 hx (hb hby d6_342) rfl rfl ?_
    refine oIc 345 X190 hx (hb hby d6_344) 0 rfl rfl ?_
    refine oIs 346 X190 hx hZ e190 V_zB 0 [(.int 0), (.int j5)] (hb hby d6_345) (by decide) rfl (Nat.le_of_ble_eq_true rfl) rfl rfl fun T191 h191 X191 e191 W191 V_zB_ => ?_
    replace V_mg := V_mg.other W191 (nd hnd 11 8)
    replace K_ := kW K_ W191 4 rfl
    replace V3_iB := V3_iB.other W191 (nd hnd 4 8)
    replace V7_oB := V7_oB.other W191 (nd hnd 5 8)
    replace V_rs := V_rs.other W191 (nd hnd 10 8)
    replace V_sB := V_sB.other W191 (nd hnd 6 8)
    replace V_tB := V_tB.other W191 (nd hnd 7 8)
    replace V_zB := V_zB_
    clear V_zB_ W191
    replace N_ := Fr.snoc X191 N_ g_zB
    clear X190 e190
    refine oAlN 347 X191 hx (hb hby d6_346) rfl rfl ?_
    refine oF 350 X191 hx hZ hown (host := "") (Or.inl (hw _ (own_m 40 rfl))) Via.refl e191 (F_received_ob.keep K_ nin_ob) (hb hby d6_347) rfl fun T192 X192 e192 => ?_
    clear X191 e191
    refine oR 353 X192 hx hZ hown (hw _ (own_m 84 rfl)) e192 (F_tieSize_mb.keep K_ nin_mb) (hb hby d6_350) rfl ?_
    refine oIl 355 X192 hx (hb hby d6_353) rfl rfl ?_
    refine own_by (T' := T192) (g' := (mkF m 356 (Ls27 ob se sc iB oB rs 1 oB mg 0 0 (FP.l2d m1_)) [(.int 0), (.ref zB), (.int 0), (.ref zB)])) (fun t k => Jvm.Free.XT.dup2 X192.here hx rfl (hb hby d6_355) rfl rfl rfl k) ?_
    refine oIa 357 X192 hx hZ e192 V_zB (.int 0) (hb hby d6_356) (by decide) rfl rfl ?_
    refine oIc 358 X192 hx (hb hby d6_357) 1 rfl rfl ?_
    refine oAdd 359 X192 hx (hb hby d6_358) 1 rfl rfl ?_
    refine oIs 360 X192 hx hZ e192 V_zB 0 [(.int 1), (.int j5)] (hb hby d6_359) (by decide) rfl (Nat.le_of_ble_eq_true rfl) rfl rfl fun T194 h194 X194 e194 W194 V_zB_ => ?_
    replace V_mg := V_mg.other W194 (nd hnd 11 8)
    replace K_ := kW K_ W194 4 rfl
    replace V3_iB := V3_iB.other W194 (nd hnd 4 8)
    replace V7_oB := V7_oB.other W194 (nd hnd 5 8)
    replace V_rs := V_rs.other W194 (nd hnd 10 8)
    replace V_sB := V_sB.other W194 (nd hnd 6 8)
    replace V_tB := V_tB.other W194 (nd hnd 7 8)
    replace V_zB := V_zB_
    clear V_zB_ W194
    replace N_ := Fr.snoc X194 N_ g_zB
    clear X192 e192
    refine oInc 363 X194 hx (hb hby d6_360) (Ls27 ob se sc iB oB rs 1 oB mg 0 1 (FP.l2d m1_)) rfl rfl rfl ?_
    refine oGo 260 X194 hx (hb hby d6_363) (by decide) (by decide) ?_
    refine oIl 262 X194 hx (hb hby d6_260) rfl rfl ?_
    refine oAlN 263 X194 hx (hb hby d6_262) rfl rfl ?_
    refine oF 266 X194 hx hZ hown (host := "") (Or.inl (hw _ (own_m 10 rfl))) Via.refl e194 (F_n_ob.keep K_ nin_ob) (hb hby d6_263) rfl fun T195 X195 e195 => ?_
    clear X194 e194
    refine oCn 269 X195 hx (hb hby d6_266) (tlt (by decide)).2.1 rfl ?_
    refine oAlN 270 X195 hx (hb hby d6_269) rfl rfl ?_
    refine oAlN 271 X195 hx (hb hby d6_270) rfl rfl ?_
    refine oF 274 X195 hx hZ hown (host := "") (Or.inl (hw _ (own_m 40 rfl))) Via.refl e195 (F_received_ob.keep K_ nin_ob) (hb hby d6_271) rfl fun T196 X196 e196 => ?_
    clear X195 e195
    refine oR 277 X196 hx hZ hown (hw _ (own_m 79 rfl)) e196 (F_order_mb.keep K_ nin_mb) (hb hby d6_274) rfl ?_
    refine oIl 279 X196 hx (hb hby d6_277) rfl rfl ?_
    refine oIa 280 X196 hx hZ e196 V7_oB (.int 0) (hb hby d6_279) (by decide) rfl rfl ?_
    refine oDa 281 X196 hx hZ e196 V3_iB (.double (FP.l2d m0_)) (hb hby d6_280) (by decide) rfl rfl ?_
    refine oDst 283 X196 hx (hb hby d6_281) (Ls27 ob se sc iB oB rs 1 oB mg 0 1 (FP.l2d m0_)) rfl rfl ?_
    refine oAlN 284 X196 hx (hb hby d6_283) rfl rfl ?_
    refine oF 287 X196 hx hZ hown (host := "") (Or.inl (hw _ (own_m 40 rfl))) Via.refl e196 (F_received_ob.keep K_ nin_ob) (hb hby d6_284) rfl fun T199 X199 e199 => ?_
    clear X196 e196
    refine oR 290 X199 hx hZ hown (hw _ (own_m 82 rfl)) e199 (F_sorted_mb.keep K_ nin_mb) (hb hby d6_287) rfl ?_
    refine oIl 292 X199 hx (hb hby d6_290) rfl rfl ?_
    refine oDl 294 X199 hx (hb hby d6_292) rfl rfl ?_
    refine oDs 295 X199 hx hZ e199 V_sB 1 [(.double (FP.l2d m1_)), (.double (FP.l2d m0_))] (hb hby d6_294) (by decide) rfl (Nat.le_of_ble_eq_true rfl) rfl rfl fun T200 h200 X200 e200 W200 V_sB_ => ?_
    replace V_mg := V_mg.other W200 (nd hnd 11 6)
    replace K_ := kW K_ W200 2 rfl
    replace V3_iB := V3_iB.other W200 (nd hnd 4 6)
    replace V7_oB := V7_oB.other W200 (nd hnd 5 6)
    replace V_rs := V_rs.other W200 (nd hnd 10 6)
    replace V_tB := V_tB.other W200 (nd hnd 7 6)
    replace V_zB := V_zB.other W200 (nd hnd 8 6)
    replace V_sB := V_sB_
    clear V_sB_ W200
    replace N_ := Fr.snoc X200 N_ g_sB
    clear X199 e199
    refine oDl 297 X200 hx (hb hby d6_295) rfl rfl ?_
    refine oAlN 298 X200 hx (hb hby d6_297) rfl rfl ?_
    refine oF 301 X200 hx hZ hown (host := "") (Or.inl (hw _ (own_m 40 rfl))) Via.refl e200 (F_received_ob.keep K_ nin_ob) (hb hby d6_298) rfl fun T201 X201 e201 => ?_
    clear X200 e200
    refine oR 304 X201 hx hZ hown (hw _ (own_m 82 rfl)) e201 (F_sorted_mb.keep K_ nin_mb) (hb hby d6_301) rfl ?_
    refine oIl 306 X201 hx (hb hby d6_304) rfl rfl ?_
    refine oDa 307 X201 hx hZ e201 V_sB (.double (FP.l2d m1_)) (hb hby d6_306) (by decide) rfl rfl ?_
    refine own_by (g' := (mkF m 308 (Ls27 ob se sc iB oB rs 1 oB mg 0 1 (FP.l2d m0_)) [(.int (lcmpW m0_ m1_))])) (fun t k => XS.dcmpS X201.here hx rfl (hb hby d6_307) rfl (dcmpV_w (own_b53 bm0) (own_b53 bm1) _) k) ?_
    by_cases hc308_203 : m0_ = m1_
    · refine oFy 315 X201 hx (hb hby d6_308) ((if0 _ _).trans (teq ((lw_eq _ _).mpr hc308_203)).1) (by decide) (by decide) ?_
      refine oAlN 316 X201 hx (hb hby d6_315) rfl rfl ?_
      refine oF 319 X201 hx hZ hown (host := "") (Or.inl (hw _ (own_m 40 rfl))) Via.refl e201 (F_received_ob.keep K_ nin_ob) (hb hby d6_316) rfl fun T204 X204 e204 => ?_
      clear X201 e201
      refine oR 322 X204 hx hZ hown (hw _ (own_m 83 rfl)) e204 (F_tieOf_mb.keep K_ nin_mb) (hb hby d6_319) rfl ?_
      refine oAlN 323 X204 hx (hb hby d6_322) rfl rfl ?_
      refine oF 326 X204 hx hZ hown (host := "") (Or.inl (hw _ (own_m 40 rfl))) Via.refl e204 (F_received_ob.keep K_ nin_ob) (hb hby d6_323) rfl fun T205 X205 e205 => ?_
      clear X204 e204
      refine oR 329 X205 hx hZ hown (hw _ (own_m 79 rfl)) e205 (F_order_mb.keep K_ nin_mb) (hb hby d6_326) rfl ?_
      refine oIl 331 X205 hx (hb hby d6_329) rfl rfl ?_
      refine oIa 332 X205 hx hZ e205 V7_oB (.int 0) (hb hby d6_331) (by decide) rfl rfl ?_
      refine oIl 334 X205 hx (hb hby d6_332) rfl rfl ?_
      refine oIs 335 X205 hx hZ e205 V_tB 0 [(.int 0), (.int 0)] (hb hby d6_334) (by decide) rfl (Nat.le_of_ble_eq_true rfl) rfl rfl fun T207 h207 X207 e207 W207 V_tB_ => ?_
      replace V_mg := V_mg.other W207 (nd hnd 11 7)
      replace K_ := kW K_ W207 3 rfl
      replace V3_iB := V3_iB.other W207 (nd hnd 4 7)
      replace V7_oB := V7_oB.other W207 (nd hnd 5 7)
      replace V_rs := V_rs.other W207 (nd hnd 10 7)
      replace V_zB := V_zB.other W207 (nd hnd 8 7)
      replace V_sB := V_sB.other W207 (nd hnd 6 7)
      replace V_tB := V_tB_
      clear V_tB_ W207
      replace N_ := Fr.snoc X207 N_ g_tB
      clear X205 e205
      refine oAlN 336 X207 hx (hb hby d6_335) rfl rfl ?_
      refine oF 339 X207 hx hZ hown (host := "") (Or.inl (hw _ (own_m 40 rfl))) Via.refl e207 (F_received_ob.keep K_ nin_ob) (hb hby d6_336) rfl fun T208 X208 e208 => ?_
      clear X207 e207
      refine oR 342 X208 hx hZ hown (hw _ (own_m 84 rfl)) e208 (F_tieSize_mb.keep K_ nin_mb) (hb hby d6_339) rfl ?_
      refine oIl 344 X208 hx (hb hby d6_342) rfl rfl ?_
      refine oIc 345 X208 hx (hb hby d6_344) 0 rfl rfl ?_
      refine oIs 346 X208 hx hZ e208 V_zB 1 [(.int 1), (.int 0)] (hb hby d6_345) (by decide) rfl (Nat.le_of_ble_eq_true rfl) rfl rfl fun T209 h209 X209 e209 W209 V_zB_ => ?_
      replace V_mg := V_mg.other W209 (nd hnd 11 8)
      replace K_ := kW K_ W209 4 rfl
      replace V3_iB := V3_iB.other W209 (nd hnd 4 8)
      replace V7_oB := V7_oB.other W209 (nd hnd 5 8)
      replace V_rs := V_rs.other W209 (nd hnd 10 8)
      replace V_sB := V_sB.other W209 (nd hnd 6 8)
      replace V_tB := V_tB.other W209 (nd hnd 7 8)
      replace V_zB := V_zB_
      clear V_zB_ W209
      replace N_ := Fr.snoc X209 N_ g_zB
      clear X208 e208
      refine oAlN 347 X209 hx (hb hby d6_346) rfl rfl ?_
      refine oF 350 X209 hx hZ hown (host := "") (Or.inl (hw _ (own_m 40 rfl))) Via.refl e209 (F_received_ob.keep K_ nin_ob) (hb hby d6_347) rfl fun T210 X210 e210 => ?_
      clear X209 e209
      refine oR 353 X210 hx hZ hown (hw _ (own_m 84 rfl)) e210 (F_tieSize_mb.keep K_ nin_mb) (hb hby d6_350) rfl ?_
      refine oIl 355 X210 hx (hb hby d6_353) rfl rfl ?_
      refine own_by (T' := T210) (g' := (mkF m 356 (Ls27 ob se sc iB oB rs 1 oB mg 0 1 (FP.l2d m0_)) [(.int 0), (.ref zB), (.int 0), (.ref zB)])) (fun t k => Jvm.Free.XT.dup2 X210.here hx rfl (hb hby d6_355) rfl rfl rfl k) ?_
      refine oIa 357 X210 hx hZ e210 V_zB (.int 1) (hb hby d6_356) (by decide) rfl rfl ?_
      refine oIc 358 X210 hx (hb hby d6_357) 1 rfl rfl ?_
      refine oAdd 359 X210 hx (hb hby d6_358) 2 rfl rfl ?_
      refine oIs 360 X210 hx hZ e210 V_zB 0 [(.int 2), (.int 0)] (hb hby d6_359) (by decide) rfl (Nat.le_of_ble_eq_true rfl) rfl rfl fun T212 h212 X212 e212 W212 V_zB_ => ?_
      replace V_mg := V_mg.other W212 (nd hnd 11 8)
      replace K_ := kW K_ W212 4 rfl
      replace V3_iB := V3_iB.other W212 (nd hnd 4 8)
      replace V7_oB := V7_oB.other W212 (nd hnd 5 8)
      replace V_rs := V_rs.other W212 (nd hnd 10 8)
      replace V_sB := V_sB.other W212 (nd hnd 6 8)
      replace V_tB := V_tB.other W212 (nd hnd 7 8)
      replace V_zB := V_zB_
      clear V_zB_ W212
      replace N_ := Fr.snoc X212 N_ g_zB
      clear X210 e210
      refine oInc 363 X212 hx (hb hby d6_360) (Ls27 ob se sc iB oB rs 1 oB mg 0 2 (FP.l2d m0_)) rfl rfl rfl ?_
      refine oGo 260 X212 hx (hb hby d6_363) (by decide) (by decide) ?_
      refine oIl 262 X212 hx (hb hby d6_260) rfl rfl ?_
      refine oAlN 263 X212 hx (hb hby d6_262) rfl rfl ?_
      refine oF 266 X212 hx hZ hown (host := "") (Or.inl (hw _ (own_m 10 rfl))) Via.refl e212 (F_n_ob.keep K_ nin_ob) (hb hby d6_263) rfl fun T213 X213 e213 => ?_
      clear X212 e212
      refine oCy 366 X213 hx (hb hby d6_266) (flt (by decide)).2.1 (by decide) (by decide) ?_
      exact own_retV X213 hx hlk hret (hb hby d6_366) (by decide) (by decide) (by rw [e213]; exact ⟨(1 : Int32), (0 : Int32), (2 : Int32), (0 : Int32), m1_, m0_, (0 : Int32), (0 : Int32), (0 : Int32), (2 : Int32), j8, j9, j10, rfl, N_, K_, ⟨Or.inr ⟨rfl, rfl, rfl, rfl⟩, Or.inr ⟨rfl, rfl, hc308_203⟩⟩, V3_iB, V7_oB, V_sB, V_tB, V_zB, V_rs, V_mg⟩)
    · refine oFn 311 X201 hx (hb hby d6_308) ((if0 _ _).trans (feq (fun q => hc308_203 ((lw_eq _ _).mp q))).1) rfl ?_
      refine oIl 313 X201 hx (hb hby d6_311) rfl rfl ?_
      refine oIst 315 X201 hx (hb hby d6_313) (Ls27 ob se sc iB oB rs 1 oB mg 1 1 (FP.l2d m0_)) rfl rfl ?_
      refine oAlN 316 X201 hx (hb hby d6_315) rfl rfl ?_
      refine oF 319 X201 hx hZ hown (host := "") (Or.inl (hw _ (own_m 40 rfl))) Via.refl e201 (F_received_ob.keep K_ nin_ob) (hb hby d6_316) rfl fun T214 X214 e214 => ?_
      clear X201 e201
      refine oR 322 X214 hx hZ hown (hw _ (own_m 83 rfl)) e214 (F_tieOf_mb.keep K_ nin_mb) (hb hby d6_319) rfl ?_
      refine oAlN 323 X214 hx (hb hby d6_322) rfl rfl ?_
      refine oF 326 X214 hx hZ hown (host := "") (Or.inl (hw _ (own_m 40 rfl))) Via.refl e214 (F_received_ob.keep K_ nin_ob) (hb hby d6_323) rfl fun T215 X215 e215 => ?_
      clear X214 e214
      refine oR 329 X215 hx hZ hown (hw _ (own_m 79 rfl)) e215 (F_order_mb.keep K_ nin_mb) (hb hby d6_326) rfl ?_
      refine oIl 331 X215 hx (hb hby d6_329) rfl rfl ?_
      refine oIa 332 X215 hx hZ e215 V7_oB (.int 0) (hb hby d6_331) (by decide) rfl rfl ?_
      refine oIl 334 X215 hx (hb hby d6_332) rfl rfl ?_
      refine oIs 335 X215 hx hZ e215 V_tB 0 [(.int 1), (.int 0)] (hb hby d6_334) (by decide) rfl (Nat.le_of_ble_eq_true rfl) rfl rfl fun T217 h217 X217 e217 W217 V_tB_ => ?_
      replace V_mg := V_mg.other W217 (nd hnd 11 7)
      replace K_ := kW K_ W217 3 rfl
      replace V3_iB := V3_iB.other W217 (nd hnd 4 7)
      replace V7_oB := V7_oB.other W217 (nd hnd 5 7)
      replace V_rs := V_rs.other W217 (nd hnd 10 7)
      replace V_zB := V_zB.other W217 (nd hnd 8 7)
      replace V_sB := V_sB.other W217 (nd hnd 6 7)
      replace V_tB := V_tB_
      clear V_tB_ W217
      replace N_ := Fr.snoc X217 N_ g_tB
      clear X215 e215
      refine oAlN 336 X217 hx (hb hby d6_335) rfl rfl ?_
      refine oF 339 X217 hx hZ hown (host := "") (Or.inl (hw _ (own_m 40 rfl))) Via.refl e217 (F_received_ob.keep K_ nin_ob) (hb hby d6_336) rfl fun T218 X218 e218 => ?_
      clear X217 e217
      refine oR 342 X218 hx hZ hown (hw _ (own_m 84 rfl)) e218 (F_tieSize_mb.keep K_ nin_mb) (hb hby d6_339) rfl ?_
      refine oIl 344 X218 hx (hb hby d6_342) rfl rfl ?_
      refine oIc 345 X218 hx (hb hby d6_344) 0 rfl rfl ?_
      refine oIs 346 X218 hx hZ e218 V_zB 1 [(.int 1), (.int 0)] (hb hby d6_345) (by decide) rfl (Nat.le_of_ble_eq_true rfl) rfl rfl fun T219 h219 X219 e219 W219 V_zB_ => ?_
      replace V_mg := V_mg.other W219 (nd hnd 11 8)
      replace K_ := kW K_ W219 4 rfl
      replace V3_iB := V3_iB.other W219 (nd hnd 4 8)
      replace V7_oB := V7_oB.other W219 (nd hnd 5 8)
      replace V_rs := V_rs.other W219 (nd hnd 10 8)
      replace V_sB := V_sB.other W219 (nd hnd 6 8)
      replace V_tB := V_tB.other W219 (nd hnd 7 8)
      replace V_zB := V_zB_
      clear V_zB_ W219
      replace N_ := Fr.snoc X219 N_ g_zB
      clear X218 e218
      refine oAlN 347 X219 hx (hb hby d6_346) rfl rfl ?_
      refine oF 350 X219 hx hZ hown (host := "") (Or.inl (hw _ (own_m 40 rfl))) Via.refl e219 (F_received_ob.keep K_ nin_ob) (hb hby d6_347) rfl fun T220 X220 e220 => ?_
      clear X219 e219
      refine oR 353 X220 hx hZ hown (hw _ (own_m 84 rfl)) e220 (F_tieSize_mb.keep K_ nin_mb) (hb hby d6_350) rfl ?_
      refine oIl 355 X220 hx (hb hby d6_353) rfl rfl ?_
      refine own_by (T' := T220) (g' := (mkF m 356 (Ls27 ob se sc iB oB rs 1 oB mg 1 1 (FP.l2d m0_)) [(.int 1), (.ref zB), (.int 1), (.ref zB)])) (fun t k => Jvm.Free.XT.dup2 X220.here hx rfl (hb hby d6_355) rfl rfl rfl k) ?_
      refine oIa 357 X220 hx hZ e220 V_zB (.int 0) (hb hby d6_356) (by decide) rfl rfl ?_
      refine oIc 358 X220 hx (hb hby d6_357) 1 rfl rfl ?_
      refine oAdd 359 X220 hx (hb hby d6_358) 1 rfl rfl ?_
      refine oIs 360 X220 hx hZ e220 V_zB 1 [(.int 1), (.int 1)] (hb hby d6_359) (by decide) rfl (Nat.le_of_ble_eq_true rfl) rfl rfl fun T222 h222 X222 e222 W222 V_zB_ => ?_
      replace V_mg := V_mg.other W222 (nd hnd 11 8)
      replace K_ := kW K_ W222 4 rfl
      replace V3_iB := V3_iB.other W222 (nd hnd 4 8)
      replace V7_oB := V7_oB.other W222 (nd hnd 5 8)
      replace V_rs := V_rs.other W222 (nd hnd 10 8)
      replace V_sB := V_sB.other W222 (nd hnd 6 8)
      replace V_tB := V_tB.other W222 (nd hnd 7 8)
      replace V_zB := V_zB_
      clear V_zB_ W222
      replace N_ := Fr.snoc X222 N_ g_zB
      clear X220 e220
      refine oInc 363 X222 hx (hb hby d6_360) (Ls27 ob se sc iB oB rs 1 oB mg 1 2 (FP.l2d m0_)) rfl rfl rfl ?_
      refine oGo 260 X222 hx (hb hby d6_363) (by decide) (by decide) ?_
      refine oIl 262 X222 hx (hb hby d6_260) rfl rfl ?_
      refine oAlN 263 X222 hx (hb hby d6_262) rfl rfl ?_
      refine oF 266 X222 hx hZ hown (host := "") (Or.inl (hw _ (own_m 10 rfl))) Via.refl e222 (F_n_ob.keep K_ nin_ob) (hb hby d6_263) rfl fun T223 X223 e223 => ?_
      clear X222 e222
      refine oCy 366 X223 hx (hb hby d6_266) (flt (by decide)).2.1 (by decide) (by decide) ?_
      exact own_retV X223 hx hlk hret (hb hby d6_366) (by decide) (by decide) (by rw [e223]; exact ⟨(1 : Int32), (0 : Int32), (1 : Int32), (1 : Int32), m1_, m0_, (1 : Int32), (0 : Int32), (0 : Int32), (2 : Int32), j8, j9, j10, rfl, N_, K_, ⟨Or.inr ⟨rfl, rfl, rfl, rfl⟩, Or.inl ⟨rfl, rfl⟩⟩, V3_iB, V7_oB, V_sB, V_tB, V_zB, V_rs, V_mg⟩)
set_option maxRecDepth 65536 in
set_option maxHeartbeats 40000000 in
theorem rm6 (l : Launch) (Z : State) (a0 : Array Value) (hw : ∀ d ∈ tables_1, d.before a0 Z = true) (ws : List Jvm.Cond) (ob : Addr) (se : Addr) (sc : Addr) (o0 : Int32) (o1 : Int32) (ma : Addr) (oA : Addr) (mb : Addr) (iB : Addr) (oB : Addr) (sB : Addr) (tB : Addr) (zB : Addr) (rs : Addr) (mg : Addr) (koA : ClassId) (kiB : ClassId) (koB : ClassId) (ksB : ClassId) (ktB : ClassId) (kzB : ClassId) (krs : ClassId) (kmg : ClassId) (kse : ClassId) (m0_ : Int64) (m1_ : Int64) (d0 : UInt64) (d1 : UInt64) (d2 : UInt64) (d3 : UInt64) (j0 : Int32) (j1 : Int32) (j2 : Int32) (j3 : Int32) (j4 : Int32) (j5 : Int32) (j6 : Int32) (j7 : Int32) (j8 : Int32) (j9 : Int32) (j10 : Int32) (h0 : Heap) (n0 : Nat) (Zle : n0 ≤ h0.size) (F_received_ob : Fld Z h0 ob "com/example/firebreak/firebreak/strategies/CountFactor" "received" "Lcom/example/firebreak/firebreak/strategies/CountFactor$Messages;" (.ref mb)) (F_messages_ob : Fld Z h0 ob "com/example/firebreak/firebreak/strategies/CountFactor" "messages" "Lcom/example/firebreak/firebreak/strategies/CountFactor$Messages;" (.ref ma)) (F_n_ob : Fld Z h0 ob "com/example/firebreak/firebreak/strategies/CountFactor" "n" "I" (.int 2)) (F_order_ma : Fld Z h0 ma "com/example/firebreak/firebreak/strategies/CountFactor$Messages" "order" "[I" (.ref oA)) (V_oA : Arv Z h0 oA koA .int (2 : Int32) [(.int o0), (.int o1)] (.int 0)) (F_incoming_mb : Fld Z h0 mb "com/example/firebreak/firebreak/strategies/CountFactor$Messages" "incoming" "[D" (.ref iB)) (F_order_mb : Fld Z h0 mb "com/example/firebreak/firebreak/strategies/CountFactor$Messages" "order" "[I" (.ref oB)) (F_sorted_mb : Fld Z h0 mb "com/example/firebreak/firebreak/strategies/CountFactor$Messages" "sorted" "[D" (.ref sB)) (F_tieOf_mb : Fld Z h0 mb "com/example/firebreak/firebreak/strategies/CountFactor$Messages" "tieOf" "[I" (.ref tB)) (F_tieSize_mb : Fld Z h0 mb "com/example/firebreak/firebreak/strategies/CountFactor$Messages" "tieSize" "[I" (.ref zB)) (F_runStarts_sc : Fld Z h0 sc "com/example/firebreak/firebreak/strategies/CountFactor$Scratch" "runStarts" "[I" (.ref rs)) (F_merging_sc : Fld Z h0 sc "com/example/firebreak/firebreak/strategies/CountFactor$Scratch" "merging" "[I" (.ref mg)) (V_iB : Arv Z h0 iB kiB .double (2 : Int32) [(.double d0), (.double d1)] (.double (FP.l2d 0))) (V_oB : Arv Z h0 oB koB .int (2 : Int32) [(.int j0), (.int j1)] (.int 0)) (V_sB : Arv Z h0 sB ksB .double (2 : Int32) [(.double d2), (.double d3)] (.double (FP.l2d 0))) (V_tB : Arv Z h0 tB ktB .int (2 : Int32) [(.int j2), (.int j3)] (.int 0)) (V_zB : Arv Z h0 zB kzB .int (2 : Int32) [(.int j4), (.int j5)] (.int 0)) (V_rs : Arv Z h0 rs krs .int (3 : Int32) [(.int j6), (.int j7), (.int j8)] (.int 0)) (V_mg : Arv Z h0 mg kmg .int (2 : Int32) [(.int j9), (.int j10)] (.int 0)) (V_se : Arv Z h0 se kse .double (2 : Int32) [(.double (FP.l2d m0_)), (.double (FP.l2d m1_))] (.double (FP.l2d 0))) (g_iB : n0 ≤ iB) (g_oB : n0 ≤ oB) (g_sB : n0 ≤ sB) (g_tB : n0 ≤ tB) (g_zB : n0 ≤ zB) (g_rs : n0 ≤ rs) (g_mg : n0 ≤ mg) (hnd : ([ob, ma, oA, mb, iB, oB, sB, tB, zB, sc, rs, mg, se] : List Addr).Nodup) (hor : (o0 = 0 ∧ o1 = 1) ∨ (o0 = 1 ∧ o1 = 0)) (bm0 : own_bd 63 m0_) (bm1 : own_bd 63 m1_) :
    MetFree l (⟨"com/example/firebreak/firebreak/strategies/CountFactor", "receive", "([DLcom/example/firebreak/firebreak/strategies/CountFactor$Scratch;)V"⟩ : MethodName) (head1 (Jvm.Cond.code (⟨"com/example/firebreak/firebreak/strategies/CountFactor", "receive", "([DLcom/example/firebreak/firebreak/strategies/CountFactor$Scratch;)V"⟩ : MethodName) prog_42_method_2_code 13 none :: ws) ({ frames := 2, cells := 0, slots := 0, locals := 60 } : Room)) (fun a U => a = #[(.ref ob), (.ref se), (.ref sc)] ∧ Z.Warmed39 U.vm ∧ U.heap = h0) (fun _ _ _ _ _ => True) (fun _ U o U' => ∃ v L, o = .returned v ∧ Q6 Z ob se sc o0 o1 ma oA mb iB oB sB tB zB rs mg koA kiB koB ksB ktB kzB krs kmg kse m0_ m1_ d0 d1 d2 d3 j0 j1 j2 j3 j4 j5 j6 j7 j8 j9 j10 h0 n0 v U'.heap L ∧ FrameEnd U o U' L ({ frames := 2, cells := 0, slots := 0, locals := 60 } : Room).cells ({ frames := 2, cells := 0, slots := 0, locals := 60 } : Room).slots) := by
  refine MetFree.of_bodySF (plainFor_of_name pn_com_example_firebreak_firebreak_strategies_CountFactor) hisR ?_
  intro p e s m args below meth c s₁ Bd hml0 hP hK
  obtain ⟨rfl, hZ, hh⟩ := hP
  have hx := Bd.exec
  have hby := Bd.bytes
  have hml : c.maxLocals = 13 := hml0
  have hown : s.vm.findClass "com/example/firebreak/firebreak/strategies/CountFactor" = some m.cls := findClass_of_methodNamed Bd.named
  have hnm := (name_of_methodNamed Bd.named Bd.method).1
  have X0 : Stand p l e ({ frames := 2, cells := 0, slots := 0, locals := 60 } : Room) s m #[(.ref ob), (.ref se), (.ref sc)] below meth c s₁ [] 0 0 := Stand.of_body Bd
  have e0 : s₁.heap = h0 := by rw [← hh, Bd.state]; rfl
  have N_ := Fr.nil n0
  have K_ := Keep.refl h0 [iB, oB, sB, tB, zB, rs, mg]
  show own_Goes p.tables e below s (Q6 Z ob se sc o0 o1 ma oA mb iB oB sB tB zB rs mg koA kiB koB ksB ktB kzB krs kmg kse m0_ m1_ d0 d1 d2 d3 j0 j1 j2 j3 j4 j5 j6 j7 j8 j9 j10 h0 n0) ({ frames := 2, cells := 0, slots := 0, locals := 60 } : Room).cells ({ frames := 2, cells := 0, slots := 0, locals := 60 } : Room).slots s₁ (entryFrame m #[(.ref ob), (.ref se), (.ref sc)] 13)
  refine own_by (T' := s₁) (g' := (mkF m 0 (Ls15 ob se sc) [])) (fun t k => castTop (ef_6 m ob se sc) k) ?_
  have nin_ob : ob ∉ [iB, oB, sB, tB, zB, rs, mg] := (nn hnd 0 [4, 5, 6, 7, 8, 10, 11])
  have nin_ma : ma ∉ [iB, oB, sB, tB, zB, rs, mg] := (nn hnd 1 [4, 5, 6, 7, 8, 10, 11])
  have nin_oA : oA ∉ [iB, oB, sB, tB, zB, rs, mg] := (nn hnd 2 [4, 5, 6, 7, 8, 10, 11])
  have nin_mb : mb ∉ [iB, oB, sB, tB, zB, rs, mg] := (nn hnd 3 [4, 5, 6, 7, 8, 10, 11])
  have nin_sc : sc ∉ [iB, oB, sB, tB, zB, rs, mg] := (nn hnd 9 [4, 5, 6, 7, 8, 10, 11])
  have nin_se : se ∉ [iB, oB, sB, tB, zB, rs, mg] := (nn hnd 12 [4, 5, 6, 7, 8, 10, 11])
  refine oAlN 1 X0 hx (hb hby d6_0) rfl rfl ?_
  refine oF 4 X0 hx hZ hown (host := "") (Or.inl (hw _ (own_m 40 rfl))) Via.refl e0 (F_received_ob.keep K_ nin_ob) (hb hby d6_1) rfl fun T1 X1 e1 => ?_
  clear X0 e0
  refine oR 7 X1 hx hZ hown (hw _ (own_m 74 rfl)) e1 (F_incoming_mb.keep K_ nin_mb) (hb hby d6_4) rfl ?_
  refine oAstN 8 X1 hx (hb hby d6_7) (Ls16 ob se sc iB) rfl rfl ?_
  refine oAlN 9 X1 hx (hb hby d6_8) rfl rfl ?_
  refine oIc 10 X1 hx (hb hby d6_9) 0 rfl rfl ?_
  refine oAlN 11 X1 hx (hb hby d6_10) rfl rfl ?_
  refine oIc 12 X1 hx (hb hby d6_11) 0 rfl rfl ?_
  refine oAlN 13 X1 hx (hb hby d6_12) rfl rfl ?_
  refine oF 16 X1 hx hZ hown (host := "") (Or.inl (hw _ (own_m 10 rfl))) Via.refl e1 (F_n_ob.keep K_ nin_ob) (hb hby d6_13) rfl fun T2 X2 e2 => ?_
  clear X1 e1
  obtain ⟨T3, h3, L3, X3, e3, Nn3, K3, Vn3, st3⟩ := cpA X2 hx hZ hown (hw _ (own_m 75 rfl)) (hw _ (own_m 78 rfl)) (hw _ (own_m 76 rfl)) (hw _ (own_m 77 rfl)) e2 (us := [(.double (FP.l2d m0_)), (.double (FP.l2d m1_))]) (V_se.keep K_ nin_se) V_iB (Or.inl ⟨rfl, rfl⟩) (by decide) (by decide) (by decide) (by decide) (by decide) rfl (Nat.le_of_ble_eq_true rfl) N_ g_iB (g := (mkF m 16 (Ls16 ob se sc iB) [(.int 2), (.int 0), (.ref iB), (.int 0), (.ref se)])) rfl (by rw [hml]; rfl) (rest := []) rfl (hb hby d6_16) (by decide) (W := 0) (own_le rfl) (by decide)
  replace N_ := Nn3
  replace V_oB := V_oB.keep K3 (ninS (nd hnd 5 4) nin0)
  replace V_sB := V_sB.keep K3 (ninS (nd hnd 6 4) nin0)
  replace V_tB := V_tB.keep K3 (ninS (nd hnd 7 4) nin0)
  replace V_zB := V_zB.keep K3 (ninS (nd hnd 8 4) nin0)
  replace V_rs := V_rs.keep K3 (ninS (nd hnd 10 4) nin0)
  replace V_mg := V_mg.keep K3 (ninS (nd hnd 11 4) nin0)
  replace K_ := K_.trans K3 (allS (Or.inl (List.mem_of_getElem? (i := 0) rfl)) all0)
  have V3_iB : Arv Z h3 iB kiB .double (2 : Int32) [(.double (FP.l2d m0_)), (.double (FP.l2d m1_))] (.double (FP.l2d 0)) := Vn3
  clear K3 Vn3
  refine own_by (T' := T3) (g' := (mkF m 19 (Ls16 ob se sc iB) [])) (fun t k => st3 t k) ?_
  clear st3 X2 e2
  refine oAlN 20 X3 hx (hb hby d6_19) rfl rfl ?_
  refine oF 23 X3 hx hZ hown (host := "") (Or.inl (hw _ (own_m 40 rfl))) Via.refl e3 (F_received_ob.keep K_ nin_ob) (hb hby d6_20) rfl fun T4 X4 e4 => ?_
  clear X3 e3
  refine oR 26 X4 hx hZ hown (hw _ (own_m 79 rfl)) e4 (F_order_mb.keep K_ nin_mb) (hb hby d6_23) rfl ?_
  refine oAst 28 X4 hx (hb hby d6_26) (Ls17 ob se sc iB oB) rfl rfl ?_
  refine oAlN 29 X4 hx (hb hby d6_28) rfl rfl ?_
  refine oF 32 X4 hx hZ hown (host := "") (Or.inl (hw _ (own_m 38 rfl))) Via.refl e4 (F_messages_ob.keep K_ nin_ob) (hb hby d6_29) rfl fun T5 X5 e5 => ?_
  clear X4 e4
  refine oR 35 X5 hx hZ hown (hw _ (own_m 79 rfl)) e5 (F_order_ma.keep K_ nin_ma) (hb hby d6_32) rfl ?_
  refine oIc 36 X5 hx (hb hby d6_35) 0 rfl rfl ?_
  refine oAl 38 X5 hx (hb hby d6_36) rfl rfl ?_
  refine oIc 39 X5 hx (hb hby d6_38) 0 rfl rfl ?_
  refine oAlN 40 X5 hx (hb hby d6_39) rfl rfl ?_
  refine oF 43 X5 hx hZ hown (host := "") (Or.inl (hw _ (own_m 10 rfl))) Via.refl e5 (F_n_ob.keep K_ nin_ob) (hb hby d6_40) rfl fun T6 X6 e6 => ?_
  clear X5 e5
  obtain ⟨T7, h7, L7, X7, e7, Nn7, K7, Vn7, st7⟩ := cpA X6 hx hZ hown (hw _ (own_m 75 rfl)) (hw _ (own_m 78 rfl)) (hw _ (own_m 76 rfl)) (hw _ (own_m 77 rfl)) e6 (us := [(.int o0), (.int o1)]) (V_oA.keep K_ nin_oA) V_oB (Or.inl ⟨rfl, rfl⟩) (by decide) (by decide) (by decide) (by decide) (by decide) rfl (Nat.le_of_ble_eq_true rfl) N_ g_oB (g := (mkF m 43 (Ls17 ob se sc iB oB) [(.int 2), (.int 0), (.ref oB), (.int 0), (.ref oA)])) rfl (by rw [hml]; rfl) (rest := []) rfl (hb hby d6_43) (by decide) (W := 0) (own_le rfl) (by decide)
  replace N_ := Nn7
  replace V_sB := V_sB.keep K7 (ninS (nd hnd 6 5) nin0)
  replace V_tB := V_tB.keep K7 (ninS (nd hnd 7 5) nin0)
  replace V_zB := V_zB.keep K7 (ninS (nd hnd 8 5) nin0)
  replace V_rs := V_rs.keep K7 (ninS (nd hnd 10 5) nin0)
  replace V_mg := V_mg.keep K7 (ninS (nd hnd 11 5) nin0)
  replace K_ := K_.trans K7 (allS (Or.inl (List.mem_of_getElem? (i := 1) rfl)) all0)
  replace V3_iB := V3_iB.keep K7 (ninS (nd hnd 4 5) nin0)
  have V7_oB : Arv Z h7 oB koB .int (2 : Int32) [(.int o0), (.int o1)] (.int 0) := Vn7
  clear K7 Vn7
  refine own_by (T' := T7) (g' := (mkF m 46 (Ls17 ob se sc iB oB) [])) (fun t k => st7 t k) ?_
  clear st7 X6 e6
  rcases id hor with ⟨ho0, ho1⟩ | ⟨ho0, ho1⟩
  · rw [ho0, ho1] at V7_oB
    rw [ho0, ho1] at V_oA
    exact own_rec01 l Z a0 hw hx hby hml Bd.notSynchronized Bd.returns ob se sc o0 o1 ma oA mb iB oB sB tB zB rs mg koA kiB koB ksB ktB kzB krs kmg kse m0_ m1_ d0 d1 d2 d3 j0 j1 j2 j3 j4 j5 j6 j7 j8 j9 j10 h0 n0 hnd hor bm0 bm1  hZ hown (X7) e7 F_received_ob F_messages_ob F_n_ob F_order_ma V_oA F_incoming_mb F_order_mb F_sorted_mb F_tieOf_mb F_tieSize_mb F_runStarts_sc F_merging_sc V_sB V_tB V_zB V_rs V_mg V_se g_iB g_oB g_sB g_tB g_zB g_rs g_mg Zle N_ K_ nin_ob nin_ma nin_oA nin_mb nin_sc nin_se V3_iB V7_oB 
  · rw [ho0, ho1] at V7_oB
    rw [ho0, ho1] at V_oA
    exact own_rec10 l Z a0 hw hx hby hml Bd.notSynchronized Bd.returns ob se sc o0 o1 ma oA mb iB oB sB tB zB rs mg koA kiB koB ksB ktB kzB krs kmg kse m0_ m1_ d0 d1 d2 d3 j0 j1 j2 j3 j4 j5 j6 j7 j8 j9 j10 h0 n0 hnd hor bm0 bm1  hZ hown (X7) e7 F_received_ob F_messages_ob F_n_ob F_order_ma V_oA F_incoming_mb F_order_mb F_sorted_mb F_tieOf_mb F_tieSize_mb F_runStarts_sc F_merging_sc V_sB V_tB V_zB V_rs V_mg V_se g_iB g_oB g_sB g_tB g_zB g_rs g_mg Zle N_ K_ nin_ob nin_ma nin_oA nin_mb nin_sc nin_se V3_iB V7_oB 

def Q7 (Z : State) (ob : Addr) (ou : Addr) (sc : Addr) (pp : Int32) (qq : Int32) (z0 : Int32) (z1 : Int32) (ma : Addr) (sA : Addr) (zA : Addr) (oA : Addr) (sa : Addr) (su : Addr) (nu : Addr) (fu : Addr) (nf : Addr) (ff : Addr) (ksA : ClassId) (kzA : ClassId) (koA : ClassId) (ksa : ClassId) (ksu : ClassId) (knu : ClassId) (kfu : ClassId) (knf : ClassId) (kff : ClassId) (kou : ClassId) (y0 : Int64) (y1 : Int64) (y2 : Int64) (v0 : Int64) (v1 : Int64) (su1 : UInt64) (su2 : UInt64) (nu0 : UInt64) (nu1 : UInt64) (nu2 : UInt64) (fu0 : UInt64) (fu1 : UInt64) (fu2 : UInt64) (nf0 : UInt64) (nf1 : UInt64) (nf2 : UInt64) (nf3 : UInt64) (ff0 : UInt64) (ff1 : UInt64) (ff2 : UInt64) (ff3 : UInt64) (ou0 : UInt64) (ou1 : UInt64) (h0 : Heap) (n0 : Nat) (v : Option Value) (h : Heap) (L : List Loc) : Prop := ∃ (esu1 esu2 enu0 enu1 enu2 efu0 efu1 efu2 enf0 enf1 enf2 enf3 eff0 eff1 eff2 eff3 : UInt64), v = none ∧ Fr n0 L ∧ Keep h0 h [su, nu, fu, nf, ff, ou] ∧ Arv Z h su ksu .double (3 : Int32) [(.double (FP.l2d 0)), (.double esu1), (.double esu2)] (.double (FP.l2d 0)) ∧ Arv Z h nu knu .double (3 : Int32) [(.double enu0), (.double enu1), (.double enu2)] (.double (FP.l2d 0)) ∧ Arv Z h fu kfu .double (3 : Int32) [(.double efu0), (.double efu1), (.double efu2)] (.double (FP.l2d 0)) ∧ Arv Z h nf knf .double (4 : Int32) [(.double enf0), (.double enf1), (.double enf2), (.double enf3)] (.double (FP.l2d 0)) ∧ Arv Z h ff kff .double (4 : Int32) [(.double eff0), (.double eff1), (.double eff2), (.double eff3)] (.double (FP.l2d 0)) ∧ Arv Z h ou kou .double (2 : Int32) [(.double (FP.l2d (own_o0 pp y0 y1 y2 v0 v1))), (.double (FP.l2d (own_o1 pp y0 y1 y2 v0 v1)))] (.double (FP.l2d 0))
theorem ef_7 (m : MethodId) (ob : Addr) (ou : Addr) (sc : Addr) : entryFrame m #[(.ref ob), (.ref ou), (.ref sc)] 18 = mkF m 0 #[.val (.ref ob), .val (.ref ou), .val (.ref sc), .unset, .unset, .unset, .unset, .unset, .unset, .unset, .unset, .unset, .unset, .unset, .unset, .unset, .unset, .unset] [] := by first | (simp [entryFrame, mkF, argsToLocals, Value.category]; done) | rfl
theorem d7_0 : decode prog_42_method_5_code 0 = .ok (.aload_n 0, 1) := by decide +kernel
theorem d7_1 : decode prog_42_method_5_code 1 = .ok (.getfield 31, 3) := by decide +kernel
theorem d7_4 : decode prog_42_method_5_code 4 = .ok (.getfield 76, 3) := by decide +kernel
theorem d7_7 : decode prog_42_method_5_code 7 = .ok (.astore_n 3, 1) := by decide +kernel
theorem d7_8 : decode prog_42_method_5_code 8 = .ok (.aload_n 0, 1) := by decide +kernel
theorem d7_9 : decode prog_42_method_5_code 9 = .ok (.getfield 31, 3) := by decide +kernel
theorem d7_12 : decode prog_42_method_5_code 12 = .ok (.getfield 82, 3) := by decide +kernel
theorem d7_15 : decode prog_42_method_5_code 15 = .ok (.astore 4, 2) := by decide +kernel
theorem d7_17 : decode prog_42_method_5_code 17 = .ok (.aload_n 2, 1) := by decide +kernel
theorem d7_18 : decode prog_42_method_5_code 18 = .ok (.getfield 85, 3) := by decide +kernel
theorem d7_21 : decode prog_42_method_5_code 21 = .ok (.astore 5, 2) := by decide +kernel
theorem d7_23 : decode prog_42_method_5_code 23 = .ok (.aload_n 2, 1) := by decide +kernel
theorem d7_24 : decode prog_42_method_5_code 24 = .ok (.getfield 88, 3) := by decide +kernel
theorem d7_27 : decode prog_42_method_5_code 27 = .ok (.astore 6, 2) := by decide +kernel
theorem d7_29 : decode prog_42_method_5_code 29 = .ok (.aload_n 2, 1) := by decide +kernel
theorem d7_30 : decode prog_42_method_5_code 30 = .ok (.getfield 91, 3) := by decide +kernel
theorem d7_33 : decode prog_42_method_5_code 33 = .ok (.astore 7, 2) := by decide +kernel
theorem d7_35 : decode prog_42_method_5_code 35 = .ok (.aload_n 2, 1) := by decide +kernel
theorem d7_36 : decode prog_42_method_5_code 36 = .ok (.getfield 94, 3) := by decide +kernel
theorem d7_39 : decode prog_42_method_5_code 39 = .ok (.astore 8, 2) := by decide +kernel
theorem d7_41 : decode prog_42_method_5_code 41 = .ok (.aload_n 2, 1) := by decide +kernel
theorem d7_42 : decode prog_42_method_5_code 42 = .ok (.getfield 97, 3) := by decide +kernel
theorem d7_45 : decode prog_42_method_5_code 45 = .ok (.astore 9, 2) := by decide +kernel
theorem d7_47 : decode prog_42_method_5_code 47 = .ok (.aload 6, 2) := by decide +kernel
theorem d7_49 : decode prog_42_method_5_code 49 = .ok (.iconst 0, 1) := by decide +kernel
theorem d7_50 : decode prog_42_method_5_code 50 = .ok (.ldc2_w 102, 3) := by decide +kernel
theorem d7_53 : decode prog_42_method_5_code 53 = .ok (.dastore, 1) := by decide +kernel
theorem d7_54 : decode prog_42_method_5_code 54 = .ok (.aload 7, 2) := by decide +kernel
theorem d7_56 : decode prog_42_method_5_code 56 = .ok (.iconst 0, 1) := by decide +kernel
theorem d7_57 : decode prog_42_method_5_code 57 = .ok (.aload_n 0, 1) := by decide +kernel
theorem d7_58 : decode prog_42_method_5_code 58 = .ok (.getfield 13, 3) := by decide +kernel
theorem d7_61 : decode prog_42_method_5_code 61 = .ok (.iconst 0, 1) := by decide +kernel
theorem d7_62 : decode prog_42_method_5_code 62 = .ok (.daload, 1) := by decide +kernel
theorem d7_63 : decode prog_42_method_5_code 63 = .ok (.dastore, 1) := by decide +kernel
theorem d7_64 : decode prog_42_method_5_code 64 = .ok (.iconst 1, 1) := by decide +kernel
theorem d7_65 : decode prog_42_method_5_code 65 = .ok (.istore 10, 2) := by decide +kernel
theorem d7_67 : decode prog_42_method_5_code 67 = .ok (.iload 10, 2) := by decide +kernel
theorem d7_69 : decode prog_42_method_5_code 69 = .ok (.aload_n 0, 1) := by decide +kernel
theorem d7_70 : decode prog_42_method_5_code 70 = .ok (.getfield 7, 3) := by decide +kernel
theorem d7_73 : decode prog_42_method_5_code 73 = .ok (.if_icmp .gt 86, 3) := by decide +kernel
theorem d7_76 : decode prog_42_method_5_code 76 = .ok (.aload 5, 2) := by decide +kernel
theorem d7_78 : decode prog_42_method_5_code 78 = .ok (.iload 10, 2) := by decide +kernel
theorem d7_80 : decode prog_42_method_5_code 80 = .ok (.aload 5, 2) := by decide +kernel
theorem d7_82 : decode prog_42_method_5_code 82 = .ok (.iload 10, 2) := by decide +kernel
theorem d7_84 : decode prog_42_method_5_code 84 = .ok (.iconst 1, 1) := by decide +kernel
theorem d7_85 : decode prog_42_method_5_code 85 = .ok (.isub, 1) := by decide +kernel
theorem d7_86 : decode prog_42_method_5_code 86 = .ok (.daload, 1) := by decide +kernel
theorem d7_87 : decode prog_42_method_5_code 87 = .ok (.aload_n 3, 1) := by decide +kernel
theorem d7_88 : decode prog_42_method_5_code 88 = .ok (.iload 10, 2) := by decide +kernel
theorem d7_90 : decode prog_42_method_5_code 90 = .ok (.iconst 1, 1) := by decide +kernel
theorem d7_91 : decode prog_42_method_5_code 91 = .ok (.isub, 1) := by decide +kernel
theorem d7_92 : decode prog_42_method_5_code 92 = .ok (.daload, 1) := by decide +kernel
theorem d7_93 : decode prog_42_method_5_code 93 = .ok (.dadd, 1) := by decide +kernel
theorem d7_94 : decode prog_42_method_5_code 94 = .ok (.dastore, 1) := by decide +kernel
theorem d7_95 : decode prog_42_method_5_code 95 = .ok (.aload 6, 2) := by decide +kernel
theorem d7_97 : decode prog_42_method_5_code 97 = .ok (.iload 10, 2) := by decide +kernel
theorem d7_99 : decode prog_42_method_5_code 99 = .ok (.aload 6, 2) := by decide +kernel
theorem d7_101 : decode prog_42_method_5_code 101 = .ok (.iload 10, 2) := by decide +kernel
theorem d7_103 : decode prog_42_method_5_code 103 = .ok (.iconst 1, 1) := by decide +kernel
theorem d7_104 : decode prog_42_method_5_code 104 = .ok (.isub, 1) := by decide +kernel
theorem d7_105 : decode prog_42_method_5_code 105 = .ok (.daload, 1) := by decide +kernel
theorem d7_106 : decode prog_42_method_5_code 106 = .ok (.aload_n 0, 1) := by decide +kernel
theorem d7_107 : decode prog_42_method_5_code 107 = .ok (.getfield 13, 3) := by decide +kernel
theorem d7_110 : decode prog_42_method_5_code 110 = .ok (.iload 10, 2) := by decide +kernel
theorem d7_112 : decode prog_42_method_5_code 112 = .ok (.daload, 1) := by decide +kernel
theorem d7_113 : decode prog_42_method_5_code 113 = .ok (.aload 5, 2) := by decide +kernel
theorem d7_115 : decode prog_42_method_5_code 115 = .ok (.iload 10, 2) := by decide +kernel
theorem d7_117 : decode prog_42_method_5_code 117 = .ok (.iconst 1, 1) := by decide +kernel
theorem d7_118 : decode prog_42_method_5_code 118 = .ok (.isub, 1) := by decide +kernel
theorem d7_119 : decode prog_42_method_5_code 119 = .ok (.daload, 1) := by decide +kernel
theorem d7_120 : decode prog_42_method_5_code 120 = .ok (.dadd, 1) := by decide +kernel
theorem d7_121 : decode prog_42_method_5_code 121 = .ok (.invokestatic 104, 3) := by decide +kernel
theorem d7_124 : decode prog_42_method_5_code 124 = .ok (.dastore, 1) := by decide +kernel
theorem d7_125 : decode prog_42_method_5_code 125 = .ok (.aload 7, 2) := by decide +kernel
theorem d7_127 : decode prog_42_method_5_code 127 = .ok (.iload 10, 2) := by decide +kernel
theorem d7_129 : decode prog_42_method_5_code 129 = .ok (.aload 7, 2) := by decide +kernel
theorem d7_131 : decode prog_42_method_5_code 131 = .ok (.iload 10, 2) := by decide +kernel
theorem d7_133 : decode prog_42_method_5_code 133 = .ok (.iconst 1, 1) := by decide +kernel
theorem d7_134 : decode prog_42_method_5_code 134 = .ok (.isub, 1) := by decide +kernel
theorem d7_135 : decode prog_42_method_5_code 135 = .ok (.daload, 1) := by decide +kernel
theorem d7_136 : decode prog_42_method_5_code 136 = .ok (.aload_n 0, 1) := by decide +kernel
theorem d7_137 : decode prog_42_method_5_code 137 = .ok (.getfield 13, 3) := by decide +kernel
theorem d7_140 : decode prog_42_method_5_code 140 = .ok (.iload 10, 2) := by decide +kernel
theorem d7_142 : decode prog_42_method_5_code 142 = .ok (.daload, 1) := by decide +kernel
theorem d7_143 : decode prog_42_method_5_code 143 = .ok (.aload 5, 2) := by decide +kernel
theorem d7_145 : decode prog_42_method_5_code 145 = .ok (.iload 10, 2) := by decide +kernel
theorem d7_147 : decode prog_42_method_5_code 147 = .ok (.daload, 1) := by decide +kernel
theorem d7_148 : decode prog_42_method_5_code 148 = .ok (.dadd, 1) := by decide +kernel
theorem d7_149 : decode prog_42_method_5_code 149 = .ok (.invokestatic 104, 3) := by decide +kernel
theorem d7_152 : decode prog_42_method_5_code 152 = .ok (.dastore, 1) := by decide +kernel
theorem d7_153 : decode prog_42_method_5_code 153 = .ok (.iinc 10 1, 3) := by decide +kernel
theorem d7_156 : decode prog_42_method_5_code 156 = .ok (.goto (-89), 3) := by decide +kernel
theorem d7_159 : decode prog_42_method_5_code 159 = .ok (.aload 8, 2) := by decide +kernel
theorem d7_161 : decode prog_42_method_5_code 161 = .ok (.aload_n 0, 1) := by decide +kernel
theorem d7_162 : decode prog_42_method_5_code 162 = .ok (.getfield 7, 3) := by decide +kernel
theorem d7_165 : decode prog_42_method_5_code 165 = .ok (.iconst 1, 1) := by decide +kernel
theorem d7_166 : decode prog_42_method_5_code 166 = .ok (.iadd, 1) := by decide +kernel
theorem d7_167 : decode prog_42_method_5_code 167 = .ok (.ldc2_w 102, 3) := by decide +kernel
theorem d7_170 : decode prog_42_method_5_code 170 = .ok (.dastore, 1) := by decide +kernel
theorem d7_171 : decode prog_42_method_5_code 171 = .ok (.aload 9, 2) := by decide +kernel
theorem d7_173 : decode prog_42_method_5_code 173 = .ok (.aload_n 0, 1) := by decide +kernel
theorem d7_174 : decode prog_42_method_5_code 174 = .ok (.getfield 7, 3) := by decide +kernel
theorem d7_177 : decode prog_42_method_5_code 177 = .ok (.iconst 1, 1) := by decide +kernel
theorem d7_178 : decode prog_42_method_5_code 178 = .ok (.iadd, 1) := by decide +kernel
theorem d7_179 : decode prog_42_method_5_code 179 = .ok (.ldc2_w 102, 3) := by decide +kernel
theorem d7_182 : decode prog_42_method_5_code 182 = .ok (.dastore, 1) := by decide +kernel
theorem d7_183 : decode prog_42_method_5_code 183 = .ok (.aload 8, 2) := by decide +kernel
theorem d7_185 : decode prog_42_method_5_code 185 = .ok (.aload_n 0, 1) := by decide +kernel
theorem d7_186 : decode prog_42_method_5_code 186 = .ok (.getfield 7, 3) := by decide +kernel
theorem d7_189 : decode prog_42_method_5_code 189 = .ok (.aload_n 0, 1) := by decide +kernel
theorem d7_190 : decode prog_42_method_5_code 190 = .ok (.getfield 13, 3) := by decide +kernel
theorem d7_193 : decode prog_42_method_5_code 193 = .ok (.aload_n 0, 1) := by decide +kernel
theorem d7_194 : decode prog_42_method_5_code 194 = .ok (.getfield 7, 3) := by decide +kernel
theorem d7_197 : decode prog_42_method_5_code 197 = .ok (.daload, 1) := by decide +kernel
theorem d7_198 : decode prog_42_method_5_code 198 = .ok (.aload 5, 2) := by decide +kernel
theorem d7_200 : decode prog_42_method_5_code 200 = .ok (.aload_n 0, 1) := by decide +kernel
theorem d7_201 : decode prog_42_method_5_code 201 = .ok (.getfield 7, 3) := by decide +kernel
theorem d7_204 : decode prog_42_method_5_code 204 = .ok (.daload, 1) := by decide +kernel
theorem d7_205 : decode prog_42_method_5_code 205 = .ok (.dadd, 1) := by decide +kernel
theorem d7_206 : decode prog_42_method_5_code 206 = .ok (.dastore, 1) := by decide +kernel
theorem d7_207 : decode prog_42_method_5_code 207 = .ok (.aload 9, 2) := by decide +kernel
theorem d7_209 : decode prog_42_method_5_code 209 = .ok (.aload_n 0, 1) := by decide +kernel
theorem d7_210 : decode prog_42_method_5_code 210 = .ok (.getfield 7, 3) := by decide +kernel
theorem d7_213 : decode prog_42_method_5_code 213 = .ok (.ldc2_w 102, 3) := by decide +kernel
theorem d7_216 : decode prog_42_method_5_code 216 = .ok (.dastore, 1) := by decide +kernel
theorem d7_217 : decode prog_42_method_5_code 217 = .ok (.aload_n 0, 1) := by decide +kernel
theorem d7_218 : decode prog_42_method_5_code 218 = .ok (.getfield 7, 3) := by decide +kernel
theorem d7_221 : decode prog_42_method_5_code 221 = .ok (.iconst 1, 1) := by decide +kernel
theorem d7_222 : decode prog_42_method_5_code 222 = .ok (.isub, 1) := by decide +kernel
theorem d7_223 : decode prog_42_method_5_code 223 = .ok (.istore 10, 2) := by decide +kernel
theorem d7_225 : decode prog_42_method_5_code 225 = .ok (.iload 10, 2) := by decide +kernel
theorem d7_227 : decode prog_42_method_5_code 227 = .ok (.ifCond .lt 67, 3) := by decide +kernel
theorem d7_230 : decode prog_42_method_5_code 230 = .ok (.aload 8, 2) := by decide +kernel
theorem d7_232 : decode prog_42_method_5_code 232 = .ok (.iload 10, 2) := by decide +kernel
theorem d7_234 : decode prog_42_method_5_code 234 = .ok (.aload 8, 2) := by decide +kernel
theorem d7_236 : decode prog_42_method_5_code 236 = .ok (.iload 10, 2) := by decide +kernel
theorem d7_238 : decode prog_42_method_5_code 238 = .ok (.iconst 1, 1) := by decide +kernel
theorem d7_239 : decode prog_42_method_5_code 239 = .ok (.iadd, 1) := by decide +kernel
theorem d7_240 : decode prog_42_method_5_code 240 = .ok (.daload, 1) := by decide +kernel
theorem d7_241 : decode prog_42_method_5_code 241 = .ok (.aload_n 0, 1) := by decide +kernel
theorem d7_242 : decode prog_42_method_5_code 242 = .ok (.getfield 13, 3) := by decide +kernel
theorem d7_245 : decode prog_42_method_5_code 245 = .ok (.iload 10, 2) := by decide +kernel
theorem d7_247 : decode prog_42_method_5_code 247 = .ok (.daload, 1) := by decide +kernel
theorem d7_248 : decode prog_42_method_5_code 248 = .ok (.aload 5, 2) := by decide +kernel
theorem d7_250 : decode prog_42_method_5_code 250 = .ok (.iload 10, 2) := by decide +kernel
theorem d7_252 : decode prog_42_method_5_code 252 = .ok (.daload, 1) := by decide +kernel
theorem d7_253 : decode prog_42_method_5_code 253 = .ok (.dadd, 1) := by decide +kernel
theorem d7_254 : decode prog_42_method_5_code 254 = .ok (.invokestatic 104, 3) := by decide +kernel
theorem d7_257 : decode prog_42_method_5_code 257 = .ok (.dastore, 1) := by decide +kernel
theorem d7_258 : decode prog_42_method_5_code 258 = .ok (.aload 9, 2) := by decide +kernel
theorem d7_260 : decode prog_42_method_5_code 260 = .ok (.iload 10, 2) := by decide +kernel
theorem d7_262 : decode prog_42_method_5_code 262 = .ok (.aload 9, 2) := by decide +kernel
theorem d7_264 : decode prog_42_method_5_code 264 = .ok (.iload 10, 2) := by decide +kernel
theorem d7_266 : decode prog_42_method_5_code 266 = .ok (.iconst 1, 1) := by decide +kernel
theorem d7_267 : decode prog_42_method_5_code 267 = .ok (.iadd, 1) := by decide +kernel
theorem d7_268 : decode prog_42_method_5_code 268 = .ok (.daload, 1) := by decide +kernel
theorem d7_269 : decode prog_42_method_5_code 269 = .ok (.aload_n 0, 1) := by decide +kernel
theorem d7_270 : decode prog_42_method_5_code 270 = .ok (.getfield 13, 3) := by decide +kernel
theorem d7_273 : decode prog_42_method_5_code 273 = .ok (.iload 10, 2) := by decide +kernel
theorem d7_275 : decode prog_42_method_5_code 275 = .ok (.daload, 1) := by decide +kernel
theorem d7_276 : decode prog_42_method_5_code 276 = .ok (.aload 5, 2) := by decide +kernel
theorem d7_278 : decode prog_42_method_5_code 278 = .ok (.iload 10, 2) := by decide +kernel
theorem d7_280 : decode prog_42_method_5_code 280 = .ok (.iconst 1, 1) := by decide +kernel
theorem d7_281 : decode prog_42_method_5_code 281 = .ok (.iadd, 1) := by decide +kernel
theorem d7_282 : decode prog_42_method_5_code 282 = .ok (.daload, 1) := by decide +kernel
theorem d7_283 : decode prog_42_method_5_code 283 = .ok (.dadd, 1) := by decide +kernel
theorem d7_284 : decode prog_42_method_5_code 284 = .ok (.invokestatic 104, 3) := by decide +kernel
theorem d7_287 : decode prog_42_method_5_code 287 = .ok (.dastore, 1) := by decide +kernel
theorem d7_288 : decode prog_42_method_5_code 288 = .ok (.iinc 10 (-1), 3) := by decide +kernel
theorem d7_291 : decode prog_42_method_5_code 291 = .ok (.goto (-66), 3) := by decide +kernel
theorem d7_294 : decode prog_42_method_5_code 294 = .ok (.iconst 0, 1) := by decide +kernel
theorem d7_295 : decode prog_42_method_5_code 295 = .ok (.istore 10, 2) := by decide +kernel
theorem d7_297 : decode prog_42_method_5_code 297 = .ok (.iload 10, 2) := by decide +kernel
theorem d7_299 : decode prog_42_method_5_code 299 = .ok (.aload_n 0, 1) := by decide +kernel
theorem d7_300 : decode prog_42_method_5_code 300 = .ok (.getfield 7, 3) := by decide +kernel
theorem d7_303 : decode prog_42_method_5_code 303 = .ok (.if_icmp .ge 104, 3) := by decide +kernel
theorem d7_306 : decode prog_42_method_5_code 306 = .ok (.aload_n 3, 1) := by decide +kernel
theorem d7_307 : decode prog_42_method_5_code 307 = .ok (.iload 10, 2) := by decide +kernel
theorem d7_309 : decode prog_42_method_5_code 309 = .ok (.daload, 1) := by decide +kernel
theorem d7_310 : decode prog_42_method_5_code 310 = .ok (.dstore 11, 2) := by decide +kernel
theorem d7_312 : decode prog_42_method_5_code 312 = .ok (.aload 6, 2) := by decide +kernel
theorem d7_314 : decode prog_42_method_5_code 314 = .ok (.iload 10, 2) := by decide +kernel
theorem d7_316 : decode prog_42_method_5_code 316 = .ok (.iconst 1, 1) := by decide +kernel
theorem d7_317 : decode prog_42_method_5_code 317 = .ok (.iadd, 1) := by decide +kernel
theorem d7_318 : decode prog_42_method_5_code 318 = .ok (.daload, 1) := by decide +kernel
theorem d7_319 : decode prog_42_method_5_code 319 = .ok (.aload 8, 2) := by decide +kernel
theorem d7_321 : decode prog_42_method_5_code 321 = .ok (.iload 10, 2) := by decide +kernel
theorem d7_323 : decode prog_42_method_5_code 323 = .ok (.iconst 2, 1) := by decide +kernel
theorem d7_324 : decode prog_42_method_5_code 324 = .ok (.iadd, 1) := by decide +kernel
theorem d7_325 : decode prog_42_method_5_code 325 = .ok (.daload, 1) := by decide +kernel
theorem d7_326 : decode prog_42_method_5_code 326 = .ok (.dload 11, 2) := by decide +kernel
theorem d7_328 : decode prog_42_method_5_code 328 = .ok (.dsub, 1) := by decide +kernel
theorem d7_329 : decode prog_42_method_5_code 329 = .ok (.invokestatic 104, 3) := by decide +kernel
theorem d7_332 : decode prog_42_method_5_code 332 = .ok (.dstore 13, 2) := by decide +kernel
theorem d7_334 : decode prog_42_method_5_code 334 = .ok (.aload 7, 2) := by decide +kernel
theorem d7_336 : decode prog_42_method_5_code 336 = .ok (.iload 10, 2) := by decide +kernel
theorem d7_338 : decode prog_42_method_5_code 338 = .ok (.daload, 1) := by decide +kernel
theorem d7_339 : decode prog_42_method_5_code 339 = .ok (.aload 9, 2) := by decide +kernel
theorem d7_341 : decode prog_42_method_5_code 341 = .ok (.iload 10, 2) := by decide +kernel
theorem d7_343 : decode prog_42_method_5_code 343 = .ok (.iconst 1, 1) := by decide +kernel
theorem d7_344 : decode prog_42_method_5_code 344 = .ok (.iadd, 1) := by decide +kernel
theorem d7_345 : decode prog_42_method_5_code 345 = .ok (.daload, 1) := by decide +kernel
theorem d7_346 : decode prog_42_method_5_code 346 = .ok (.dload 11, 2) := by decide +kernel
theorem d7_348 : decode prog_42_method_5_code 348 = .ok (.dsub, 1) := by decide +kernel
theorem d7_349 : decode prog_42_method_5_code 349 = .ok (.invokestatic 104, 3) := by decide +kernel
theorem d7_352 : decode prog_42_method_5_code 352 = .ok (.dstore 15, 2) := by decide +kernel
theorem d7_354 : decode prog_42_method_5_code 354 = .ok (.iload 10, 2) := by decide +kernel
theorem d7_356 : decode prog_42_method_5_code 356 = .ok (.istore 17, 2) := by decide +kernel
theorem d7_358 : decode prog_42_method_5_code 358 = .ok (.iload 17, 2) := by decide +kernel
theorem d7_360 : decode prog_42_method_5_code 360 = .ok (.iload 10, 2) := by decide +kernel
theorem d7_362 : decode prog_42_method_5_code 362 = .ok (.aload 4, 2) := by decide +kernel
theorem d7_364 : decode prog_42_method_5_code 364 = .ok (.iload 10, 2) := by decide +kernel
theorem d7_366 : decode prog_42_method_5_code 366 = .ok (.iaload, 1) := by decide +kernel
theorem d7_367 : decode prog_42_method_5_code 367 = .ok (.iadd, 1) := by decide +kernel
theorem d7_368 : decode prog_42_method_5_code 368 = .ok (.if_icmp .ge 26, 3) := by decide +kernel
theorem d7_371 : decode prog_42_method_5_code 371 = .ok (.aload_n 1, 1) := by decide +kernel
theorem d7_372 : decode prog_42_method_5_code 372 = .ok (.aload_n 0, 1) := by decide +kernel
theorem d7_373 : decode prog_42_method_5_code 373 = .ok (.getfield 31, 3) := by decide +kernel
theorem d7_376 : decode prog_42_method_5_code 376 = .ok (.getfield 57, 3) := by decide +kernel
theorem d7_379 : decode prog_42_method_5_code 379 = .ok (.iload 17, 2) := by decide +kernel
theorem d7_381 : decode prog_42_method_5_code 381 = .ok (.iaload, 1) := by decide +kernel
theorem d7_382 : decode prog_42_method_5_code 382 = .ok (.dload 13, 2) := by decide +kernel
theorem d7_384 : decode prog_42_method_5_code 384 = .ok (.dload 15, 2) := by decide +kernel
theorem d7_386 : decode prog_42_method_5_code 386 = .ok (.dsub, 1) := by decide +kernel
theorem d7_387 : decode prog_42_method_5_code 387 = .ok (.dastore, 1) := by decide +kernel
theorem d7_388 : decode prog_42_method_5_code 388 = .ok (.iinc 17 1, 3) := by decide +kernel
theorem d7_391 : decode prog_42_method_5_code 391 = .ok (.goto (-33), 3) := by decide +kernel
theorem d7_394 : decode prog_42_method_5_code 394 = .ok (.iload 10, 2) := by decide +kernel
theorem d7_396 : decode prog_42_method_5_code 396 = .ok (.aload 4, 2) := by decide +kernel
theorem d7_398 : decode prog_42_method_5_code 398 = .ok (.iload 10, 2) := by decide +kernel
theorem d7_400 : decode prog_42_method_5_code 400 = .ok (.iaload, 1) := by decide +kernel
theorem d7_401 : decode prog_42_method_5_code 401 = .ok (.iadd, 1) := by decide +kernel
theorem d7_402 : decode prog_42_method_5_code 402 = .ok (.istore 10, 2) := by decide +kernel
theorem d7_404 : decode prog_42_method_5_code 404 = .ok (.goto (-107), 3) := by decide +kernel
theorem d7_407 : decode prog_42_method_5_code 407 = .ok (.return_, 1) := by decide +kernel
set_option maxRecDepth 65536 in
set_option maxHeartbeats 40000000 in
theorem own_ans01n (l : Launch) (Z : State) (a0 : Array Value) (hw : ∀ d ∈ tables_1, d.before a0 Z = true) {p : Program} {e : Env} {s : State} {m : MethodId} {below : List Frame} {meth : Method} {c : Code} (hx : p.tables.exec = Jvm.exec) (hby : c.code = prog_42_method_5_code) (hml : c.maxLocals = 18) (hlk : meth.locks = false) (hret : meth.sig.returnType = none) (ob : Addr) (ou : Addr) (sc : Addr) (pp : Int32) (qq : Int32) (z0 : Int32) (z1 : Int32) (ma : Addr) (sA : Addr) (zA : Addr) (oA : Addr) (sa : Addr) (su : Addr) (nu : Addr) (fu : Addr) (nf : Addr) (ff : Addr) (ksA : ClassId) (kzA : ClassId) (koA : ClassId) (ksa : ClassId) (ksu : ClassId) (knu : ClassId) (kfu : ClassId) (knf : ClassId) (kff : ClassId) (kou : ClassId) (y0 : Int64) (y1 : Int64) (y2 : Int64) (v0 : Int64) (v1 : Int64) (su1 : UInt64) (su2 : UInt64) (nu0 : UInt64) (nu1 : UInt64) (nu2 : UInt64) (fu0 : UInt64) (fu1 : UInt64) (fu2 : UInt64) (nf0 : UInt64) (nf1 : UInt64) (nf2 : UInt64) (nf3 : UInt64) (ff0 : UInt64) (ff1 : UInt64) (ff2 : UInt64) (ff3 : UInt64) (ou0 : UInt64) (ou1 : UInt64) (h0 : Heap) (n0 : Nat) (hnd : ([ob, ma, sA, zA, oA, sa, sc, su, nu, fu, nf, ff, ou] : List Addr).Nodup) (b0 : own_bd 128 y0) (b1 : own_bd 128 y1) (b2 : own_bd 128 y2) (bv0 : own_bd 63 v0) (bv1 : own_bd 63 v1) (hcase : own_case pp qq z0 z1 v0 v1) {Tj : State} {hj : Heap} {locsj : List Loc}
    (hZ : Z.Warmed39 s.vm) (hown : s.vm.findClass "com/example/firebreak/firebreak/strategies/CountFactor" = some m.cls) (Xj : Stand p l e ({ frames := 1, cells := 0, slots := 0, locals := 40 } : Room) s m #[(.ref ob), (.ref ou), (.ref sc)] below meth c Tj locsj 0 0) (ej : Tj.heap = hj)
    (F_messages_ob : Fld Z h0 ob "com/example/firebreak/firebreak/strategies/CountFactor" "messages" "Lcom/example/firebreak/firebreak/strategies/CountFactor$Messages;" (.ref ma)) (F_n_ob : Fld Z h0 ob "com/example/firebreak/firebreak/strategies/CountFactor" "n" "I" (.int 2)) (F_score_ob : Fld Z h0 ob "com/example/firebreak/firebreak/strategies/CountFactor" "score" "[D" (.ref sa)) (V_sa : Arv Z h0 sa ksa .double (3 : Int32) [(.double (FP.l2d y0)), (.double (FP.l2d y1)), (.double (FP.l2d y2))] (.double (FP.l2d 0))) (F_sorted_ma : Fld Z h0 ma "com/example/firebreak/firebreak/strategies/CountFactor$Messages" "sorted" "[D" (.ref sA)) (F_tieSize_ma : Fld Z h0 ma "com/example/firebreak/firebreak/strategies/CountFactor$Messages" "tieSize" "[I" (.ref zA)) (F_order_ma : Fld Z h0 ma "com/example/firebreak/firebreak/strategies/CountFactor$Messages" "order" "[I" (.ref oA)) (V_sA : Arv Z h0 sA ksA .double (2 : Int32) [(.double (FP.l2d v0)), (.double (FP.l2d v1))] (.double (FP.l2d 0))) (V_zA : Arv Z h0 zA kzA .int (2 : Int32) [(.int 1), (.int 1)] (.int 0)) (V_oA : Arv Z h0 oA koA .int (2 : Int32) [(.int 0), (.int 1)] (.int 0)) (F_sums_sc : Fld Z h0 sc "com/example/firebreak/firebreak/strategies/CountFactor$Scratch" "sums" "[D" (.ref su)) (F_onUpTo_sc : Fld Z h0 sc "com/example/firebreak/firebreak/strategies/CountFactor$Scratch" "onUpTo" "[D" (.ref nu)) (F_offUpTo_sc : Fld Z h0 sc "com/example/firebreak/firebreak/strategies/CountFactor$Scratch" "offUpTo" "[D" (.ref fu)) (F_onFrom_sc : Fld Z h0 sc "com/example/firebreak/firebreak/strategies/CountFactor$Scratch" "onFrom" "[D" (.ref nf)) (F_offFrom_sc : Fld Z h0 sc "com/example/firebreak/firebreak/strategies/CountFactor$Scratch" "offFrom" "[D" (.ref ff)) (V_ou : Arv Z hj ou kou .double (2 : Int32) [(.double ou0), (.double ou1)] (.double (FP.l2d 0))) (g_su : n0 ≤ su) (g_nu : n0 ≤ nu) (g_fu : n0 ≤ fu) (g_nf : n0 ≤ nf) (g_ff : n0 ≤ ff) (g_ou : n0 ≤ ou) (Zle : n0 ≤ h0.size) (N_ : Fr n0 locsj) (K_ : Keep h0 hj [su, nu, fu, nf, ff, ou]) (nin_ob : ob ∉ [su, nu, fu, nf, ff, ou]) (nin_sa : sa ∉ [su, nu, fu, nf, ff, ou]) (nin_ma : ma ∉ [su, nu, fu, nf, ff, ou]) (nin_sA : sA ∉ [su, nu, fu, nf, ff, ou]) (nin_zA : zA ∉ [su, nu, fu, nf, ff, ou]) (nin_oA : oA ∉ [su, nu, fu, nf, ff, ou]) (nin_sc : sc ∉ [su, nu, fu, nf, ff, ou]) (V_su : Arv Z hj su ksu .double (3 : Int32) [(.double (FP.l2d 0)), (.double (FP.l2d (0 + v0))), (.double (FP.l2d ((0 + v0) + v1)))] (.double (FP.l2d 0))) (V_nu : Arv Z hj nu knu .double (3 : Int32) [(.double 18442240474082181120), (.double (FP.l2d (y1 + 0))), (.double (FP.l2d (own_max (y1 + 0) (y2 + (0 + v0)))))] (.double (FP.l2d 0))) (V_fu : Arv Z hj fu kfu .double (3 : Int32) [(.double (FP.l2d y0)), (.double (FP.l2d (own_max y0 (y1 + (0 + v0))))), (.double (FP.l2d (own_max (own_max y0 (y1 + (0 + v0))) (y2 + ((0 + v0) + v1)))))] (.double (FP.l2d 0))) (V_nf : Arv Z hj nf knf .double (4 : Int32) [(.double (FP.l2d (own_max (own_max (y2 + ((0 + v0) + v1)) (y1 + (0 + v0))) (y0 + 0)))), (.double (FP.l2d (own_max (y2 + ((0 + v0) + v1)) (y1 + (0 + v0))))), (.double (FP.l2d (y2 + ((0 + v0) + v1)))), (.double 18442240474082181120)] (.double (FP.l2d 0))) (V_ff : Arv Z hj ff kff .double (4 : Int32) [(.double (FP.l2d (own_max (y1 + ((0 + v0) + v1)) (y0 + (0 + v0))))), (.double (FP.l2d (y1 + ((0 + v0) + v1)))), (.double 18442240474082181120), (.double 18442240474082181120)] (.double (FP.l2d 0))) (ha : pp = 0) : own_Goes p.tables e below s (Q7 Z ob ou sc pp qq z0 z1 ma sA zA oA sa su nu fu nf ff ksA kzA koA ksa ksu knu kfu knf kff kou y0 y1 y2 v0 v1 su1 su2 nu0 nu1 nu2 fu0 fu1 fu2 nf0 nf1 nf2 nf3 ff0 ff1 ff2 ff3 ou0 ou1 h0 n0) ({ frames := 1, cells := 0, slots := 0, locals := 40 } : Room).cells ({ frames := 1, cells := 0, slots := 0, locals := 40 } : Room).slots Tj (mkF m 294 (Ls36 ob ou sc sA zA su nu fu nf ff (-1)) []) := by
  refine oIc 295 Xj hx (hb hby d7_294) 0 rfl rfl ?_
  refine oIst 297 Xj hx (hb hby d7_295) (Ls36 ob ou sc sA zA su nu fu nf ff 0) rfl rfl ?_
  refine oIl 299 Xj hx (hb hby d7_297) rfl rfl ?_
  refine oAlN 300 Xj hx (hb hby d7_299) rfl rfl ?_
  refine oF 303 Xj hx hZ hown (host := "") (Or.inl (hw _ (own_m 10 rfl))) Via.refl ej (F_n_ob.keep K_ nin_ob) (hb hby d7_300) rfl fun T78 X78 e78 => ?_
  refine oCn 306 X78 hx (hb hby d7_303) (tlt (by decide)).2.1 rfl ?_
  refine oAlN 307 X78 hx (hb hby d7_306) rfl rfl ?_
  refine oIl 309 X78 hx (hb hby d7_307) rfl rfl ?_
  refine oDa 310 X78 hx hZ e78 (V_sA.keep K_ nin_sA) (.double (FP.l2d v0)) (hb hby d7_309) (by decide) rfl rfl ?_
  refine oDst 312 X78 hx (hb hby d7_310) (Ls37 ob ou sc sA zA su nu fu nf ff 0 (FP.l2d v0)) rfl rfl ?_
  refine oAl 314 X78 hx (hb hby d7_312) rfl rfl ?_
  refine oIl 316 X78 hx (hb hby d7_314) rfl rfl ?_
  refine oIc 317 X78 hx (hb hby d7_316) 1 rfl rfl ?_
  refine oAdd 318 X78 hx (hb hby d7_317) 1 rfl rfl ?_
  refine oDa 319 X78 hx hZ e78 V_nu (.double (FP.l2d (y1 + 0))) (hb hby d7_318) (by decide) rfl rfl ?_
  refine oAl 321 X78 hx (hb hby d7_319) rfl rfl ?_
  refine oIl 323 X78 hx (hb hby d7_321) rfl rfl ?_
  refine oIc 324 X78 hx (hb hby d7_323) 2 rfl rfl ?_
  refine oAdd 325 X78 hx (hb hby d7_324) 2 rfl rfl ?_
  refine oDa 326 X78 hx hZ e78 V_nf (.double (FP.l2d (y2 + ((0 + v0) + v1)))) (hb hby d7_325) (by decide) rfl rfl ?_
  refine oDl 328 X78 hx (hb hby d7_326) rfl rfl ?_
  refine own_by (g' := (mkF m 329 (Ls37 ob ou sc sA zA su nu fu nf ff 0 (FP.l2d v0)) [(.double (FP.l2d ((y2 + ((0 + v0) + v1)) - v0))), (.double (FP.l2d (y1 + 0)))])) (fun t k => XS.dsubS X78.here hx rfl (hb hby d7_328) rfl (nn_w (dsub_w (own_b53 (own_badd b2 (own_badd (own_badd own_b0 bv0) bv1))) (own_b53 bv0))) (dsub_w (own_b53 (own_badd b2 (own_badd (own_badd own_b0 bv0) bv1))) (own_b53 bv0)) k) ?_
  obtain ⟨_, _, ⟨T82, L82, k82, n82⟩, -, X82, ⟨Lc82, hQ82, l82, y82, z82⟩, st82⟩ := Jvm.LawKit.callS X78 hx (y := (⟨"com/example/firebreak/firebreak/strategies/DoubleMax", "of", "(DD)D"⟩ : MethodName)) hown (mvT hZ (hw _ (own_m 96 rfl))) (mvT hZ (hw _ (own_m 97 rfl))) (mvT hZ (hw _ (own_m 98 rfl))) (mvT hZ (hw _ (own_m 99 rfl))) (by decide) (backOf (W := 0) (rm8f l Z a0 hw [] (y1 + 0) ((y2 + ((0 + v0) + v1)) - v0) hj n0 (Nat.le_trans Zle K_.1) ((own_b53 (own_badd b1 own_b0))) ((own_b53 (own_bsub (own_badd b2 (own_badd (own_badd own_b0 bv0) bv1)) bv0)))) hZ (hw _ (own_m 99 rfl)) (hw _ (own_m 98 rfl)) (by decide) (by decide)) (g := (mkF m 329 (Ls37 ob ou sc sA zA su nu fu nf ff 0 (FP.l2d v0)) [(.double (FP.l2d ((y2 + ((0 + v0) + v1)) - v0))), (.double (FP.l2d (y1 + 0)))])) rfl (by rw [hml]; rfl) (argsL := [(.double (FP.l2d (y1 + 0))), (.double (FP.l2d ((y2 + ((0 + v0) + v1)) - v0)))]) (rest := []) (lenOf pd_2 rfl) rfl (own_le rfl) (hb hby d7_329) (fun _ _ => ⟨rfl, e78, (by decide : 0 + 0 ≤ _), (by decide : 0 + 0 ≤ _)⟩)
  dsimp only [Pt.U, Pt.locs, Pt.cells, Pt.slots] at X82 l82 y82 z82 st82 hQ82
  subst l82 y82 z82
  obtain ⟨rfl, Nq82, e82⟩ := hQ82
  replace N_ := Fr.app N_ Nq82
  clear Nq82
  refine own_by (T' := T82) (g' := (mkF m 332 (Ls37 ob ou sc sA zA su nu fu nf ff 0 (FP.l2d v0)) [(.double (FP.l2d (own_max (y1 + 0) ((y2 + ((0 + v0) + v1)) - v0))))])) (fun t k => st82 _ k) ?_
  clear st82 X78 e78
  refine oDst 334 X82 hx (hb hby d7_332) (Ls38 ob ou sc sA zA su nu fu nf ff 0 (FP.l2d v0) (FP.l2d (own_max (y1 + 0) ((y2 + ((0 + v0) + v1)) - v0)))) rfl rfl ?_
  refine oAl 336 X82 hx (hb hby d7_334) rfl rfl ?_
  refine oIl 338 X82 hx (hb hby d7_336) rfl rfl ?_
  refine oDa 339 X82 hx hZ e82 V_fu (.double (FP.l2d y0)) (hb hby d7_338) (by decide) rfl rfl ?_
  refine oAl 341 X82 hx (hb hby d7_339) rfl rfl ?_
  refine oIl 343 X82 hx (hb hby d7_341) rfl rfl ?_
  refine oIc 344 X82 hx (hb hby d7_343) 1 rfl rfl ?_
  refine oAdd 345 X82 hx (hb hby d7_344) 1 rfl rfl ?_
  refine oDa 346 X82 hx hZ e82 V_ff (.double (FP.l2d (y1 + ((0 + v0) + v1)))) (hb hby d7_345) (by decide) rfl rfl ?_
  refine oDl 348 X82 hx (hb hby d7_346) rfl rfl ?_
  refine own_by (g' := (mkF m 349 (Ls38 ob ou sc sA zA su nu fu nf ff 0 (FP.l2d v0) (FP.l2d (own_max (y1 + 0) ((y2 + ((0 + v0) + v1)) - v0)))) [(.double (FP.l2d ((y1 + ((0 + v0) + v1)) - v0))), (.double (FP.l2d y0))])) (fun t k => XS.dsubS X82.here hx rfl (hb hby d7_348) rfl (nn_w (dsub_w (own_b53 (own_badd b1 (own_badd (own_badd own_b0 bv0) bv1))) (own_b53 bv0))) (dsub_w (own_b53 (own_badd b1 (own_badd (own_badd own_b0 bv0) bv1))) (own_b53 bv0)) k) ?_
  obtain ⟨_, _, ⟨T85, L85, k85, n85⟩, -, X85, ⟨Lc85, hQ85, l85, y85, z85⟩, st85⟩ := Jvm.LawKit.callS X82 hx (y := (⟨"com/example/firebreak/firebreak/strategies/DoubleMax", "of", "(DD)D"⟩ : MethodName)) hown (mvT hZ (hw _ (own_m 96 rfl))) (mvT hZ (hw _ (own_m 97 rfl))) (mvT hZ (hw _ (own_m 98 rfl))) (mvT hZ (hw _ (own_m 99 rfl))) (by decide) (backOf (W := 0) (rm8f l Z a0 hw [] y0 ((y1 + ((0 + v0) + v1)) - v0) hj n0 (Nat.le_trans Zle K_.1) ((own_b53 b0)) ((own_b53 (own_bsub (own_badd b1 (own_badd (own_badd own_b0 bv0) bv1)) bv0)))) hZ (hw _ (own_m 99 rfl)) (hw _ (own_m 98 rfl)) (by decide) (by decide)) (g := (mkF m 349 (Ls38 ob ou sc sA zA su nu fu nf ff 0 (FP.l2d v0) (FP.l2d (own_max (y1 + 0) ((y2 + ((0 + v0) + v1)) - v0)))) [(.double (FP.l2d ((y1 + ((0 + v0) + v1)) - v0))), (.double (FP.l2d y0))])) rfl (by rw [hml]; rfl) (argsL := [(.double (FP.l2d y0)), (.double (FP.l2d ((y1 + ((0 + v0) + v1)) - v0)))]) (rest := []) (lenOf pd_2 rfl) rfl (own_le rfl) (hb hby d7_349) (fun _ _ => ⟨rfl, e82, (by decide : 0 + 0 ≤ _), (by decide : 0 + 0 ≤ _)⟩)
  dsimp only [Pt.U, Pt.locs, Pt.cells, Pt.slots] at X85 l85 y85 z85 st85 hQ85
  subst l85 y85 z85
  obtain ⟨rfl, Nq85, e85⟩ := hQ85
  replace N_ := Fr.app N_ Nq85
  clear Nq85
  refine own_by (T' := T85) (g' := (mkF m 352 (Ls38 ob ou sc sA zA su nu fu nf ff 0 (FP.l2d v0) (FP.l2d (own_max (y1 + 0) ((y2 + ((0 + v0) + v1)) - v0)))) [(.double (FP.l2d (own_max y0 ((y1 + ((0 + v0) + v1)) - v0))))])) (fun t k => st85 _ k) ?_
  clear st85 X82 e82
  refine oDst 354 X85 hx (hb hby d7_352) (Ls39 ob ou sc sA zA su nu fu nf ff 0 (FP.l2d v0) (FP.l2d (own_max (y1 + 0) ((y2 + ((0 + v0) + v1)) - v0))) (FP.l2d (own_max y0 ((y1 + ((0 + v0) + v1)) - v0)))) rfl rfl ?_
  refine oIl 356 X85 hx (hb hby d7_354) rfl rfl ?_
  refine oIst 358 X85 hx (hb hby d7_356) (Ls40 ob ou sc sA zA su nu fu nf ff 0 (FP.l2d v0) (FP.l2d (own_max (y1 + 0) ((y2 + ((0 + v0) + v1)) - v0))) (FP.l2d (own_max y0 ((y1 + ((0 + v0) + v1)) - v0))) 0) rfl rfl ?_
  refine oIl 360 X85 hx (hb hby d7_358) rfl rfl ?_
  refine oIl 362 X85 hx (hb hby d7_360) rfl rfl ?_
  refine oAl 364 X85 hx (hb hby d7_362) rfl rfl ?_
  refine oIl 366 X85 hx (hb hby d7_364) rfl rfl ?_
  refine oIa 367 X85 hx hZ e85 (V_zA.keep K_ nin_zA) (.int 1) (hb hby d7_366) (by decide) rfl rfl ?_
  refine oAdd 368 X85 hx (hb hby d7_367) 1 rfl rfl ?_
  refine oCn 371 X85 hx (hb hby d7_368) (tlt (by decide)).2.1 rfl ?_
  refine oAlN 372 X85 hx (hb hby d7_371) rfl rfl ?_
  refine oAlN 373 X85 hx (hb hby d7_372) rfl rfl ?_
  refine oF 376 X85 hx hZ hown (host := "") (Or.inl (hw _ (own_m 38 rfl))) Via.refl e85 (F_messages_ob.keep K_ nin_ob) (hb hby d7_373) rfl fun T87 X87 e87 => ?_
  clear X85 e85
  refine oR 379 X87 hx hZ hown (hw _ (own_m 79 rfl)) e87 (F_order_ma.keep K_ nin_ma) (hb hby d7_376) rfl ?_
  refine oIl 381 X87 hx (hb hby d7_379) rfl rfl ?_
  refine oIa 382 X87 hx hZ e87 (V_oA.keep K_ nin_oA) (.int 0) (hb hby d7_381) (by decide) rfl rfl ?_
  refine oDl 384 X87 hx (hb hby d7_382) rfl rfl ?_
  refine oDl 386 X87 hx (hb hby d7_384) rfl rfl ?_
  refine own_by (g' := (mkF m 387 (Ls40 ob ou sc sA zA su nu fu nf ff 0 (FP.l2d v0) (FP.l2d (own_max (y1 + 0) ((y2 + ((0 + v0) + v1)) - v0))) (FP.l2d (own_max y0 ((y1 + ((0 + v0) + v1)) - v0))) 0) [(.double (FP.l2d ((own_max (y1 + 0) ((y2 + ((0 + v0) + v1)) - v0)) - (own_max y0 ((y1 + ((0 + v0) + v1)) - v0))))), (.int 0), (.ref ou)])) (fun t k => XS.dsubS X87.here hx rfl (hb hby d7_386) rfl (nn_w (dsub_w (own_b53 (own_bmax (own_badd b1 own_b0) (own_bsub (own_badd b2 (own_badd (own_badd own_b0 bv0) bv1)) bv0))) (own_b53 (own_bmax b0 (own_bsub (own_badd b1 (own_badd (own_badd own_b0 bv0) bv1)) bv0))))) (dsub_w (own_b53 (own_bmax (own_badd b1 own_b0) (own_bsub (own_badd b2 (own_badd (own_badd own_b0 bv0) bv1)) bv0))) (own_b53 (own_bmax b0 (own_bsub (own_badd b1 (own_badd (own_badd own_b0 bv0) bv1)) bv0)))) k) ?_
  refine oDs 388 X87 hx hZ e87 V_ou 0 [(.double (FP.l2d ((own_max (y1 + 0) ((y2 + ((0 + v0) + v1)) - v0)) - (own_max y0 ((y1 + ((0 + v0) + v1)) - v0))))), (.double ou1)] (hb hby d7_387) (by decide) rfl (Nat.le_of_ble_eq_true rfl) rfl rfl fun T89 h89 X89 e89 W89 V_ou_ => ?_
  replace K_ := kW K_ W89 5 rfl
  replace V_su := V_su.other W89 (nd hnd 7 12)
  replace V_nu := V_nu.other W89 (nd hnd 8 12)
  replace V_fu := V_fu.other W89 (nd hnd 9 12)
  replace V_nf := V_nf.other W89 (nd hnd 10 12)
  replace V_ff := V_ff.other W89 (nd hnd 11 12)
  replace V_ou := V_ou_
  clear V_ou_ W89
  replace N_ := Fr.snoc X89 N_ g_ou
  clear X87 e87
  refine oInc 391 X89 hx (hb hby d7_388) (Ls40 ob ou sc sA zA su nu fu nf ff 0 (FP.l2d v0) (FP.l2d (own_max (y1 + 0) ((y2 + ((0 + v0) + v1)) - v0))) (FP.l2d (own_max y0 ((y1 + ((0 + v0) + v1)) - v0))) 1) rfl rfl rfl ?_
  refine oGo 358 X89 hx (hb hby d7_391) (by decide) (by decide) ?_
  refine oIl 360 X89 hx (hb hby d7_358) rfl rfl ?_
  refine oIl 362 X89 hx (hb hby d7_360) rfl rfl ?_
  refine oAl 364 X89 hx (hb hby d7_362) rfl rfl ?_
  refine oIl 366 X89 hx (hb hby d7_364) rfl rfl ?_
  refine oIa 367 X89 hx hZ e89 (V_zA.keep K_ nin_zA) (.int 1) (hb hby d7_366) (by decide) rfl rfl ?_
  refine oAdd 368 X89 hx (hb hby d7_367) 1 rfl rfl ?_
  refine oCy 394 X89 hx (hb hby d7_368) (flt (by decide)).2.1 (by decide) (by decide) ?_
  refine oIl 396 X89 hx (hb hby d7_394) rfl rfl ?_
  refine oAl 398 X89 hx (hb hby d7_396) rfl rfl ?_
  refine oIl 400 X89 hx (hb hby d7_398) rfl rfl ?_
  refine oIa 401 X89 hx hZ e89 (V_zA.keep K_ nin_zA) (.int 1) (hb hby d7_400) (by decide) rfl rfl ?_
  refine oAdd 402 X89 hx (hb hby d7_401) 1 rfl rfl ?_
  refine oIst 404 X89 hx (hb hby d7_402) (Ls40 ob ou sc sA zA su nu fu nf ff 1 (FP.l2d v0) (FP.l2d (own_max (y1 + 0) ((y2 + ((0 + v0) + v1)) - v0))) (FP.l2d (own_max y0 ((y1 + ((0 + v0) + v1)) - v0))) 1) rfl rfl ?_
  refine oGo 297 X89 hx (hb hby d7_404) (by decide) (by decide) ?_
  refine oIl 299 X89 hx (hb hby d7_297) rfl rfl ?_
  refine oAlN 300 X89 hx (hb hby d7_299) rfl rfl ?_
  refine oF 303 X89 hx hZ hown (host := "") (Or.inl (hw _ (own_m 10 rfl))) Via.refl e89 (F_n_ob.keep K_ nin_ob) (hb hby d7_300) rfl fun T92 X92 e92 => ?_
  clear X89 e89
  refine oCn 306 X92 hx (hb hby d7_303) (tlt (by decide)).2.1 rfl ?_
  refine oAlN 307 X92 hx (hb hby d7_306) rfl rfl ?_
  refine oIl 309 X92 hx (hb hby d7_307) rfl rfl ?_
  refine oDa 310 X92 hx hZ e92 (V_sA.keep K_ nin_sA) (.double (FP.l2d v1)) (hb hby d7_309) (by decide) rfl rfl ?_
  refine oDst 312 X92 hx (hb hby d7_310) (Ls40 ob ou sc sA zA su nu fu nf ff 1 (FP.l2d v1) (FP.l2d (own_max (y1 + 0) ((y2 + ((0 + v0) + v1)) - v0))) (FP.l2d (own_max y0 ((y1 + ((0 + v0) + v1)) - v0))) 1) rfl rfl ?_
  refine oAl 314 X92 hx (hb hby d7_312) rfl rfl ?_
  refine oIl 316 X92 hx (hb hby d7_314) rfl rfl ?_
  refine oIc 317 X92 hx (hb hby d7_316) 1 rfl rfl ?_
  refine oAdd 318 X92 hx (hb hby d7_317) 2 rfl rfl ?_
  refine oDa 319 X92 hx hZ e92 V_nu (.double (FP.l2d (own_max (y1 + 0) (y2 + (0 + v0))))) (hb hby d7_318) (by decide) rfl rfl ?_
  refine oAl 321 X92 hx (hb hby d7_319) rfl rfl ?_
  refine oIl 323 X92 hx (hb hby d7_321) rfl rfl ?_
  refine oIc 324 X92 hx (hb hby d7_323) 2 rfl rfl ?_
  refine oAdd 325 X92 hx (hb hby d7_324) 3 rfl rfl ?_
  refine oDa 326 X92 hx hZ e92 V_nf (.double 18442240474082181120) (hb hby d7_325) (by decide) rfl rfl ?_
  refine oDl 328 X92 hx (hb hby d7_326) rfl rfl ?_
  refine own_by (g' := (mkF m 329 (Ls40 ob ou sc sA zA su nu fu nf ff 1 (FP.l2d v1) (FP.l2d (own_max (y1 + 0) ((y2 + ((0 + v0) + v1)) - v0))) (FP.l2d (own_max y0 ((y1 + ((0 + v0) + v1)) - v0))) 1) [(.double 18442240474082181120), (.double (FP.l2d (own_max (y1 + 0) (y2 + (0 + v0)))))])) (fun t k => XS.dsubS X92.here hx rfl (hb hby d7_328) rfl (own_nnS bv1) (own_nS bv1) k) ?_
  obtain ⟨_, _, ⟨T96, L96, k96, n96⟩, -, X96, ⟨Lc96, hQ96, l96, y96, z96⟩, st96⟩ := Jvm.LawKit.callS X92 hx (y := (⟨"com/example/firebreak/firebreak/strategies/DoubleMax", "of", "(DD)D"⟩ : MethodName)) hown (mvT hZ (hw _ (own_m 96 rfl))) (mvT hZ (hw _ (own_m 97 rfl))) (mvT hZ (hw _ (own_m 98 rfl))) (mvT hZ (hw _ (own_m 99 rfl))) (by decide) (backOf (W := 0) (rm8r l Z a0 hw [] (own_max (y1 + 0) (y2 + (0 + v0))) h89 n0 (Nat.le_trans Zle K_.1) ) hZ (hw _ (own_m 99 rfl)) (hw _ (own_m 98 rfl)) (by decide) (by decide)) (g := (mkF m 329 (Ls40 ob ou sc sA zA su nu fu nf ff 1 (FP.l2d v1) (FP.l2d (own_max (y1 + 0) ((y2 + ((0 + v0) + v1)) - v0))) (FP.l2d (own_max y0 ((y1 + ((0 + v0) + v1)) - v0))) 1) [(.double 18442240474082181120), (.double (FP.l2d (own_max (y1 + 0) (y2 + (0 + v0)))))])) rfl (by rw [hml]; rfl) (argsL := [(.double (FP.l2d (own_max (y1 + 0) (y2 + (0 + v0))))), (.double 18442240474082181120)]) (rest := []) (lenOf pd_2 rfl) rfl (own_le rfl) (hb hby d7_329) (fun _ _ => ⟨rfl, e92, (by decide : 0 + 0 ≤ _), (by decide : 0 + 0 ≤ _)⟩)
  dsimp only [Pt.U, Pt.locs, Pt.cells, Pt.slots] at X96 l96 y96 z96 st96 hQ96
  subst l96 y96 z96
  obtain ⟨rfl, Nq96, e96⟩ := hQ96
  replace N_ := Fr.app N_ Nq96
  clear Nq96
  refine own_by (T' := T96) (g' := (mkF m 332 (Ls40 ob ou sc sA zA su nu fu nf ff 1 (FP.l2d v1) (FP.l2d (own_max (y1 + 0) ((y2 + ((0 + v0) + v1)) - v0))) (FP.l2d (own_max y0 ((y1 + ((0 + v0) + v1)) - v0))) 1) [(.double (FP.l2d (own_max (y1 + 0) (y2 + (0 + v0)))))])) (fun t k => st96 _ k) ?_
  clear st96 X92 e92
  refine oDst 334 X96 hx (hb hby d7_332) (Ls40 ob ou sc sA zA su nu fu nf ff 1 (FP.l2d v1) (FP.l2d (own_max (y1 + 0) (y2 + (0 + v0)))) (FP.l2d (own_max y0 ((y1 + ((0 + v0) + v1)) - v0))) 1) rfl rfl ?_
  refine oAl 336 X96 hx (hb hby d7_334) rfl rfl ?_
  refine oIl 338 X96 hx (hb hby d7_336) rfl rfl ?_
  refine oDa 339 X96 hx hZ e96 V_fu (.double (FP.l2d (own_max y0 (y1 + (0 + v0))))) (hb hby d7_338) (by decide) rfl rfl ?_
  refine oAl 341 X96 hx (hb hby d7_339) rfl rfl ?_
  refine oIl 343 X96 hx (hb hby d7_341) rfl rfl ?_
  refine oIc 344 X96 hx (hb hby d7_343) 1 rfl rfl ?_
  refine oAdd 345 X96 hx (hb hby d7_344) 2 rfl rfl ?_
  refine oDa 346 X96 hx hZ e96 V_ff (.double 18442240474082181120) (hb hby d7_345) (by decide) rfl rfl ?_
  refine oDl 348 X96 hx (hb hby d7_346) rfl rfl ?_
  refine own_by (g' := (mkF m 349 (Ls40 ob ou sc sA zA su nu fu nf ff 1 (FP.l2d v1) (FP.l2d (own_max (y1 + 0) (y2 + (0 + v0)))) (FP.l2d (own_max y0 ((y1 + ((0 + v0) + v1)) - v0))) 1) [(.double 18442240474082181120), (.double (FP.l2d (own_max y0 (y1 + (0 + v0)))))])) (fun t k => XS.dsubS X96.here hx rfl (hb hby d7_348) rfl (own_nnS bv1) (own_nS bv1) k) ?_
  obtain ⟨_, _, ⟨T99, L99, k99, n99⟩, -, X99, ⟨Lc99, hQ99, l99, y99, z99⟩, st99⟩ := Jvm.LawKit.callS X96 hx (y := (⟨"com/example/firebreak/firebreak/strategies/DoubleMax", "of", "(DD)D"⟩ : MethodName)) hown (mvT hZ (hw _ (own_m 96 rfl))) (mvT hZ (hw _ (own_m 97 rfl))) (mvT hZ (hw _ (own_m 98 rfl))) (mvT hZ (hw _ (own_m 99 rfl))) (by decide) (backOf (W := 0) (rm8r l Z a0 hw [] (own_max y0 (y1 + (0 + v0))) h89 n0 (Nat.le_trans Zle K_.1) ) hZ (hw _ (own_m 99 rfl)) (hw _ (own_m 98 rfl)) (by decide) (by decide)) (g := (mkF m 349 (Ls40 ob ou sc sA zA su nu fu nf ff 1 (FP.l2d v1) (FP.l2d (own_max (y1 + 0) (y2 + (0 + v0)))) (FP.l2d (own_max y0 ((y1 + ((0 + v0) + v1)) - v0))) 1) [(.double 18442240474082181120), (.double (FP.l2d (own_max y0 (y1 + (0 + v0)))))])) rfl (by rw [hml]; rfl) (argsL := [(.double (FP.l2d (own_max y0 (y1 + (0 + v0))))), (.double 18442240474082181120)]) (rest := []) (lenOf pd_2 rfl) rfl (own_le rfl) (hb hby d7_349) (fun _ _ => ⟨rfl, e96, (by decide : 0 + 0 ≤ _), (by decide : 0 + 0 ≤ _)⟩)
  dsimp only [Pt.U, Pt.locs, Pt.cells, Pt.slots] at X99 l99 y99 z99 st99 hQ99
  subst l99 y99 z99
  obtain ⟨rfl, Nq99, e99⟩ := hQ99
  replace N_ := Fr.app N_ Nq99
  clear Nq99
  refine own_by (T' := T99) (g' := (mkF m 352 (Ls40 ob ou sc sA zA su nu fu nf ff 1 (FP.l2d v1) (FP.l2d (own_max (y1 + 0) (y2 + (0 + v0)))) (FP.l2d (own_max y0 ((y1 + ((0 + v0) + v1)) - v0))) 1) [(.double (FP.l2d (own_max y0 (y1 + (0 + v0)))))])) (fun t k => st99 _ k) ?_
  clear st99 X96 e96
  refine oDst 354 X99 hx (hb hby d7_352) (Ls40 ob ou sc sA zA su nu fu nf ff 1 (FP.l2d v1) (FP.l2d (own_max (y1 + 0) (y2 + (0 + v0)))) (FP.l2d (own_max y0 (y1 + (0 + v0)))) 1) rfl rfl ?_
  refine oIl 356 X99 hx (hb hby d7_354) rfl rfl ?_
  refine oIst 358 X99 hx (hb hby d7_356) (Ls40 ob ou sc sA zA su nu fu nf ff 1 (FP.l2d v1) (FP.l2d (own_max (y1 + 0) (y2 + (0 + v0)))) (FP.l2d (own_max y0 (y1 + (0 + v0)))) 1) rfl rfl ?_
  refine oIl 360 X99 hx (hb hby d7_358) rfl rfl ?_
  refine oIl 362 X99 hx (hb hby d7_360) rfl rfl ?_
  refine oAl 364 X99 hx (hb hby d7_362) rfl rfl ?_
  refine oIl 366 X99 hx (hb hby d7_364) rfl rfl ?_
  refine oIa 367 X99 hx hZ e99 (V_zA.keep K_ nin_zA) (.int 1) (hb hby d7_366) (by decide) rfl rfl ?_
  refine oAdd 368 X99 hx (hb hby d7_367) 2 rfl rfl ?_
  refine oCn 371 X99 hx (hb hby d7_368) (tlt (by decide)).2.1 rfl ?_
  refine oAlN 372 X99 hx (hb hby d7_371) rfl rfl ?_
  refine oAlN 373 X99 hx (hb hby d7_372) rfl rfl ?_
  refine oF 376 X99 hx hZ hown (host := "") (Or.inl (hw _ (own_m 38 rfl))) Via.refl e99 (F_messages_ob.keep K_ nin_ob) (hb hby d7_373) rfl fun T101 X101 e101 => ?_
  clear X99 e99
  refine oR 379 X101 hx hZ hown (hw _ (own_m 79 rfl)) e101 (F_order_ma.keep K_ nin_ma) (hb hby d7_376) rfl ?_
  refine oIl 381 X101 hx (hb hby d7_379) rfl rfl ?_
  refine oIa 382 X101 hx hZ e101 (V_oA.keep K_ nin_oA) (.int 1) (hb hby d7_381) (by decide) rfl rfl ?_
  refine oDl 384 X101 hx (hb hby d7_382) rfl rfl ?_
  refine oDl 386 X101 hx (hb hby d7_384) rfl rfl ?_
  refine own_by (g' := (mkF m 387 (Ls40 ob ou sc sA zA su nu fu nf ff 1 (FP.l2d v1) (FP.l2d (own_max (y1 + 0) (y2 + (0 + v0)))) (FP.l2d (own_max y0 (y1 + (0 + v0)))) 1) [(.double (FP.l2d ((own_max (y1 + 0) (y2 + (0 + v0))) - (own_max y0 (y1 + (0 + v0)))))), (.int 1), (.ref ou)])) (fun t k => XS.dsubS X101.here hx rfl (hb hby d7_386) rfl (nn_w (dsub_w (own_b53 (own_bmax (own_badd b1 own_b0) (own_badd b2 (own_badd own_b0 bv0)))) (own_b53 (own_bmax b0 (own_badd b1 (own_badd own_b0 bv0)))))) (dsub_w (own_b53 (own_bmax (own_badd b1 own_b0) (own_badd b2 (own_badd own_b0 bv0)))) (own_b53 (own_bmax b0 (own_badd b1 (own_badd own_b0 bv0))))) k) ?_
  refine oDs 388 X101 hx hZ e101 V_ou 1 [(.double (FP.l2d ((own_max (y1 + 0) ((y2 + ((0 + v0) + v1)) - v0)) - (own_max y0 ((y1 + ((0 + v0) + v1)) - v0))))), (.double (FP.l2d ((own_max (y1 + 0) (y2 + (0 + v0))) - (own_max y0 (y1 + (0 + v0))))))] (hb hby d7_387) (by decide) rfl (Nat.le_of_ble_eq_true rfl) rfl rfl fun T103 h103 X103 e103 W103 V_ou_ => ?_
  replace K_ := kW K_ W103 5 rfl
  replace V_su := V_su.other W103 (nd hnd 7 12)
  replace V_nu := V_nu.other W103 (nd hnd 8 12)
  replace V_fu := V_fu.other W103 (nd hnd 9 12)
  replace V_nf := V_nf.other W103 (nd hnd 10 12)
  replace V_ff := V_ff.other W103 (nd hnd 11 12)
  replace V_ou := V_ou_
  clear V_ou_ W103
  replace N_ := Fr.snoc X103 N_ g_ou
  clear X101 e101
  refine oInc 391 X103 hx (hb hby d7_388) (Ls40 ob ou sc sA zA su nu fu nf ff 1 (FP.l2d v1) (FP.l2d (own_max (y1 + 0) (y2 + (0 + v0)))) (FP.l2d (own_max y0 (y1 + (0 + v0)))) 2) rfl rfl rfl ?_
  refine oGo 358 X103 hx (hb hby d7_391) (by decide) (by decide) ?_
  refine oIl 360 X103 hx (hb hby d7_358) rfl rfl ?_
  refine oIl 362 X103 hx (hb hby d7_360) rfl rfl ?_
  refine oAl 364 X103 hx (hb hby d7_362) rfl rfl ?_
  refine oIl 366 X103 hx (hb hby d7_364) rfl rfl ?_
  refine oIa 367 X103 hx hZ e103 (V_zA.keep K_ nin_zA) (.int 1) (hb hby d7_366) (by decide) rfl rfl ?_
  refine oAdd 368 X103 hx (hb hby d7_367) 2 rfl rfl ?_
  refine oCy 394 X103 hx (hb hby d7_368) (flt (by decide)).2.1 (by decide) (by decide) ?_
  refine oIl 396 X103 hx (hb hby d7_394) rfl rfl ?_
  refine oAl 398 X103 hx (hb hby d7_396) rfl rfl ?_
  refine oIl 400 X103 hx (hb hby d7_398) rfl rfl ?_
  refine oIa 401 X103 hx hZ e103 (V_zA.keep K_ nin_zA) (.int 1) (hb hby d7_400) (by decide) rfl rfl ?_
  refine oAdd 402 X103 hx (hb hby d7_401) 2 rfl rfl ?_
  refine oIst 404 X103 hx (hb hby d7_402) (Ls40 ob ou sc sA zA su nu fu nf ff 2 (FP.l2d v1) (FP.l2d (own_max (y1 + 0) (y2 + (0 + v0)))) (FP.l2d (own_max y0 (y1 + (0 + v0)))) 2) rfl rfl ?_
  refine oGo 297 X103 hx (hb hby d7_404) (by decide) (by decide) ?_
  refine oIl 299 X103 hx (hb hby d7_297) rfl rfl ?_
  refine oAlN 300 X103 hx (hb hby d7_299) rfl rfl ?_
  refine oF 303 X103 hx hZ hown (host := "") (Or.inl (hw _ (own_m 10 rfl))) Via.refl e103 (F_n_ob.keep K_ nin_ob) (hb hby d7_300) rfl fun T106 X106 e106 => ?_
  clear X103 e103
  refine oCy 407 X106 hx (hb hby d7_303) (flt (by decide)).2.1 (by decide) (by decide) ?_
  have hO0 : ((own_max (y1 + 0) ((y2 + ((0 + v0) + v1)) - v0)) - (own_max y0 ((y1 + ((0 + v0) + v1)) - v0))) = (own_o0 pp y0 y1 y2 v0 v1) := (own_a0 y0 y1 y2 v0 v1).trans (by rw [own_o0, if_pos ha])
  have hO1 : ((own_max (y1 + 0) (y2 + (0 + v0))) - (own_max y0 (y1 + (0 + v0)))) = (own_o1 pp y0 y1 y2 v0 v1) := (own_a1 y0 y1 y2 v0).trans (by rw [own_o1, if_pos ha])
  have Vo' : Arv Z h103 ou kou .double (2 : Int32) [(.double (FP.l2d (own_o0 pp y0 y1 y2 v0 v1))), (.double (FP.l2d (own_o1 pp y0 y1 y2 v0 v1)))] (.double (FP.l2d 0)) := by rw [← hO0, ← hO1]; exact V_ou
  exact own_retV X106 hx hlk hret (hb hby d7_407) (by decide) (by decide) (by rw [e106]; exact ⟨(FP.l2d (0 + v0)), (FP.l2d ((0 + v0) + v1)), 18442240474082181120, (FP.l2d (y1 + 0)), (FP.l2d (own_max (y1 + 0) (y2 + (0 + v0)))), (FP.l2d y0), (FP.l2d (own_max y0 (y1 + (0 + v0)))), (FP.l2d (own_max (own_max y0 (y1 + (0 + v0))) (y2 + ((0 + v0) + v1)))), (FP.l2d (own_max (own_max (y2 + ((0 + v0) + v1)) (y1 + (0 + v0))) (y0 + 0))), (FP.l2d (own_max (y2 + ((0 + v0) + v1)) (y1 + (0 + v0)))), (FP.l2d (y2 + ((0 + v0) + v1))), 18442240474082181120, (FP.l2d (own_max (y1 + ((0 + v0) + v1)) (y0 + (0 + v0)))), (FP.l2d (y1 + ((0 + v0) + v1))), 18442240474082181120, 18442240474082181120, rfl, N_, K_, V_su, V_nu, V_fu, V_nf, V_ff, Vo'⟩)
set_option maxRecDepth 65536 in
set_option maxHeartbeats 40000000 in
theorem own_ans01t (l : Launch) (Z : State) (a0 : Array Value) (hw : ∀ d ∈ tables_1, d.before a0 Z = true) {p : Program} {e : Env} {s : State} {m : MethodId} {below : List Frame} {meth : Method} {c : Code} (hx : p.tables.exec = Jvm.exec) (hby : c.code = prog_42_method_5_code) (hml : c.maxLocals = 18) (hlk : meth.locks = false) (hret : meth.sig.returnType = none) (ob : Addr) (ou : Addr) (sc : Addr) (pp : Int32) (qq : Int32) (z0 : Int32) (z1 : Int32) (ma : Addr) (sA : Addr) (zA : Addr) (oA : Addr) (sa : Addr) (su : Addr) (nu : Addr) (fu : Addr) (nf : Addr) (ff : Addr) (ksA : ClassId) (kzA : ClassId) (koA : ClassId) (ksa : ClassId) (ksu : ClassId) (knu : ClassId) (kfu : ClassId) (knf : ClassId) (kff : ClassId) (kou : ClassId) (y0 : Int64) (y1 : Int64) (y2 : Int64) (v0 : Int64) (v1 : Int64) (su1 : UInt64) (su2 : UInt64) (nu0 : UInt64) (nu1 : UInt64) (nu2 : UInt64) (fu0 : UInt64) (fu1 : UInt64) (fu2 : UInt64) (nf0 : UInt64) (nf1 : UInt64) (nf2 : UInt64) (nf3 : UInt64) (ff0 : UInt64) (ff1 : UInt64) (ff2 : UInt64) (ff3 : UInt64) (ou0 : UInt64) (ou1 : UInt64) (h0 : Heap) (n0 : Nat) (hnd : ([ob, ma, sA, zA, oA, sa, sc, su, nu, fu, nf, ff, ou] : List Addr).Nodup) (b0 : own_bd 128 y0) (b1 : own_bd 128 y1) (b2 : own_bd 128 y2) (bv0 : own_bd 63 v0) (bv1 : own_bd 63 v1) (hcase : own_case pp qq z0 z1 v0 v1) {Tj : State} {hj : Heap} {locsj : List Loc}
    (hZ : Z.Warmed39 s.vm) (hown : s.vm.findClass "com/example/firebreak/firebreak/strategies/CountFactor" = some m.cls) (Xj : Stand p l e ({ frames := 1, cells := 0, slots := 0, locals := 40 } : Room) s m #[(.ref ob), (.ref ou), (.ref sc)] below meth c Tj locsj 0 0) (ej : Tj.heap = hj)
    (F_messages_ob : Fld Z h0 ob "com/example/firebreak/firebreak/strategies/CountFactor" "messages" "Lcom/example/firebreak/firebreak/strategies/CountFactor$Messages;" (.ref ma)) (F_n_ob : Fld Z h0 ob "com/example/firebreak/firebreak/strategies/CountFactor" "n" "I" (.int 2)) (F_score_ob : Fld Z h0 ob "com/example/firebreak/firebreak/strategies/CountFactor" "score" "[D" (.ref sa)) (V_sa : Arv Z h0 sa ksa .double (3 : Int32) [(.double (FP.l2d y0)), (.double (FP.l2d y1)), (.double (FP.l2d y2))] (.double (FP.l2d 0))) (F_sorted_ma : Fld Z h0 ma "com/example/firebreak/firebreak/strategies/CountFactor$Messages" "sorted" "[D" (.ref sA)) (F_tieSize_ma : Fld Z h0 ma "com/example/firebreak/firebreak/strategies/CountFactor$Messages" "tieSize" "[I" (.ref zA)) (F_order_ma : Fld Z h0 ma "com/example/firebreak/firebreak/strategies/CountFactor$Messages" "order" "[I" (.ref oA)) (V_sA : Arv Z h0 sA ksA .double (2 : Int32) [(.double (FP.l2d v0)), (.double (FP.l2d v1))] (.double (FP.l2d 0))) (V_zA : Arv Z h0 zA kzA .int (2 : Int32) [(.int 2), (.int 0)] (.int 0)) (V_oA : Arv Z h0 oA koA .int (2 : Int32) [(.int 0), (.int 1)] (.int 0)) (F_sums_sc : Fld Z h0 sc "com/example/firebreak/firebreak/strategies/CountFactor$Scratch" "sums" "[D" (.ref su)) (F_onUpTo_sc : Fld Z h0 sc "com/example/firebreak/firebreak/strategies/CountFactor$Scratch" "onUpTo" "[D" (.ref nu)) (F_offUpTo_sc : Fld Z h0 sc "com/example/firebreak/firebreak/strategies/CountFactor$Scratch" "offUpTo" "[D" (.ref fu)) (F_onFrom_sc : Fld Z h0 sc "com/example/firebreak/firebreak/strategies/CountFactor$Scratch" "onFrom" "[D" (.ref nf)) (F_offFrom_sc : Fld Z h0 sc "com/example/firebreak/firebreak/strategies/CountFactor$Scratch" "offFrom" "[D" (.ref ff)) (V_ou : Arv Z hj ou kou .double (2 : Int32) [(.double ou0), (.double ou1)] (.double (FP.l2d 0))) (g_su : n0 ≤ su) (g_nu : n0 ≤ nu) (g_fu : n0 ≤ fu) (g_nf : n0 ≤ nf) (g_ff : n0 ≤ ff) (g_ou : n0 ≤ ou) (Zle : n0 ≤ h0.size) (N_ : Fr n0 locsj) (K_ : Keep h0 hj [su, nu, fu, nf, ff, ou]) (nin_ob : ob ∉ [su, nu, fu, nf, ff, ou]) (nin_sa : sa ∉ [su, nu, fu, nf, ff, ou]) (nin_ma : ma ∉ [su, nu, fu, nf, ff, ou]) (nin_sA : sA ∉ [su, nu, fu, nf, ff, ou]) (nin_zA : zA ∉ [su, nu, fu, nf, ff, ou]) (nin_oA : oA ∉ [su, nu, fu, nf, ff, ou]) (nin_sc : sc ∉ [su, nu, fu, nf, ff, ou]) (V_su : Arv Z hj su ksu .double (3 : Int32) [(.double (FP.l2d 0)), (.double (FP.l2d (0 + v0))), (.double (FP.l2d ((0 + v0) + v1)))] (.double (FP.l2d 0))) (V_nu : Arv Z hj nu knu .double (3 : Int32) [(.double 18442240474082181120), (.double (FP.l2d (y1 + 0))), (.double (FP.l2d (own_max (y1 + 0) (y2 + (0 + v0)))))] (.double (FP.l2d 0))) (V_fu : Arv Z hj fu kfu .double (3 : Int32) [(.double (FP.l2d y0)), (.double (FP.l2d (own_max y0 (y1 + (0 + v0))))), (.double (FP.l2d (own_max (own_max y0 (y1 + (0 + v0))) (y2 + ((0 + v0) + v1)))))] (.double (FP.l2d 0))) (V_nf : Arv Z hj nf knf .double (4 : Int32) [(.double (FP.l2d (own_max (own_max (y2 + ((0 + v0) + v1)) (y1 + (0 + v0))) (y0 + 0)))), (.double (FP.l2d (own_max (y2 + ((0 + v0) + v1)) (y1 + (0 + v0))))), (.double (FP.l2d (y2 + ((0 + v0) + v1)))), (.double 18442240474082181120)] (.double (FP.l2d 0))) (V_ff : Arv Z hj ff kff .double (4 : Int32) [(.double (FP.l2d (own_max (y1 + ((0 + v0) + v1)) (y0 + (0 + v0))))), (.double (FP.l2d (y1 + ((0 + v0) + v1)))), (.double 18442240474082181120), (.double 18442240474082181120)] (.double (FP.l2d 0))) (ha : pp = 0) (hv : v0 = v1) : own_Goes p.tables e below s (Q7 Z ob ou sc pp qq z0 z1 ma sA zA oA sa su nu fu nf ff ksA kzA koA ksa ksu knu kfu knf kff kou y0 y1 y2 v0 v1 su1 su2 nu0 nu1 nu2 fu0 fu1 fu2 nf0 nf1 nf2 nf3 ff0 ff1 ff2 ff3 ou0 ou1 h0 n0) ({ frames := 1, cells := 0, slots := 0, locals := 40 } : Room).cells ({ frames := 1, cells := 0, slots := 0, locals := 40 } : Room).slots Tj (mkF m 294 (Ls36 ob ou sc sA zA su nu fu nf ff (-1)) []) := by
  refine oIc 295 Xj hx (hb hby d7_294) 0 rfl rfl ?_
  refine oIst 297 Xj hx (hb hby d7_295) (Ls36 ob ou sc sA zA su nu fu nf ff 0) rfl rfl ?_
  refine oIl 299 Xj hx (hb hby d7_297) rfl rfl ?_
  refine oAlN 300 Xj hx (hb hby d7_299) rfl rfl ?_
  refine oF 303 Xj hx hZ hown (host := "") (Or.inl (hw _ (own_m 10 rfl))) Via.refl ej (F_n_ob.keep K_ nin_ob) (hb hby d7_300) rfl fun T107 X107 e107 => ?_
  refine oCn 306 X107 hx (hb hby d7_303) (tlt (by decide)).2.1 rfl ?_
  refine oAlN 307 X107 hx (hb hby d7_306) rfl rfl ?_
  refine oIl 309 X107 hx (hb hby d7_307) rfl rfl ?_
  refine oDa 310 X107 hx hZ e107 (V_sA.keep K_ nin_sA) (.double (FP.l2d v0)) (hb hby d7_309) (by decide) rfl rfl ?_
  refine oDst 312 X107 hx (hb hby d7_310) (Ls37 ob ou sc sA zA su nu fu nf ff 0 (FP.l2d v0)) rfl rfl ?_
  refine oAl 314 X107 hx (hb hby d7_312) rfl rfl ?_
  refine oIl 316 X107 hx (hb hby d7_314) rfl rfl ?_
  refine oIc 317 X107 hx (hb hby d7_316) 1 rfl rfl ?_
  refine oAdd 318 X107 hx (hb hby d7_317) 1 rfl rfl ?_
  refine oDa 319 X107 hx hZ e107 V_nu (.double (FP.l2d (y1 + 0))) (hb hby d7_318) (by decide) rfl rfl ?_
  refine oAl 321 X107 hx (hb hby d7_319) rfl rfl ?_
  refine oIl 323 X107 hx (hb hby d7_321) rfl rfl ?_
  refine oIc 324 X107 hx (hb hby d7_323) 2 rfl rfl ?_
  refine oAdd 325 X107 hx (hb hby d7_324) 2 rfl rfl ?_
  refine oDa 326 X107 hx hZ e107 V_nf (.double (FP.l2d (y2 + ((0 + v0) + v1)))) (hb hby d7_325) (by decide) rfl rfl ?_
  refine oDl 328 X107 hx (hb hby d7_326) rfl rfl ?_
  refine own_by (g' := (mkF m 329 (Ls37 ob ou sc sA zA su nu fu nf ff 0 (FP.l2d v0)) [(.double (FP.l2d ((y2 + ((0 + v0) + v1)) - v0))), (.double (FP.l2d (y1 + 0)))])) (fun t k => XS.dsubS X107.here hx rfl (hb hby d7_328) rfl (nn_w (dsub_w (own_b53 (own_badd b2 (own_badd (own_badd own_b0 bv0) bv1))) (own_b53 bv0))) (dsub_w (own_b53 (own_badd b2 (own_badd (own_badd own_b0 bv0) bv1))) (own_b53 bv0)) k) ?_
  obtain ⟨_, _, ⟨T111, L111, k111, n111⟩, -, X111, ⟨Lc111, hQ111, l111, y111, z111⟩, st111⟩ := Jvm.LawKit.callS X107 hx (y := (⟨"com/example/firebreak/firebreak/strategies/DoubleMax", "of", "(DD)D"⟩ : MethodName)) hown (mvT hZ (hw _ (own_m 96 rfl))) (mvT hZ (hw _ (own_m 97 rfl))) (mvT hZ (hw _ (own_m 98 rfl))) (mvT hZ (hw _ (own_m 99 rfl))) (by decide) (backOf (W := 0) (rm8f l Z a0 hw [] (y1 + 0) ((y2 + ((0 + v0) + v1)) - v0) hj n0 (Nat.le_trans Zle K_.1) ((own_b53 (own_badd b1 own_b0))) ((own_b53 (own_bsub (own_badd b2 (own_badd (own_badd own_b0 bv0) bv1)) bv0)))) hZ (hw _ (own_m 99 rfl)) (hw _ (own_m 98 rfl)) (by decide) (by decide)) (g := (mkF m 329 (Ls37 ob ou sc sA zA su nu fu nf ff 0 (FP.l2d v0)) [(.double (FP.l2d ((y2 + ((0 + v0) + v1)) - v0))), (.double (FP.l2d (y1 + 0)))])) rfl (by rw [hml]; rfl) (argsL := [(.double (FP.l2d (y1 + 0))), (.double (FP.l2d ((y2 + ((0 + v0) + v1)) - v0)))]) (rest := []) (lenOf pd_2 rfl) rfl (own_le rfl) (hb hby d7_329) (fun _ _ => ⟨rfl, e107, (by decide : 0 + 0 ≤ _), (by decide : 0 + 0 ≤ _)⟩)
  dsimp only [Pt.U, Pt.locs, Pt.cells, Pt.slots] at X111 l111 y111 z111 st111 hQ111
  subst l111 y111 z111
  obtain ⟨rfl, Nq111, e111⟩ := hQ111
  replace N_ := Fr.app N_ Nq111
  clear Nq111
  refine own_by (T' := T111) (g' := (mkF m 332 (Ls37 ob ou sc sA zA su nu fu nf ff 0 (FP.l2d v0)) [(.double (FP.l2d (own_max (y1 + 0) ((y2 + ((0 + v0) + v1)) - v0))))])) (fun t k => st111 _ k) ?_
  clear st111 X107 e107
  refine oDst 334 X111 hx (hb hby d7_332) (Ls38 ob ou sc sA zA su nu fu nf ff 0 (FP.l2d v0) (FP.l2d (own_max (y1 + 0) ((y2 + ((0 + v0) + v1)) - v0)))) rfl rfl ?_
  refine oAl 336 X111 hx (hb hby d7_334) rfl rfl ?_
  refine oIl 338 X111 hx (hb hby d7_336) rfl rfl ?_
  refine oDa 339 X111 hx hZ e111 V_fu (.double (FP.l2d y0)) (hb hby d7_338) (by decide) rfl rfl ?_
  refine oAl 341 X111 hx (hb hby d7_339) rfl rfl ?_
  refine oIl 343 X111 hx (hb hby d7_341) rfl rfl ?_
  refine oIc 344 X111 hx (hb hby d7_343) 1 rfl rfl ?_
  refine oAdd 345 X111 hx (hb hby d7_344) 1 rfl rfl ?_
  refine oDa 346 X111 hx hZ e111 V_ff (.double (FP.l2d (y1 + ((0 + v0) + v1)))) (hb hby d7_345) (by decide) rfl rfl ?_
  refine oDl 348 X111 hx (hb hby d7_346) rfl rfl ?_
  refine own_by (g' := (mkF m 349 (Ls38 ob ou sc sA zA su nu fu nf ff 0 (FP.l2d v0) (FP.l2d (own_max (y1 + 0) ((y2 + ((0 + v0) + v1)) - v0)))) [(.double (FP.l2d ((y1 + ((0 + v0) + v1)) - v0))), (.double (FP.l2d y0))])) (fun t k => XS.dsubS X111.here hx rfl (hb hby d7_348) rfl (nn_w (dsub_w (own_b53 (own_badd b1 (own_badd (own_badd own_b0 bv0) bv1))) (own_b53 bv0))) (dsub_w (own_b53 (own_badd b1 (own_badd (own_badd own_b0 bv0) bv1))) (own_b53 bv0)) k) ?_
  obtain ⟨_, _, ⟨T114, L114, k114, n114⟩, -, X114, ⟨Lc114, hQ114, l114, y114, z114⟩, st114⟩ := Jvm.LawKit.callS X111 hx (y := (⟨"com/example/firebreak/firebreak/strategies/DoubleMax", "of", "(DD)D"⟩ : MethodName)) hown (mvT hZ (hw _ (own_m 96 rfl))) (mvT hZ (hw _ (own_m 97 rfl))) (mvT hZ (hw _ (own_m 98 rfl))) (mvT hZ (hw _ (own_m 99 rfl))) (by decide) (backOf (W := 0) (rm8f l Z a0 hw [] y0 ((y1 + ((0 + v0) + v1)) - v0) hj n0 (Nat.le_trans Zle K_.1) ((own_b53 b0)) ((own_b53 (own_bsub (own_badd b1 (own_badd (own_badd own_b0 bv0) bv1)) bv0)))) hZ (hw _ (own_m 99 rfl)) (hw _ (own_m 98 rfl)) (by decide) (by decide)) (g := (mkF m 349 (Ls38 ob ou sc sA zA su nu fu nf ff 0 (FP.l2d v0) (FP.l2d (own_max (y1 + 0) ((y2 + ((0 + v0) + v1)) - v0)))) [(.double (FP.l2d ((y1 + ((0 + v0) + v1)) - v0))), (.double (FP.l2d y0))])) rfl (by rw [hml]; rfl) (argsL := [(.double (FP.l2d y0)), (.double (FP.l2d ((y1 + ((0 + v0) + v1)) - v0)))]) (rest := []) (lenOf pd_2 rfl) rfl (own_le rfl) (hb hby d7_349) (fun _ _ => ⟨rfl, e111, (by decide : 0 + 0 ≤ _), (by decide : 0 + 0 ≤ _)⟩)
  dsimp only [Pt.U, Pt.locs, Pt.cells, Pt.slots] at X114 l114 y114 z114 st114 hQ114
  subst l114 y114 z114
  obtain ⟨rfl, Nq114, e114⟩ := hQ114
  replace N_ := Fr.app N_ Nq114
  clear Nq114
  refine own_by (T' := T114) (g' := (mkF m 352 (Ls38 ob ou sc sA zA su nu fu nf ff 0 (FP.l2d v0) (FP.l2d (own_max (y1 + 0) ((y2 + ((0 + v0) + v1)) - v0)))) [(.double (FP.l2d (own_max y0 ((y1 + ((0 + v0) + v1)) - v0))))])) (fun t k => st114 _ k) ?_
  clear st114 X111 e111
  refine oDst 354 X114 hx (hb hby d7_352) (Ls39 ob ou sc sA zA su nu fu nf ff 0 (FP.l2d v0) (FP.l2d (own_max (y1 + 0) ((y2 + ((0 + v0) + v1)) - v0))) (FP.l2d (own_max y0 ((y1 + ((0 + v0) + v1)) - v0)))) rfl rfl ?_
  refine oIl 356 X114 hx (hb hby d7_354) rfl rfl ?_
  refine oIst 358 X114 hx (hb hby d7_356) (Ls40 ob ou sc sA zA su nu fu nf ff 0 (FP.l2d v0) (FP.l2d (own_max (y1 + 0) ((y2 + ((0 + v0) + v1)) - v0))) (FP.l2d (own_max y0 ((y1 + ((0 + v0) + v1)) - v0))) 0) rfl rfl ?_
  refine oIl 360 X114 hx (hb hby d7_358) rfl rfl ?_
  refine oIl 362 X114 hx (hb hby d7_360) rfl rfl ?_
  refine oAl 364 X114 hx (hb hby d7_362) rfl rfl ?_
  refine oIl 366 X114 hx (hb hby d7_364) rfl rfl ?_
  refine oIa 367 X114 hx hZ e114 (V_zA.keep K_ nin_zA) (.int 2) (hb hby d7_366) (by decide) rfl rfl ?_
  refine oAdd 368 X114 hx (hb hby d7_367) 2 rfl rfl ?_
  refine oCn 371 X114 hx (hb hby d7_368) (tlt (by decide)).2.1 rfl ?_
  refine oAlN 372 X114 hx (hb hby d7_371) rfl rfl ?_
  refine oAlN 373 X114 hx (hb hby d7_372) rfl rfl ?_
  refine oF 376 X114 hx hZ hown (host := "") (Or.inl (hw _ (own_m 38 rfl))) Via.refl e114 (F_messages_ob.keep K_ nin_ob) (hb hby d7_373) rfl fun T116 X116 e116 => ?_
  clear X114 e114
  refine oR 379 X116 hx hZ hown (hw _ (own_m 79 rfl)) e116 (F_order_ma.keep K_ nin_ma) (hb hby d7_376) rfl ?_
  refine oIl 381 X116 hx (hb hby d7_379) rfl rfl ?_
  refine oIa 382 X116 hx hZ e116 (V_oA.keep K_ nin_oA) (.int 0) (hb hby d7_381) (by decide) rfl rfl ?_
  refine oDl 384 X116 hx (hb hby d7_382) rfl rfl ?_
  refine oDl 386 X116 hx (hb hby d7_384) rfl rfl ?_
  refine own_by (g' := (mkF m 387 (Ls40 ob ou sc sA zA su nu fu nf ff 0 (FP.l2d v0) (FP.l2d (own_max (y1 + 0) ((y2 + ((0 + v0) + v1)) - v0))) (FP.l2d (own_max y0 ((y1 + ((0 + v0) + v1)) - v0))) 0) [(.double (FP.l2d ((own_max (y1 + 0) ((y2 + ((0 + v0) + v1)) - v0)) - (own_max y0 ((y1 + ((0 + v0) + v1)) - v0))))), (.int 0), (.ref ou)])) (fun t k => XS.dsubS X116.here hx rfl (hb hby d7_386) rfl (nn_w (dsub_w (own_b53 (own_bmax (own_badd b1 own_b0) (own_bsub (own_badd b2 (own_badd (own_badd own_b0 bv0) bv1)) bv0))) (own_b53 (own_bmax b0 (own_bsub (own_badd b1 (own_badd (own_badd own_b0 bv0) bv1)) bv0))))) (dsub_w (own_b53 (own_bmax (own_badd b1 own_b0) (own_bsub (own_badd b2 (own_badd (own_badd own_b0 bv0) bv1)) bv0))) (own_b53 (own_bmax b0 (own_bsub (own_badd b1 (own_badd (own_badd own_b0 bv0) bv1)) bv0)))) k) ?_
  refine oDs 388 X116 hx hZ e116 V_ou 0 [(.double (FP.l2d ((own_max (y1 + 0) ((y2 + ((0 + v0) + v1)) - v0)) - (own_max y0 ((y1 + ((0 + v0) + v1)) - v0))))), (.double ou1)] (hb hby d7_387) (by decide) rfl (Nat.le_of_ble_eq_true rfl) rfl rfl fun T118 h118 X118 e118 W118 V_ou_ => ?_
  replace K_ := kW K_ W118 5 rfl
  replace V_su := V_su.other W118 (nd hnd 7 12)
  replace V_nu := V_nu.other W118 (nd hnd 8 12)
  replace V_fu := V_fu.other W118 (nd hnd 9 12)
  replace V_nf := V_nf.other W118 (nd hnd 10 12)
  replace V_ff := V_ff.other W118 (nd hnd 11 12)
  replace V_ou := V_ou_
  clear V_ou_ W118
  replace N_ := Fr.snoc X118 N_ g_ou
  clear X116 e116
  refine oInc 391 X118 hx (hb hby d7_388) (Ls40 ob ou sc sA zA su nu fu nf ff 0 (FP.l2d v0) (FP.l2d (own_max (y1 + 0) ((y2 + ((0 + v0) + v1)) - v0))) (FP.l2d (own_max y0 ((y1 + ((0 + v0) + v1)) - v0))) 1) rfl rfl rfl ?_
  refine oGo 358 X118 hx (hb hby d7_391) (by decide) (by decide) ?_
  refine oIl 360 X118 hx (hb hby d7_358) rfl rfl ?_
  refine oIl 362 X118 hx (hb hby d7_360) rfl rfl ?_
  refine oAl 364 X118 hx (hb hby d7_362) rfl rfl ?_
  refine oIl 366 X118 hx (hb hby d7_364) rfl rfl ?_
  refine oIa 367 X118 hx hZ e118 (V_zA.keep K_ nin_zA) (.int 2) (hb hby d7_366) (by decide) rfl rfl ?_
  refine oAdd 368 X118 hx (hb hby d7_367) 2 rfl rfl ?_
  refine oCn 371 X118 hx (hb hby d7_368) (tlt (by decide)).2.1 rfl ?_
  refine oAlN 372 X118 hx (hb hby d7_371) rfl rfl ?_
  refine oAlN 373 X118 hx (hb hby d7_372) rfl rfl ?_
  refine oF 376 X118 hx hZ hown (host := "") (Or.inl (hw _ (own_m 38 rfl))) Via.refl e118 (F_messages_ob.keep K_ nin_ob) (hb hby d7_373) rfl fun T120 X120 e120 => ?_
  clear X118 e118
  refine oR 379 X120 hx hZ hown (hw _ (own_m 79 rfl)) e120 (F_order_ma.keep K_ nin_ma) (hb hby d7_376) rfl ?_
  refine oIl 381 X120 hx (hb hby d7_379) rfl rfl ?_
  refine oIa 382 X120 hx hZ e120 (V_oA.keep K_ nin_oA) (.int 1) (hb hby d7_381) (by decide) rfl rfl ?_
  refine oDl 384 X120 hx (hb hby d7_382) rfl rfl ?_
  refine oDl 386 X120 hx (hb hby d7_384) rfl rfl ?_
  refine own_by (g' := (mkF m 387 (Ls40 ob ou sc sA zA su nu fu nf ff 0 (FP.l2d v0) (FP.l2d (own_max (y1 + 0) ((y2 + ((0 + v0) + v1)) - v0))) (FP.l2d (own_max y0 ((y1 + ((0 + v0) + v1)) - v0))) 1) [(.double (FP.l2d ((own_max (y1 + 0) ((y2 + ((0 + v0) + v1)) - v0)) - (own_max y0 ((y1 + ((0 + v0) + v1)) - v0))))), (.int 1), (.ref ou)])) (fun t k => XS.dsubS X120.here hx rfl (hb hby d7_386) rfl (nn_w (dsub_w (own_b53 (own_bmax (own_badd b1 own_b0) (own_bsub (own_badd b2 (own_badd (own_badd own_b0 bv0) bv1)) bv0))) (own_b53 (own_bmax b0 (own_bsub (own_badd b1 (own_badd (own_badd own_b0 bv0) bv1)) bv0))))) (dsub_w (own_b53 (own_bmax (own_badd b1 own_b0) (own_bsub (own_badd b2 (own_badd (own_badd own_b0 bv0) bv1)) bv0))) (own_b53 (own_bmax b0 (own_bsub (own_badd b1 (own_badd (own_badd own_b0 bv0) bv1)) bv0)))) k) ?_
  refine oDs 388 X120 hx hZ e120 V_ou 1 [(.double (FP.l2d ((own_max (y1 + 0) ((y2 + ((0 + v0) + v1)) - v0)) - (own_max y0 ((y1 + ((0 + v0) + v1)) - v0))))), (.double (FP.l2d ((own_max (y1 + 0) ((y2 + ((0 + v0) + v1)) - v0)) - (own_max y0 ((y1 + ((0 + v0) + v1)) - v0)))))] (hb hby d7_387) (by decide) rfl (Nat.le_of_ble_eq_true rfl) rfl rfl fun T122 h122 X122 e122 W122 V_ou_ => ?_
  replace K_ := kW K_ W122 5 rfl
  replace V_su := V_su.other W122 (nd hnd 7 12)
  replace V_nu := V_nu.other W122 (nd hnd 8 12)
  replace V_fu := V_fu.other W122 (nd hnd 9 12)
  replace V_nf := V_nf.other W122 (nd hnd 10 12)
  replace V_ff := V_ff.other W122 (nd hnd 11 12)
  replace V_ou := V_ou_
  clear V_ou_ W122
  replace N_ := Fr.snoc X122 N_ g_ou
  clear X120 e120
  refine oInc 391 X122 hx (hb hby d7_388) (Ls40 ob ou sc sA zA su nu fu nf ff 0 (FP.l2d v0) (FP.l2d (own_max (y1 + 0) ((y2 + ((0 + v0) + v1)) - v0))) (FP.l2d (own_max y0 ((y1 + ((0 + v0) + v1)) - v0))) 2) rfl rfl rfl ?_
  refine oGo 358 X122 hx (hb hby d7_391) (by decide) (by decide) ?_
  refine oIl 360 X122 hx (hb hby d7_358) rfl rfl ?_
  refine oIl 362 X122 hx (hb hby d7_360) rfl rfl ?_
  refine oAl 364 X122 hx (hb hby d7_362) rfl rfl ?_
  refine oIl 366 X122 hx (hb hby d7_364) rfl rfl ?_
  refine oIa 367 X122 hx hZ e122 (V_zA.keep K_ nin_zA) (.int 2) (hb hby d7_366) (by decide) rfl rfl ?_
  refine oAdd 368 X122 hx (hb hby d7_367) 2 rfl rfl ?_
  refine oCy 394 X122 hx (hb hby d7_368) (flt (by decide)).2.1 (by decide) (by decide) ?_
  refine oIl 396 X122 hx (hb hby d7_394) rfl rfl ?_
  refine oAl 398 X122 hx (hb hby d7_396) rfl rfl ?_
  refine oIl 400 X122 hx (hb hby d7_398) rfl rfl ?_
  refine oIa 401 X122 hx hZ e122 (V_zA.keep K_ nin_zA) (.int 2) (hb hby d7_400) (by decide) rfl rfl ?_
  refine oAdd 402 X122 hx (hb hby d7_401) 2 rfl rfl ?_
  refine oIst 404 X122 hx (hb hby d7_402) (Ls40 ob ou sc sA zA su nu fu nf ff 2 (FP.l2d v0) (FP.l2d (own_max (y1 + 0) ((y2 + ((0 + v0) + v1)) - v0))) (FP.l2d (own_max y0 ((y1 + ((0 + v0) + v1)) - v0))) 2) rfl rfl ?_
  refine oGo 297 X122 hx (hb hby d7_404) (by decide) (by decide) ?_
  refine oIl 299 X122 hx (hb hby d7_297) rfl rfl ?_
  refine oAlN 300 X122 hx (hb hby d7_299) rfl rfl ?_
  refine oF 303 X122 hx hZ hown (host := "") (Or.inl (hw _ (own_m 10 rfl))) Via.refl e122 (F_n_ob.keep K_ nin_ob) (hb hby d7_300) rfl fun T125 X125 e125 => ?_
  clear X122 e122
  refine oCy 407 X125 hx (hb hby d7_303) (flt (by decide)).2.1 (by decide) (by decide) ?_
  have hO0 : ((own_max (y1 + 0) ((y2 + ((0 + v0) + v1)) - v0)) - (own_max y0 ((y1 + ((0 + v0) + v1)) - v0))) = (own_o0 pp y0 y1 y2 v0 v1) := (own_a0 y0 y1 y2 v0 v1).trans (by rw [own_o0, if_pos ha])
  have hO1 : ((own_max (y1 + 0) ((y2 + ((0 + v0) + v1)) - v0)) - (own_max y0 ((y1 + ((0 + v0) + v1)) - v0))) = (own_o1 pp y0 y1 y2 v0 v1) := ((own_a0 y0 y1 y2 v0 v1).trans (congrArg (own_ref y0 y1 y2) hv.symm)).trans (by rw [own_o1, if_pos ha])
  have Vo' : Arv Z h122 ou kou .double (2 : Int32) [(.double (FP.l2d (own_o0 pp y0 y1 y2 v0 v1))), (.double (FP.l2d (own_o1 pp y0 y1 y2 v0 v1)))] (.double (FP.l2d 0)) := by rw [← hO0, ← hO1]; exact V_ou
  exact own_retV X125 hx hlk hret (hb hby d7_407) (by decide) (by decide) (by rw [e125]; exact ⟨(FP.l2d (0 + v0)), (FP.l2d ((0 + v0) + v1)), 18442240474082181120, (FP.l2d (y1 + 0)), (FP.l2d (own_max (y1 + 0) (y2 + (0 + v0)))), (FP.l2d y0), (FP.l2d (own_max y0 (y1 + (0 + v0)))), (FP.l2d (own_max (own_max y0 (y1 + (0 + v0))) (y2 + ((0 + v0) + v1)))), (FP.l2d (own_max (own_max (y2 + ((0 + v0) + v1)) (y1 + (0 + v0))) (y0 + 0))), (FP.l2d (own_max (y2 + ((0 + v0) + v1)) (y1 + (0 + v0)))), (FP.l2d (y2 + ((0 + v0) + v1))), 18442240474082181120, (FP.l2d (own_max (y1 + ((0 + v0) + v1)) (y0 + (0 + v0)))), (FP.l2d (y1 + ((0 + v0) + v1))), 18442240474082181120, 18442240474082181120, rfl, N_, K_, V_su, V_nu, V_fu, V_nf, V_ff, Vo'⟩)
set_option maxRecDepth 65536 in
set_option maxHeartbeats 40000000 in
theorem own_ans10n (l : Launch) (Z : State) (a0 : Array Value) (hw : ∀ d ∈ tables_1, d.before a0 Z = true) {p : Program} {e : Env} {s : State} {m : MethodId} {below : List Frame} {meth : Method} {c : Code} (hx : p.tables.exec = Jvm.exec) (hby : c.code = prog_42_method_5_code) (hml : c.maxLocals = 18) (hlk : meth.locks = false) (hret : meth.sig.returnType = none) (ob : Addr) (ou : Addr) (sc : Addr) (pp : Int32) (qq : Int32) (z0 : Int32) (z1 : Int32) (ma : Addr) (sA : Addr) (zA : Addr) (oA : Addr) (sa : Addr) (su : Addr) (nu : Addr) (fu : Addr) (nf : Addr) (ff : Addr) (ksA : ClassId) (kzA : ClassId) (koA : ClassId) (ksa : ClassId) (ksu : ClassId) (knu : ClassId) (kfu : ClassId) (knf : ClassId) (kff : ClassId) (kou : ClassId) (y0 : Int64) (y1 : Int64) (y2 : Int64) (v0 : Int64) (v1 : Int64) (su1 : UInt64) (su2 : UInt64) (nu0 : UInt64) (nu1 : UInt64) (nu2 : UInt64) (fu0 : UInt64) (fu1 : UInt64) (fu2 : UInt64) (nf0 : UInt64) (nf1 : UInt64) (nf2 : UInt64) (nf3 : UInt64) (ff0 : UInt64) (ff1 : UInt64) (ff2 : UInt64) (ff3 : UInt64) (ou0 : UInt64) (ou1 : UInt64) (h0 : Heap) (n0 : Nat) (hnd : ([ob, ma, sA, zA, oA, sa, sc, su, nu, fu, nf, ff, ou] : List Addr).Nodup) (b0 : own_bd 128 y0) (b1 : own_bd 128 y1) (b2 : own_bd 128 y2) (bv0 : own_bd 63 v0) (bv1 : own_bd 63 v1) (hcase : own_case pp qq z0 z1 v0 v1) {Tj : State} {hj : Heap} {locsj : List Loc}
    (hZ : Z.Warmed39 s.vm) (hown : s.vm.findClass "com/example/firebreak/firebreak/strategies/CountFactor" = some m.cls) (Xj : Stand p l e ({ frames := 1, cells := 0, slots := 0, locals := 40 } : Room) s m #[(.ref ob), (.ref ou), (.ref sc)] below meth c Tj locsj 0 0) (ej : Tj.heap = hj)
    (F_messages_ob : Fld Z h0 ob "com/example/firebreak/firebreak/strategies/CountFactor" "messages" "Lcom/example/firebreak/firebreak/strategies/CountFactor$Messages;" (.ref ma)) (F_n_ob : Fld Z h0 ob "com/example/firebreak/firebreak/strategies/CountFactor" "n" "I" (.int 2)) (F_score_ob : Fld Z h0 ob "com/example/firebreak/firebreak/strategies/CountFactor" "score" "[D" (.ref sa)) (V_sa : Arv Z h0 sa ksa .double (3 : Int32) [(.double (FP.l2d y0)), (.double (FP.l2d y1)), (.double (FP.l2d y2))] (.double (FP.l2d 0))) (F_sorted_ma : Fld Z h0 ma "com/example/firebreak/firebreak/strategies/CountFactor$Messages" "sorted" "[D" (.ref sA)) (F_tieSize_ma : Fld Z h0 ma "com/example/firebreak/firebreak/strategies/CountFactor$Messages" "tieSize" "[I" (.ref zA)) (F_order_ma : Fld Z h0 ma "com/example/firebreak/firebreak/strategies/CountFactor$Messages" "order" "[I" (.ref oA)) (V_sA : Arv Z h0 sA ksA .double (2 : Int32) [(.double (FP.l2d v0)), (.double (FP.l2d v1))] (.double (FP.l2d 0))) (V_zA : Arv Z h0 zA kzA .int (2 : Int32) [(.int 1), (.int 1)] (.int 0)) (V_oA : Arv Z h0 oA koA .int (2 : Int32) [(.int 1), (.int 0)] (.int 0)) (F_sums_sc : Fld Z h0 sc "com/example/firebreak/firebreak/strategies/CountFactor$Scratch" "sums" "[D" (.ref su)) (F_onUpTo_sc : Fld Z h0 sc "com/example/firebreak/firebreak/strategies/CountFactor$Scratch" "onUpTo" "[D" (.ref nu)) (F_offUpTo_sc : Fld Z h0 sc "com/example/firebreak/firebreak/strategies/CountFactor$Scratch" "offUpTo" "[D" (.ref fu)) (F_onFrom_sc : Fld Z h0 sc "com/example/firebreak/firebreak/strategies/CountFactor$Scratch" "onFrom" "[D" (.ref nf)) (F_offFrom_sc : Fld Z h0 sc "com/example/firebreak/firebreak/strategies/CountFactor$Scratch" "offFrom" "[D" (.ref ff)) (V_ou : Arv Z hj ou kou .double (2 : Int32) [(.double ou0), (.double ou1)] (.double (FP.l2d 0))) (g_su : n0 ≤ su) (g_nu : n0 ≤ nu) (g_fu : n0 ≤ fu) (g_nf : n0 ≤ nf) (g_ff : n0 ≤ ff) (g_ou : n0 ≤ ou) (Zle : n0 ≤ h0.size) (N_ : Fr n0 locsj) (K_ : Keep h0 hj [su, nu, fu, nf, ff, ou]) (nin_ob : ob ∉ [su, nu, fu, nf, ff, ou]) (nin_sa : sa ∉ [su, nu, fu, nf, ff, ou]) (nin_ma : ma ∉ [su, nu, fu, nf, ff, ou]) (nin_sA : sA ∉ [su, nu, fu, nf, ff, ou]) (nin_zA : zA ∉ [su, nu, fu, nf, ff, ou]) (nin_oA : oA ∉ [su, nu, fu, nf, ff, ou]) (nin_sc : sc ∉ [su, nu, fu, nf, ff, ou]) (V_su : Arv Z hj su ksu .double (3 : Int32) [(.double (FP.l2d 0)), (.double (FP.l2d (0 + v0))), (.double (FP.l2d ((0 + v0) + v1)))] (.double (FP.l2d 0))) (V_nu : Arv Z hj nu knu .double (3 : Int32) [(.double 18442240474082181120), (.double (FP.l2d (y1 + 0))), (.double (FP.l2d (own_max (y1 + 0) (y2 + (0 + v0)))))] (.double (FP.l2d 0))) (V_fu : Arv Z hj fu kfu .double (3 : Int32) [(.double (FP.l2d y0)), (.double (FP.l2d (own_max y0 (y1 + (0 + v0))))), (.double (FP.l2d (own_max (own_max y0 (y1 + (0 + v0))) (y2 + ((0 + v0) + v1)))))] (.double (FP.l2d 0))) (V_nf : Arv Z hj nf knf .double (4 : Int32) [(.double (FP.l2d (own_max (own_max (y2 + ((0 + v0) + v1)) (y1 + (0 + v0))) (y0 + 0)))), (.double (FP.l2d (own_max (y2 + ((0 + v0) + v1)) (y1 + (0 + v0))))), (.double (FP.l2d (y2 + ((0 + v0) + v1)))), (.double 18442240474082181120)] (.double (FP.l2d 0))) (V_ff : Arv Z hj ff kff .double (4 : Int32) [(.double (FP.l2d (own_max (y1 + ((0 + v0) + v1)) (y0 + (0 + v0))))), (.double (FP.l2d (y1 + ((0 + v0) + v1)))), (.double 18442240474082181120), (.double 18442240474082181120)] (.double (FP.l2d 0))) (ha : pp = 1) : own_Goes p.tables e below s (Q7 Z ob ou sc pp qq z0 z1 ma sA zA oA sa su nu fu nf ff ksA kzA koA ksa ksu knu kfu knf kff kou y0 y1 y2 v0 v1 su1 su2 nu0 nu1 nu2 fu0 fu1 fu2 nf0 nf1 nf2 nf3 ff0 ff1 ff2 ff3 ou0 ou1 h0 n0) ({ frames := 1, cells := 0, slots := 0, locals := 40 } : Room).cells ({ frames := 1, cells := 0, slots := 0, locals := 40 } : Room).slots Tj (mkF m 294 (Ls36 ob ou sc sA zA su nu fu nf ff (-1)) []) := by
  refine oIc 295 Xj hx (hb hby d7_294) 0 rfl rfl ?_
  refine oIst 297 Xj hx (hb hby d7_295) (Ls36 ob ou sc sA zA su nu fu nf ff 0) rfl rfl ?_
  refine oIl 299 Xj hx (hb hby d7_297) rfl rfl ?_
  refine oAlN 300 Xj hx (hb hby d7_299) rfl rfl ?_
  refine oF 303 Xj hx hZ hown (host := "") (Or.inl (hw _ (own_m 10 rfl))) Via.refl ej (F_n_ob.keep K_ nin_ob) (hb hby d7_300) rfl fun T126 X126 e126 => ?_
  refine oCn 306 X126 hx (hb hby d7_303) (tlt (by decide)).2.1 rfl ?_
  refine oAlN 307 X126 hx (hb hby d7_306) rfl rfl ?_
  refine oIl 309 X126 hx (hb hby d7_307) rfl rfl ?_
  refine oDa 310 X126 hx hZ e126 (V_sA.keep K_ nin_sA) (.double (FP.l2d v0)) (hb hby d7_309) (by decide) rfl rfl ?_
  refine oDst 312 X126 hx (hb hby d7_310) (Ls37 ob ou sc sA zA su nu fu nf ff 0 (FP.l2d v0)) rfl rfl ?_
  refine oAl 314 X126 hx (hb hby d7_312) rfl rfl ?_
  refine oIl 316 X126 hx (hb hby d7_314) rfl rfl ?_
  refine oIc 317 X126 hx (hb hby d7_316) 1 rfl rfl ?_
  refine oAdd 318 X126 hx (hb hby d7_317) 1 rfl rfl ?_
  refine oDa 319 X126 hx hZ e126 V_nu (.double (FP.l2d (y1 + 0))) (hb hby d7_318) (by decide) rfl rfl ?_
  refine oAl 321 X126 hx (hb hby d7_319) rfl rfl ?_
  refine oIl 323 X126 hx (hb hby d7_321) rfl rfl ?_
  refine oIc 324 X126 hx (hb hby d7_323) 2 rfl rfl ?_
  refine oAdd 325 X126 hx (hb hby d7_324) 2 rfl rfl ?_
  refine oDa 326 X126 hx hZ e126 V_nf (.double (FP.l2d (y2 + ((0 + v0) + v1)))) (hb hby d7_325) (by decide) rfl rfl ?_
  refine oDl 328 X126 hx (hb hby d7_326) rfl rfl ?_
  refine own_by (g' := (mkF m 329 (Ls37 ob ou sc sA zA su nu fu nf ff 0 (FP.l2d v0)) [(.double (FP.l2d ((y2 + ((0 + v0) + v1)) - v0))), (.double (FP.l2d (y1 + 0)))])) (fun t k => XS.dsubS X126.here hx rfl (hb hby d7_328) rfl (nn_w (dsub_w (own_b53 (own_badd b2 (own_badd (own_badd own_b0 bv0) bv1))) (own_b53 bv0))) (dsub_w (own_b53 (own_badd b2 (own_badd (own_badd own_b0 bv0) bv1))) (own_b53 bv0)) k) ?_
  obtain ⟨_, _, ⟨T130, L130, k130, n130⟩, -, X130, ⟨Lc130, hQ130, l130, y130, z130⟩, st130⟩ := Jvm.LawKit.callS X126 hx (y := (⟨"com/example/firebreak/firebreak/strategies/DoubleMax", "of", "(DD)D"⟩ : MethodName)) hown (mvT hZ (hw _ (own_m 96 rfl))) (mvT hZ (hw _ (own_m 97 rfl))) (mvT hZ (hw _ (own_m 98 rfl))) (mvT hZ (hw _ (own_m 99 rfl))) (by decide) (backOf (W := 0) (rm8f l Z a0 hw [] (y1 + 0) ((y2 + ((0 + v0) + v1)) - v0) hj n0 (Nat.le_trans Zle K_.1) ((own_b53 (own_badd b1 own_b0))) ((own_b53 (own_bsub (own_badd b2 (own_badd (own_badd own_b0 bv0) bv1)) bv0)))) hZ (hw _ (own_m 99 rfl)) (hw _ (own_m 98 rfl)) (by decide) (by decide)) (g := (mkF m 329 (Ls37 ob ou sc sA zA su nu fu nf ff 0 (FP.l2d v0)) [(.double (FP.l2d ((y2 + ((0 + v0) + v1)) - v0))), (.double (FP.l2d (y1 + 0)))])) rfl (by rw [hml]; rfl) (argsL := [(.double (FP.l2d (y1 + 0))), (.double (FP.l2d ((y2 + ((0 + v0) + v1)) - v0)))]) (rest := []) (lenOf pd_2 rfl) rfl (own_le rfl) (hb hby d7_329) (fun _ _ => ⟨rfl, e126, (by decide : 0 + 0 ≤ _), (by decide : 0 + 0 ≤ _)⟩)
  dsimp only [Pt.U, Pt.locs, Pt.cells, Pt.slots] at X130 l130 y130 z130 st130 hQ130
  subst l130 y130 z130
  obtain ⟨rfl, Nq130, e130⟩ := hQ130
  replace N_ := Fr.app N_ Nq130
  clear Nq130
  refine own_by (T' := T130) (g' := (mkF m 332 (Ls37 ob ou sc sA zA su nu fu nf ff 0 (FP.l2d v0)) [(.double (FP.l2d (own_max (y1 + 0) ((y2 + ((0 + v0) + v1)) - v0))))])) (fun t k => st130 _ k) ?_
  clear st130 X126 e126
  refine oDst 334 X130 hx (hb hby d7_332) (Ls38 ob ou sc sA zA su nu fu nf ff 0 (FP.l2d v0) (FP.l2d (own_max (y1 + 0) ((y2 + ((0 + v0) + v1)) - v0)))) rfl rfl ?_
  refine oAl 336 X130 hx (hb hby d7_334) rfl rfl ?_
  refine oIl 338 X130 hx (hb hby d7_336) rfl rfl ?_
  refine oDa 339 X130 hx hZ e130 V_fu (.double (FP.l2d y0)) (hb hby d7_338) (by decide) rfl rfl ?_
  refine oAl 341 X130 hx (hb hby d7_339) rfl rfl ?_
  refine oIl 343 X130 hx (hb hby d7_341) rfl rfl ?_
  refine oIc 344 X130 hx (hb hby d7_343) 1 rfl rfl ?_
  refine oAdd 345 X130 hx (hb hby d7_344) 1 rfl rfl ?_
  refine oDa 346 X130 hx hZ e130 V_ff (.double (FP.l2d (y1 + ((0 + v0) + v1)))) (hb hby d7_345) (by decide) rfl rfl ?_
  refine oDl 348 X130 hx (hb hby d7_346) rfl rfl ?_
  refine own_by (g' := (mkF m 349 (Ls38 ob ou sc sA zA su nu fu nf ff 0 (FP.l2d v0) (FP.l2d (own_max (y1 + 0) ((y2 + ((0 + v0) + v1)) - v0)))) [(.double (FP.l2d ((y1 + ((0 + v0) + v1)) - v0))), (.double (FP.l2d y0))])) (fun t k => XS.dsubS X130.here hx rfl (hb hby d7_348) rfl (nn_w (dsub_w (own_b53 (own_badd b1 (own_badd (own_badd own_b0 bv0) bv1))) (own_b53 bv0))) (dsub_w (own_b53 (own_badd b1 (own_badd (own_badd own_b0 bv0) bv1))) (own_b53 bv0)) k) ?_
  obtain ⟨_, _, ⟨T133, L133, k133, n133⟩, -, X133, ⟨Lc133, hQ133, l133, y133, z133⟩, st133⟩ := Jvm.LawKit.callS X130 hx (y := (⟨"com/example/firebreak/firebreak/strategies/DoubleMax", "of", "(DD)D"⟩ : MethodName)) hown (mvT hZ (hw _ (own_m 96 rfl))) (mvT hZ (hw _ (own_m 97 rfl))) (mvT hZ (hw _ (own_m 98 rfl))) (mvT hZ (hw _ (own_m 99 rfl))) (by decide) (backOf (W := 0) (rm8f l Z a0 hw [] y0 ((y1 + ((0 + v0) + v1)) - v0) hj n0 (Nat.le_trans Zle K_.1) ((own_b53 b0)) ((own_b53 (own_bsub (own_badd b1 (own_badd (own_badd own_b0 bv0) bv1)) bv0)))) hZ (hw _ (own_m 99 rfl)) (hw _ (own_m 98 rfl)) (by decide) (by decide)) (g := (mkF m 349 (Ls38 ob ou sc sA zA su nu fu nf ff 0 (FP.l2d v0) (FP.l2d (own_max (y1 + 0) ((y2 + ((0 + v0) + v1)) - v0)))) [(.double (FP.l2d ((y1 + ((0 + v0) + v1)) - v0))), (.double (FP.l2d y0))])) rfl (by rw [hml]; rfl) (argsL := [(.double (FP.l2d y0)), (.double (FP.l2d ((y1 + ((0 + v0) + v1)) - v0)))]) (rest := []) (lenOf pd_2 rfl) rfl (own_le rfl) (hb hby d7_349) (fun _ _ => ⟨rfl, e130, (by decide : 0 + 0 ≤ _), (by decide : 0 + 0 ≤ _)⟩)
  dsimp only [Pt.U, Pt.locs, Pt.cells, Pt.slots] at X133 l133 y133 z133 st133 hQ133
  subst l133 y133 z133
  obtain ⟨rfl, Nq133, e133⟩ := hQ133
  replace N_ := Fr.app N_ Nq133
  clear Nq133
  refine own_by (T' := T133) (g' := (mkF m 352 (Ls38 ob ou sc sA zA su nu fu nf ff 0 (FP.l2d v0) (FP.l2d (own_max (y1 + 0) ((y2 + ((0 + v0) + v1)) - v0)))) [(.double (FP.l2d (own_max y0 ((y1 + ((0 + v0) + v1)) - v0))))])) (fun t k => st133 _ k) ?_
  clear st133 X130 e130
  refine oDst 354 X133 hx (hb hby d7_352) (Ls39 ob ou sc sA zA su nu fu nf ff 0 (FP.l2d v0) (FP.l2d (own_max (y1 + 0) ((y2 + ((0 + v0) + v1)) - v0))) (FP.l2d (own_max y0 ((y1 + ((0 + v0) + v1)) - v0)))) rfl rfl ?_
  refine oIl 356 X133 hx (hb hby d7_354) rfl rfl ?_
  refine oIst 358 X133 hx (hb hby d7_356) (Ls40 ob ou sc sA zA su nu fu nf ff 0 (FP.l2d v0) (FP.l2d (own_max (y1 + 0) ((y2 + ((0 + v0) + v1)) - v0))) (FP.l2d (own_max y0 ((y1 + ((0 + v0) + v1)) - v0))) 0) rfl rfl ?_
  refine oIl 360 X133 hx (hb hby d7_358) rfl rfl ?_
  refine oIl 362 X133 hx (hb hby d7_360) rfl rfl ?_
  refine oAl 364 X133 hx (hb hby d7_362) rfl rfl ?_
  refine oIl 366 X133 hx (hb hby d7_364) rfl rfl ?_
  refine oIa 367 X133 hx hZ e133 (V_zA.keep K_ nin_zA) (.int 1) (hb hby d7_366) (by decide) rfl rfl ?_
  refine oAdd 368 X133 hx (hb hby d7_367) 1 rfl rfl ?_
  refine oCn 371 X133 hx (hb hby d7_368) (tlt (by decide)).2.1 rfl ?_
  refine oAlN 372 X133 hx (hb hby d7_371) rfl rfl ?_
  refine oAlN 373 X133 hx (hb hby d7_372) rfl rfl ?_
  refine oF 376 X133 hx hZ hown (host := "") (Or.inl (hw _ (own_m 38 rfl))) Via.refl e133 (F_messages_ob.keep K_ nin_ob) (hb hby d7_373) rfl fun T135 X135 e135 => ?_
  clear X133 e133
  refine oR 379 X135 hx hZ hown (hw _ (own_m 79 rfl)) e135 (F_order_ma.keep K_ nin_ma) (hb hby d7_376) rfl ?_
  refine oIl 381 X135 hx (hb hby d7_379) rfl rfl ?_
  refine oIa 382 X135 hx hZ e135 (V_oA.keep K_ nin_oA) (.int 1) (hb hby d7_381) (by decide) rfl rfl ?_
  refine oDl 384 X135 hx (hb hby d7_382) rfl rfl ?_
  refine oDl 386 X135 hx (hb hby d7_384) rfl rfl ?_
  refine own_by (g' := (mkF m 387 (Ls40 ob ou sc sA zA su nu fu nf ff 0 (FP.l2d v0) (FP.l2d (own_max (y1 + 0) ((y2 + ((0 + v0) + v1)) - v0))) (FP.l2d (own_max y0 ((y1 + ((0 + v0) + v1)) - v0))) 0) [(.double (FP.l2d ((own_max (y1 + 0) ((y2 + ((0 + v0) + v1)) - v0)) - (own_max y0 ((y1 + ((0 + v0) + v1)) - v0))))), (.int 1), (.ref ou)])) (fun t k => XS.dsubS X135.here hx rfl (hb hby d7_386) rfl (nn_w (dsub_w (own_b53 (own_bmax (own_badd b1 own_b0) (own_bsub (own_badd b2 (own_badd (own_badd own_b0 bv0) bv1)) bv0))) (own_b53 (own_bmax b0 (own_bsub (own_badd b1 (own_badd (own_badd own_b0 bv0) bv1)) bv0))))) (dsub_w (own_b53 (own_bmax (own_badd b1 own_b0) (own_bsub (own_badd b2 (own_badd (own_badd own_b0 bv0) bv1)) bv0))) (own_b53 (own_bmax b0 (own_bsub (own_badd b1 (own_badd (own_badd own_b0 bv0) bv1)) bv0)))) k) ?_
  refine oDs 388 X135 hx hZ e135 V_ou 1 [(.double ou0), (.double (FP.l2d ((own_max (y1 + 0) ((y2 + ((0 + v0) + v1)) - v0)) - (own_max y0 ((y1 + ((0 + v0) + v1)) - v0)))))] (hb hby d7_387) (by decide) rfl (Nat.le_of_ble_eq_true rfl) rfl rfl fun T137 h137 X137 e137 W137 V_ou_ => ?_
  replace K_ := kW K_ W137 5 rfl
  replace V_su := V_su.other W137 (nd hnd 7 12)
  replace V_nu := V_nu.other W137 (nd hnd 8 12)
  replace V_fu := V_fu.other W137 (nd hnd 9 12)
  replace V_nf := V_nf.other W137 (nd hnd 10 12)
  replace V_ff := V_ff.other W137 (nd hnd 11 12)
  replace V_ou := V_ou_
  clear V_ou_ W137
  replace N_ := Fr.snoc X137 N_ g_ou
  clear X135 e135
  refine oInc 391 X137 hx (hb hby d7_388) (Ls40 ob ou sc sA zA su nu fu nf ff 0 (FP.l2d v0) (FP.l2d (own_max (y1 + 0) ((y2 + ((0 + v0) + v1)) - v0))) (FP.l2d (own_max y0 ((y1 + ((0 + v0) + v1)) - v0))) 1) rfl rfl rfl ?_
  refine oGo 358 X137 hx (hb hby d7_391) (by decide) (by decide) ?_
  refine oIl 360 X137 hx (hb hby d7_358) rfl rfl ?_
  refine oIl 362 X137 hx (hb hby d7_360) rfl rfl ?_
  refine oAl 364 X137 hx (hb hby d7_362) rfl rfl ?_
  refine oIl 366 X137 hx (hb hby d7_364) rfl rfl ?_
  refine oIa 367 X137 hx hZ e137 (V_zA.keep K_ nin_zA) (.int 1) (hb hby d7_366) (by decide) rfl rfl ?_
  refine oAdd 368 X137 hx (hb hby d7_367) 1 rfl rfl ?_
  refine oCy 394 X137 hx (hb hby d7_368) (flt (by decide)).2.1 (by decide) (by decide) ?_
  refine oIl 396 X137 hx (hb hby d7_394) rfl rfl ?_
  refine oAl 398 X137 hx (hb hby d7_396) rfl rfl ?_
  refine oIl 400 X137 hx (hb hby d7_398) rfl rfl ?_
  refine oIa 401 X137 hx hZ e137 (V_zA.keep K_ nin_zA) (.int 1) (hb hby d7_400) (by decide) rfl rfl ?_
  refine oAdd 402 X137 hx (hb hby d7_401) 1 rfl rfl ?_
  refine oIst 404 X137 hx (hb hby d7_402) (Ls40 ob ou sc sA zA su nu fu nf ff 1 (FP.l2d v0) (FP.l2d (own_max (y1 + 0) ((y2 + ((0 + v0) + v1)) - v0))) (FP.l2d (own_max y0 ((y1 + ((0 + v0) + v1)) - v0))) 1) rfl rfl ?_
  refine oGo 297 X137 hx (hb hby d7_404) (by decide) (by decide) ?_
  refine oIl 299 X137 hx (hb hby d7_297) rfl rfl ?_
  refine oAlN 300 X137 hx (hb hby d7_299) rfl rfl ?_
  refine oF 303 X137 hx hZ hown (host := "") (Or.inl (hw _ (own_m 10 rfl))) Via.refl e137 (F_n_ob.keep K_ nin_ob) (hb hby d7_300) rfl fun T140 X140 e140 => ?_
  clear X137 e137
  refine oCn 306 X140 hx (hb hby d7_303) (tlt (by decide)).2.1 rfl ?_
  refine oAlN 307 X140 hx (hb hby d7_306) rfl rfl ?_
  refine oIl 309 X140 hx (hb hby d7_307) rfl rfl ?_
  refine oDa 310 X140 hx hZ e140 (V_sA.keep K_ nin_sA) (.double (FP.l2d v1)) (hb hby d7_309) (by decide) rfl rfl ?_
  refine oDst 312 X140 hx (hb hby d7_310) (Ls40 ob ou sc sA zA su nu fu nf ff 1 (FP.l2d v1) (FP.l2d (own_max (y1 + 0) ((y2 + ((0 + v0) + v1)) - v0))) (FP.l2d (own_max y0 ((y1 + ((0 + v0) + v1)) - v0))) 1) rfl rfl ?_
  refine oAl 314 X140 hx (hb hby d7_312) rfl rfl ?_
  refine oIl 316 X140 hx (hb hby d7_314) rfl rfl ?_
  refine oIc 317 X140 hx (hb hby d7_316) 1 rfl rfl ?_
  refine oAdd 318 X140 hx (hb hby d7_317) 2 rfl rfl ?_
  refine oDa 319 X140 hx hZ e140 V_nu (.double (FP.l2d (own_max (y1 + 0) (y2 + (0 + v0))))) (hb hby d7_318) (by decide) rfl rfl ?_
  refine oAl 321 X140 hx (hb hby d7_319) rfl rfl ?_
  refine oIl 323 X140 hx (hb hby d7_321) rfl rfl ?_
  refine oIc 324 X140 hx (hb hby d7_323) 2 rfl rfl ?_
  refine oAdd 325 X140 hx (hb hby d7_324) 3 rfl rfl ?_
  refine oDa 326 X140 hx hZ e140 V_nf (.double 18442240474082181120) (hb hby d7_325) (by decide) rfl rfl ?_
  refine oDl 328 X140 hx (hb hby d7_326) rfl rfl ?_
  refine own_by (g' := (mkF m 329 (Ls40 ob ou sc sA zA su nu fu nf ff 1 (FP.l2d v1) (FP.l2d (own_max (y1 + 0) ((y2 + ((0 + v0) + v1)) - v0))) (FP.l2d (own_max y0 ((y1 + ((0 + v0) + v1)) - v0))) 1) [(.double 18442240474082181120), (.double (FP.l2d (own_max (y1 + 0) (y2 + (0 + v0)))))])) (fun t k => XS.dsubS X140.here hx rfl (hb hby d7_328) rfl (own_nnS bv1) (own_nS bv1) k) ?_
  obtain ⟨_, _, ⟨T144, L144, k144, n144⟩, -, X144, ⟨Lc144, hQ144, l144, y144, z144⟩, st144⟩ := Jvm.LawKit.callS X140 hx (y := (⟨"com/example/firebreak/firebreak/strategies/DoubleMax", "of", "(DD)D"⟩ : MethodName)) hown (mvT hZ (hw _ (own_m 96 rfl))) (mvT hZ (hw _ (own_m 97 rfl))) (mvT hZ (hw _ (own_m 98 rfl))) (mvT hZ (hw _ (own_m 99 rfl))) (by decide) (backOf (W := 0) (rm8r l Z a0 hw [] (own_max (y1 + 0) (y2 + (0 + v0))) h137 n0 (Nat.le_trans Zle K_.1) ) hZ (hw _ (own_m 99 rfl)) (hw _ (own_m 98 rfl)) (by decide) (by decide)) (g := (mkF m 329 (Ls40 ob ou sc sA zA su nu fu nf ff 1 (FP.l2d v1) (FP.l2d (own_max (y1 + 0) ((y2 + ((0 + v0) + v1)) - v0))) (FP.l2d (own_max y0 ((y1 + ((0 + v0) + v1)) - v0))) 1) [(.double 18442240474082181120), (.double (FP.l2d (own_max (y1 + 0) (y2 + (0 + v0)))))])) rfl (by rw [hml]; rfl) (argsL := [(.double (FP.l2d (own_max (y1 + 0) (y2 + (0 + v0))))), (.double 18442240474082181120)]) (rest := []) (lenOf pd_2 rfl) rfl (own_le rfl) (hb hby d7_329) (fun _ _ => ⟨rfl, e140, (by decide : 0 + 0 ≤ _), (by decide : 0 + 0 ≤ _)⟩)
  dsimp only [Pt.U, Pt.locs, Pt.cells, Pt.slots] at X144 l144 y144 z144 st144 hQ144
  subst l144 y144 z144
  obtain ⟨rfl, Nq144, e144⟩ := hQ144
  replace N_ := Fr.app N_ Nq144
  clear Nq144
  refine own_by (T' := T144) (g' := (mkF m 332 (Ls40 ob ou sc sA zA su nu fu nf ff 1 (FP.l2d v1) (FP.l2d (own_max (y1 + 0) ((y2 + ((0 + v0) + v1)) - v0))) (FP.l2d (own_max y0 ((y1 + ((0 + v0) + v1)) - v0))) 1) [(.double (FP.l2d (own_max (y1 + 0) (y2 + (0 + v0)))))])) (fun t k => st144 _ k) ?_
  clear st144 X140 e140
  refine oDst 334 X144 hx (hb hby d7_332) (Ls40 ob ou sc sA zA su nu fu nf ff 1 (FP.l2d v1) (FP.l2d (own_max (y1 + 0) (y2 + (0 + v0)))) (FP.l2d (own_max y0 ((y1 + ((0 + v0) + v1)) - v0))) 1) rfl rfl ?_
  refine oAl 336 X144 hx (hb hby d7_334) rfl rfl ?_
  refine oIl 338 X144 hx (hb hby d7_336) rfl rfl ?_
  refine oDa 339 X144 hx hZ e144 V_fu (.double (FP.l2d (own_max y0 (y1 + (0 + v0))))) (hb hby d7_338) (by decide) rfl rfl ?_
  refine oAl 341 X144 hx (hb hby d7_339) rfl rfl ?_
  refine oIl 343 X144 hx (hb hby d7_341) rfl rfl ?_
  refine oIc 344 X144 hx (hb hby d7_343) 1 rfl rfl ?_
  refine oAdd 345 X144 hx (hb hby d7_344) 2 rfl rfl ?_
  refine oDa 346 X144 hx hZ e144 V_ff (.double 18442240474082181120) (hb hby d7_345) (by decide) rfl rfl ?_
  refine oDl 348 X144 hx (hb hby d7_346) rfl rfl ?_
  refine own_by (g' := (mkF m 349 (Ls40 ob ou sc sA zA su nu fu nf ff 1 (FP.l2d v1) (FP.l2d (own_max (y1 + 0) (y2 + (0 + v0)))) (FP.l2d (own_max y0 ((y1 + ((0 + v0) + v1)) - v0))) 1) [(.double 18442240474082181120), (.double (FP.l2d (own_max y0 (y1 + (0 + v0)))))])) (fun t k => XS.dsubS X144.here hx rfl (hb hby d7_348) rfl (own_nnS bv1) (own_nS bv1) k) ?_
  obtain ⟨_, _, ⟨T147, L147, k147, n147⟩, -, X147, ⟨Lc147, hQ147, l147, y147, z147⟩, st147⟩ := Jvm.LawKit.callS X144 hx (y := (⟨"com/example/firebreak/firebreak/strategies/DoubleMax", "of", "(DD)D"⟩ : MethodName)) hown (mvT hZ (hw _ (own_m 96 rfl))) (mvT hZ (hw _ (own_m 97 rfl))) (mvT hZ (hw _ (own_m 98 rfl))) (mvT hZ (hw _ (own_m 99 rfl))) (by decide) (backOf (W := 0) (rm8r l Z a0 hw [] (own_max y0 (y1 + (0 + v0))) h137 n0 (Nat.le_trans Zle K_.1) ) hZ (hw _ (own_m 99 rfl)) (hw _ (own_m 98 rfl)) (by decide) (by decide)) (g := (mkF m 349 (Ls40 ob ou sc sA zA su nu fu nf ff 1 (FP.l2d v1) (FP.l2d (own_max (y1 + 0) (y2 + (0 + v0)))) (FP.l2d (own_max y0 ((y1 + ((0 + v0) + v1)) - v0))) 1) [(.double 18442240474082181120), (.double (FP.l2d (own_max y0 (y1 + (0 + v0)))))])) rfl (by rw [hml]; rfl) (argsL := [(.double (FP.l2d (own_max y0 (y1 + (0 + v0))))), (.double 18442240474082181120)]) (rest := []) (lenOf pd_2 rfl) rfl (own_le rfl) (hb hby d7_349) (fun _ _ => ⟨rfl, e144, (by decide : 0 + 0 ≤ _), (by decide : 0 + 0 ≤ _)⟩)
  dsimp only [Pt.U, Pt.locs, Pt.cells, Pt.slots] at X147 l147 y147 z147 st147 hQ147
  subst l147 y147 z147
  obtain ⟨rfl, Nq147, e147⟩ := hQ147
  replace N_ := Fr.app N_ Nq147
  clear Nq147
  refine own_by (T' := T147) (g' := (mkF m 352 (Ls40 ob ou sc sA zA su nu fu nf ff 1 (FP.l2d v1) (FP.l2d (own_max (y1 + 0) (y2 + (0 + v0)))) (FP.l2d (own_max y0 ((y1 + ((0 + v0) + v1)) - v0))) 1) [(.double (FP.l2d (own_max y0 (y1 + (0 + v0)))))])) (fun t k => st147 _ k) ?_
  clear st147 X144 e144
  refine oDst 354 X147 hx (hb hby d7_352) (Ls40 ob ou sc sA zA su nu fu nf ff 1 (FP.l2d v1) (FP.l2d (own_max (y1 + 0) (y2 + (0 + v0)))) (FP.l2d (own_max y0 (y1 + (0 + v0)))) 1) rfl rfl ?_
  refine oIl 356 X147 hx (hb hby d7_354) rfl rfl ?_
  refine oIst 358 X147 hx (hb hby d7_356) (Ls40 ob ou sc sA zA su nu fu nf ff 1 (FP.l2d v1) (FP.l2d (own_max (y1 + 0) (y2 + (0 + v0)))) (FP.l2d (own_max y0 (y1 + (0 + v0)))) 1) rfl rfl ?_
  refine oIl 360 X147 hx (hb hby d7_358) rfl rfl ?_
  refine oIl 362 X147 hx (hb hby d7_360) rfl rfl ?_
  refine oAl 364 X147 hx (hb hby d7_362) rfl rfl ?_
  refine oIl 366 X147 hx (hb hby d7_364) rfl rfl ?_
  refine oIa 367 X147 hx hZ e147 (V_zA.keep K_ nin_zA) (.int 1) (hb hby d7_366) (by decide) rfl rfl ?_
  refine oAdd 368 X147 hx (hb hby d7_367) 2 rfl rfl ?_
  refine oCn 371 X147 hx (hb hby d7_368) (tlt (by decide)).2.1 rfl ?_
  refine oAlN 372 X147 hx (hb hby d7_371) rfl rfl ?_
  refine oAlN 373 X147 hx (hb hby d7_372) rfl rfl ?_
  refine oF 376 X147 hx hZ hown (host := "") (Or.inl (hw _ (own_m 38 rfl))) Via.refl e147 (F_messages_ob.keep K_ nin_ob) (hb hby d7_373) rfl fun T149 X149 e149 => ?_
  clear X147 e147
  refine oR 379 X149 hx hZ hown (hw _ (own_m 79 rfl)) e149 (F_order_ma.keep K_ nin_ma) (hb hby d7_376) rfl ?_
  refine oIl 381 X149 hx (hb hby d7_379) rfl rfl ?_
  refine oIa 382 X149 hx hZ e149 (V_oA.keep K_ nin_oA) (.int 0) (hb hby d7_381) (by decide) rfl rfl ?_
  refine oDl 384 X149 hx (hb hby d7_382) rfl rfl ?_
  refine oDl 386 X149 hx (hb hby d7_384) rfl rfl ?_
  refine own_by (g' := (mkF m 387 (Ls40 ob ou sc sA zA su nu fu nf ff 1 (FP.l2d v1) (FP.l2d (own_max (y1 + 0) (y2 + (0 + v0)))) (FP.l2d (own_max y0 (y1 + (0 + v0)))) 1) [(.double (FP.l2d ((own_max (y1 + 0) (y2 + (0 + v0))) - (own_max y0 (y1 + (0 + v0)))))), (.int 0), (.ref ou)])) (fun t k => XS.dsubS X149.here hx rfl (hb hby d7_386) rfl (nn_w (dsub_w (own_b53 (own_bmax (own_badd b1 own_b0) (own_badd b2 (own_badd own_b0 bv0)))) (own_b53 (own_bmax b0 (own_badd b1 (own_badd own_b0 bv0)))))) (dsub_w (own_b53 (own_bmax (own_badd b1 own_b0) (own_badd b2 (own_badd own_b0 bv0)))) (own_b53 (own_bmax b0 (own_badd b1 (own_badd own_b0 bv0))))) k) ?_
  refine oDs 388 X149 hx hZ e149 V_ou 0 [(.double (FP.l2d ((own_max (y1 + 0) (y2 + (0 + v0))) - (own_max y0 (y1 + (0 + v0)))))), (.double (FP.l2d ((own_max (y1 + 0) ((y2 + ((0 + v0) + v1)) - v0)) - (own_max y0 ((y1 + ((0 + v0) + v1)) - v0)))))] (hb hby d7_387) (by decide) rfl (Nat.le_of_ble_eq_true rfl) rfl rfl fun T151 h151 X151 e151 W151 V_ou_ => ?_
  replace K_ := kW K_ W151 5 rfl
  replace V_su := V_su.other W151 (nd hnd 7 12)
  replace V_nu := V_nu.other W151 (nd hnd 8 12)
  replace V_fu := V_fu.other W151 (nd hnd 9 12)
  replace V_nf := V_nf.other W151 (nd hnd 10 12)
  replace V_ff := V_ff.other W151 (nd hnd 11 12)
  replace V_ou := V_ou_
  clear V_ou_ W151
  replace N_ := Fr.snoc X151 N_ g_ou
  clear X149 e149
  refine oInc 391 X151 hx (hb hby d7_388) (Ls40 ob ou sc sA zA su nu fu nf ff 1 (FP.l2d v1) (FP.l2d (own_max (y1 + 0) (y2 + (0 + v0)))) (FP.l2d (own_max y0 (y1 + (0 + v0)))) 2) rfl rfl rfl ?_
  refine oGo 358 X151 hx (hb hby d7_391) (by decide) (by decide) ?_
  refine oIl 360 X151 hx (hb hby d7_358) rfl rfl ?_
  refine oIl 362 X151 hx (hb hby d7_360) rfl rfl ?_
  refine oAl 364 X151 hx (hb hby d7_362) rfl rfl ?_
  refine oIl 366 X151 hx (hb hby d7_364) rfl rfl ?_
  refine oIa 367 X151 hx hZ e151 (V_zA.keep K_ nin_zA) (.int 1) (hb hby d7_366) (by decide) rfl rfl ?_
  refine oAdd 368 X151 hx (hb hby d7_367) 2 rfl rfl ?_
  refine oCy 394 X151 hx (hb hby d7_368) (flt (by decide)).2.1 (by decide) (by decide) ?_
  refine oIl 396 X151 hx (hb hby d7_394) rfl rfl ?_
  refine oAl 398 X151 hx (hb hby d7_396) rfl rfl ?_
  refine oIl 400 X151 hx (hb hby d7_398) rfl rfl ?_
  refine oIa 401 X151 hx hZ e151 (V_zA.keep K_ nin_zA) (.int 1) (hb hby d7_400) (by decide) rfl rfl ?_
  refine oAdd 402 X151 hx (hb hby d7_401) 2 rfl rfl ?_
  refine oIst 404 X151 hx (hb hby d7_402) (Ls40 ob ou sc sA zA su nu fu nf ff 2 (FP.l2d v1) (FP.l2d (own_max (y1 + 0) (y2 + (0 + v0)))) (FP.l2d (own_max y0 (y1 + (0 + v0)))) 2) rfl rfl ?_
  refine oGo 297 X151 hx (hb hby d7_404) (by decide) (by decide) ?_
  refine oIl 299 X151 hx (hb hby d7_297) rfl rfl ?_
  refine oAlN 300 X151 hx (hb hby d7_299) rfl rfl ?_
  refine oF 303 X151 hx hZ hown (host := "") (Or.inl (hw _ (own_m 10 rfl))) Via.refl e151 (F_n_ob.keep K_ nin_ob) (hb hby d7_300) rfl fun T154 X154 e154 => ?_
  clear X151 e151
  refine oCy 407 X154 hx (hb hby d7_303) (flt (by decide)).2.1 (by decide) (by decide) ?_
  have hO0 : ((own_max (y1 + 0) (y2 + (0 + v0))) - (own_max y0 (y1 + (0 + v0)))) = (own_o0 pp y0 y1 y2 v0 v1) := (own_a1 y0 y1 y2 v0).trans (by rw [own_o0, if_neg (by rw [ha]; decide)])
  have hO1 : ((own_max (y1 + 0) ((y2 + ((0 + v0) + v1)) - v0)) - (own_max y0 ((y1 + ((0 + v0) + v1)) - v0))) = (own_o1 pp y0 y1 y2 v0 v1) := (own_a0 y0 y1 y2 v0 v1).trans (by rw [own_o1, if_neg (by rw [ha]; decide)])
  have Vo' : Arv Z h151 ou kou .double (2 : Int32) [(.double (FP.l2d (own_o0 pp y0 y1 y2 v0 v1))), (.double (FP.l2d (own_o1 pp y0 y1 y2 v0 v1)))] (.double (FP.l2d 0)) := by rw [← hO0, ← hO1]; exact V_ou
  exact own_retV X154 hx hlk hret (hb hby d7_407) (by decide) (by decide) (by rw [e154]; exact ⟨(FP.l2d (0 + v0)), (FP.l2d ((0 + v0) + v1)), 18442240474082181120, (FP.l2d (y1 + 0)), (FP.l2d (own_max (y1 + 0) (y2 + (0 + v0)))), (FP.l2d y0), (FP.l2d (own_max y0 (y1 + (0 + v0)))), (FP.l2d (own_max (own_max y0 (y1 + (0 + v0))) (y2 + ((0 + v0) + v1)))), (FP.l2d (own_max (own_max (y2 + ((0 + v0) + v1)) (y1 + (0 + v0))) (y0 + 0))), (FP.l2d (own_max (y2 + ((0 + v0) + v1)) (y1 + (0 + v0)))), (FP.l2d (y2 + ((0 + v0) + v1))), 18442240474082181120, (FP.l2d (own_max (y1 + ((0 + v0) + v1)) (y0 + (0 + v0)))), (FP.l2d (y1 + ((0 + v0) + v1))), 18442240474082181120, 18442240474082181120, rfl, N_, K_, V_su, V_nu, V_fu, V_nf, V_ff, Vo'⟩)
set_option maxRecDepth 65536 in
set_option maxHeartbeats 40000000 in
theorem own_ans10t (l : Launch) (Z : State) (a0 : Array Value) (hw : ∀ d ∈ tables_1, d.before a0 Z = true) {p : Program} {e : Env} {s : State} {m : MethodId} {below : List Frame} {meth : Method} {c : Code} (hx : p.tables.exec = Jvm.exec) (hby : c.code = prog_42_method_5_code) (hml : c.maxLocals = 18) (hlk : meth.locks = false) (hret : meth.sig.returnType = none) (ob : Addr) (ou : Addr) (sc : Addr) (pp : Int32) (qq : Int32) (z0 : Int32) (z1 : Int32) (ma : Addr) (sA : Addr) (zA : Addr) (oA : Addr) (sa : Addr) (su : Addr) (nu : Addr) (fu : Addr) (nf : Addr) (ff : Addr) (ksA : ClassId) (kzA : ClassId) (koA : ClassId) (ksa : ClassId) (ksu : ClassId) (knu : ClassId) (kfu : ClassId) (knf : ClassId) (kff : ClassId) (kou : ClassId) (y0 : Int64) (y1 : Int64) (y2 : Int64) (v0 : Int64) (v1 : Int64) (su1 : UInt64) (su2 : UInt64) (nu0 : UInt64) (nu1 : UInt64) (nu2 : UInt64) (fu0 : UInt64) (fu1 : UInt64) (fu2 : UInt64) (nf0 : UInt64) (nf1 : UInt64) (nf2 : UInt64) (nf3 : UInt64) (ff0 : UInt64) (ff1 : UInt64) (ff2 : UInt64) (ff3 : UInt64) (ou0 : UInt64) (ou1 : UInt64) (h0 : Heap) (n0 : Nat) (hnd : ([ob, ma, sA, zA, oA, sa, sc, su, nu, fu, nf, ff, ou] : List Addr).Nodup) (b0 : own_bd 128 y0) (b1 : own_bd 128 y1) (b2 : own_bd 128 y2) (bv0 : own_bd 63 v0) (bv1 : own_bd 63 v1) (hcase : own_case pp qq z0 z1 v0 v1) {Tj : State} {hj : Heap} {locsj : List Loc}
    (hZ : Z.Warmed39 s.vm) (hown : s.vm.findClass "com/example/firebreak/firebreak/strategies/CountFactor" = some m.cls) (Xj : Stand p l e ({ frames := 1, cells := 0, slots := 0, locals := 40 } : Room) s m #[(.ref ob), (.ref ou), (.ref sc)] below meth c Tj locsj 0 0) (ej : Tj.heap = hj)
    (F_messages_ob : Fld Z h0 ob "com/example/firebreak/firebreak/strategies/CountFactor" "messages" "Lcom/example/firebreak/firebreak/strategies/CountFactor$Messages;" (.ref ma)) (F_n_ob : Fld Z h0 ob "com/example/firebreak/firebreak/strategies/CountFactor" "n" "I" (.int 2)) (F_score_ob : Fld Z h0 ob "com/example/firebreak/firebreak/strategies/CountFactor" "score" "[D" (.ref sa)) (V_sa : Arv Z h0 sa ksa .double (3 : Int32) [(.double (FP.l2d y0)), (.double (FP.l2d y1)), (.double (FP.l2d y2))] (.double (FP.l2d 0))) (F_sorted_ma : Fld Z h0 ma "com/example/firebreak/firebreak/strategies/CountFactor$Messages" "sorted" "[D" (.ref sA)) (F_tieSize_ma : Fld Z h0 ma "com/example/firebreak/firebreak/strategies/CountFactor$Messages" "tieSize" "[I" (.ref zA)) (F_order_ma : Fld Z h0 ma "com/example/firebreak/firebreak/strategies/CountFactor$Messages" "order" "[I" (.ref oA)) (V_sA : Arv Z h0 sA ksA .double (2 : Int32) [(.double (FP.l2d v0)), (.double (FP.l2d v1))] (.double (FP.l2d 0))) (V_zA : Arv Z h0 zA kzA .int (2 : Int32) [(.int 2), (.int 0)] (.int 0)) (V_oA : Arv Z h0 oA koA .int (2 : Int32) [(.int 1), (.int 0)] (.int 0)) (F_sums_sc : Fld Z h0 sc "com/example/firebreak/firebreak/strategies/CountFactor$Scratch" "sums" "[D" (.ref su)) (F_onUpTo_sc : Fld Z h0 sc "com/example/firebreak/firebreak/strategies/CountFactor$Scratch" "onUpTo" "[D" (.ref nu)) (F_offUpTo_sc : Fld Z h0 sc "com/example/firebreak/firebreak/strategies/CountFactor$Scratch" "offUpTo" "[D" (.ref fu)) (F_onFrom_sc : Fld Z h0 sc "com/example/firebreak/firebreak/strategies/CountFactor$Scratch" "onFrom" "[D" (.ref nf)) (F_offFrom_sc : Fld Z h0 sc "com/example/firebreak/firebreak/strategies/CountFactor$Scratch" "offFrom" "[D" (.ref ff)) (V_ou : Arv Z hj ou kou .double (2 : Int32) [(.double ou0), (.double ou1)] (.double (FP.l2d 0))) (g_su : n0 ≤ su) (g_nu : n0 ≤ nu) (g_fu : n0 ≤ fu) (g_nf : n0 ≤ nf) (g_ff : n0 ≤ ff) (g_ou : n0 ≤ ou) (Zle : n0 ≤ h0.size) (N_ : Fr n0 locsj) (K_ : Keep h0 hj [su, nu, fu, nf, ff, ou]) (nin_ob : ob ∉ [su, nu, fu, nf, ff, ou]) (nin_sa : sa ∉ [su, nu, fu, nf, ff, ou]) (nin_ma : ma ∉ [su, nu, fu, nf, ff, ou]) (nin_sA : sA ∉ [su, nu, fu, nf, ff, ou]) (nin_zA : zA ∉ [su, nu, fu, nf, ff, ou]) (nin_oA : oA ∉ [su, nu, fu, nf, ff, ou]) (nin_sc : sc ∉ [su, nu, fu, nf, ff, ou]) (V_su : Arv Z hj su ksu .double (3 : Int32) [(.double (FP.l2d 0)), (.double (FP.l2d (0 + v0))), (.double (FP.l2d ((0 + v0) + v1)))] (.double (FP.l2d 0))) (V_nu : Arv Z hj nu knu .double (3 : Int32) [(.double 18442240474082181120), (.double (FP.l2d (y1 + 0))), (.double (FP.l2d (own_max (y1 + 0) (y2 + (0 + v0)))))] (.double (FP.l2d 0))) (V_fu : Arv Z hj fu kfu .double (3 : Int32) [(.double (FP.l2d y0)), (.double (FP.l2d (own_max y0 (y1 + (0 + v0))))), (.double (FP.l2d (own_max (own_max y0 (y1 + (0 + v0))) (y2 + ((0 + v0) + v1)))))] (.double (FP.l2d 0))) (V_nf : Arv Z hj nf knf .double (4 : Int32) [(.double (FP.l2d (own_max (own_max (y2 + ((0 + v0) + v1)) (y1 + (0 + v0))) (y0 + 0)))), (.double (FP.l2d (own_max (y2 + ((0 + v0) + v1)) (y1 + (0 + v0))))), (.double (FP.l2d (y2 + ((0 + v0) + v1)))), (.double 18442240474082181120)] (.double (FP.l2d 0))) (V_ff : Arv Z hj ff kff .double (4 : Int32) [(.double (FP.l2d (own_max (y1 + ((0 + v0) + v1)) (y0 + (0 + v0))))), (.double (FP.l2d (y1 + ((0 + v0) + v1)))), (.double 18442240474082181120), (.double 18442240474082181120)] (.double (FP.l2d 0))) (ha : pp = 1) (hv : v0 = v1) : own_Goes p.tables e below s (Q7 Z ob ou sc pp qq z0 z1 ma sA zA oA sa su nu fu nf ff ksA kzA koA ksa ksu knu kfu knf kff kou y0 y1 y2 v0 v1 su1 su2 nu0 nu1 nu2 fu0 fu1 fu2 nf0 nf1 nf2 nf3 ff0 ff1 ff2 ff3 ou0 ou1 h0 n0) ({ frames := 1, cells := 0, slots := 0, locals := 40 } : Room).cells ({ frames := 1, cells := 0, slots := 0, locals := 40 } : Room).slots Tj (mkF m 294 (Ls36 ob ou sc sA zA su nu fu nf ff (-1)) []) := by
  refine oIc 295 Xj hx (hb hby d7_294) 0 rfl rfl ?_
  refine oIst 297 Xj hx (hb hby d7_295) (Ls36 ob ou sc sA zA su nu fu nf ff 0) rfl rfl ?_
  refine oIl 299 Xj hx (hb hby d7_297) rfl rfl ?_
  refine oAlN 300 Xj hx (hb hby d7_299) rfl rfl ?_
  refine oF 303 Xj hx hZ hown (host := "") (Or.inl (hw _ (own_m 10 rfl))) Via.refl ej (F_n_ob.keep K_ nin_ob) (hb hby d7_300) rfl fun T155 X155 e155 => ?_
  refine oCn 306 X155 hx (hb hby d7_303) (tlt (by decide)).2.1 rfl ?_
  refine oAlN 307 X155 hx (hb hby d7_306) rfl rfl ?_
  refine oIl 309 X155 hx (hb hby d7_307) rfl rfl ?_
  refine oDa 310 X155 hx hZ e155 (V_sA.keep K_ nin_sA) (.double (FP.l2d v0)) (hb hby d7_309) (by decide) rfl rfl ?_
  refine oDst 312 X155 hx (hb hby d7_310) (Ls37 ob ou sc sA zA su nu fu nf ff 0 (FP.l2d v0)) rfl rfl ?_
  refine oAl 314 X155 hx (hb hby d7_312) rfl rfl ?_
  refine oIl 316 X155 hx (hb hby d7_314) rfl rfl ?_
  refine oIc 317 X155 hx (hb hby d7_316) 1 rfl rfl ?_
  refine oAdd 318 X155 hx (hb hby d7_317) 1 rfl rfl ?_
  refine oDa 319 X155 hx hZ e155 V_nu (.double (FP.l2d (y1 + 0))) (hb hby d7_318) (by decide) rfl rfl ?_
  refine oAl 321 X155 hx (hb hby d7_319) rfl rfl ?_
  refine oIl 323 X155 hx (hb hby d7_321) rfl rfl ?_
  refine oIc 324 X155 hx (hb hby d7_323) 2 rfl rfl ?_
  refine oAdd 325 X155 hx (hb hby d7_324) 2 rfl rfl ?_
  refine oDa 326 X155 hx hZ e155 V_nf (.double (FP.l2d (y2 + ((0 + v0) + v1)))) (hb hby d7_325) (by decide) rfl rfl ?_
  refine oDl 328 X155 hx (hb hby d7_326) rfl rfl ?_
  refine own_by (g' := (mkF m 329 (Ls37 ob ou sc sA zA su nu fu nf ff 0 (FP.l2d v0)) [(.double (FP.l2d ((y2 + ((0 + v0) + v1)) - v0))), (.double (FP.l2d (y1 + 0)))])) (fun t k => XS.dsubS X155.here hx rfl (hb hby d7_328) rfl (nn_w (dsub_w (own_b53 (own_badd b2 (own_badd (own_badd own_b0 bv0) bv1))) (own_b53 bv0))) (dsub_w (own_b53 (own_badd b2 (own_badd (own_badd own_b0 bv0) bv1))) (own_b53 bv0)) k) ?_
  obtain ⟨_, _, ⟨T159, L159, k159, n159⟩, -, X159, ⟨Lc159, hQ159, l159, y159, z159⟩, st159⟩ := Jvm.LawKit.callS X155 hx (y := (⟨"com/example/firebreak/firebreak/strategies/DoubleMax", "of", "(DD)D"⟩ : MethodName)) hown (mvT hZ (hw _ (own_m 96 rfl))) (mvT hZ (hw _ (own_m 97 rfl))) (mvT hZ (hw _ (own_m 98 rfl))) (mvT hZ (hw _ (own_m 99 rfl))) (by decide) (backOf (W := 0) (rm8f l Z a0 hw [] (y1 + 0) ((y2 + ((0 + v0) + v1)) - v0) hj n0 (Nat.le_trans Zle K_.1) ((own_b53 (own_badd b1 own_b0))) ((own_b53 (own_bsub (own_badd b2 (own_badd (own_badd own_b0 bv0) bv1)) bv0)))) hZ (hw _ (own_m 99 rfl)) (hw _ (own_m 98 rfl)) (by decide) (by decide)) (g := (mkF m 329 (Ls37 ob ou sc sA zA su nu fu nf ff 0 (FP.l2d v0)) [(.double (FP.l2d ((y2 + ((0 + v0) + v1)) - v0))), (.double (FP.l2d (y1 + 0)))])) rfl (by rw [hml]; rfl) (argsL := [(.double (FP.l2d (y1 + 0))), (.double (FP.l2d ((y2 + ((0 + v0) + v1)) - v0)))]) (rest := []) (lenOf pd_2 rfl) rfl (own_le rfl) (hb hby d7_329) (fun _ _ => ⟨rfl, e155, (by decide : 0 + 0 ≤ _), (by decide : 0 + 0 ≤ _)⟩)
  dsimp only [Pt.U, Pt.locs, Pt.cells, Pt.slots] at X159 l159 y159 z159 st159 hQ159
  subst l159 y159 z159
  obtain ⟨rfl, Nq159, e159⟩ := hQ159
  replace N_ := Fr.app N_ Nq159
  clear Nq159
  refine own_by (T' := T159) (g' := (mkF m 332 (Ls37 ob ou sc sA zA su nu fu nf ff 0 (FP.l2d v0)) [(.double (FP.l2d (own_max (y1 + 0) ((y2 + ((0 + v0) + v1)) - v0))))])) (fun t k => st159 _ k) ?_
  clear st159 X155 e155
  refine oDst 334 X159 hx (hb hby d7_332) (Ls38 ob ou sc sA zA su nu fu nf ff 0 (FP.l2d v0) (FP.l2d (own_max (y1 + 0) ((y2 + ((0 + v0) + v1)) - v0)))) rfl rfl ?_
  refine oAl 336 X159 hx (hb hby d7_334) rfl rfl ?_
  refine oIl 338 X159 hx (hb hby d7_336) rfl rfl ?_
  refine oDa 339 X159 hx hZ e159 V_fu (.double (FP.l2d y0)) (hb hby d7_338) (by decide) rfl rfl ?_
  refine oAl 341 X159 hx (hb hby d7_339) rfl rfl ?_
  refine oIl 343 X159 hx (hb hby d7_341) rfl rfl ?_
  refine oIc 344 X159 hx (hb hby d7_343) 1 rfl rfl ?_
  refine oAdd 345 X159 hx (hb hby d7_344) 1 rfl rfl ?_
  refine oDa 346 X159 hx hZ e159 V_ff (.double (FP.l2d (y1 + ((0 + v0) + v1)))) (hb hby d7_345) (by decide) rfl rfl ?_
  refine oDl 348 X159 hx (hb hby d7_346) rfl rfl ?_
  refine own_by (g' := (mkF m 349 (Ls38 ob ou sc sA zA su nu fu nf ff 0 (FP.l2d v0) (FP.l2d (own_max (y1 + 0) ((y2 + ((0 + v0) + v1)) - v0)))) [(.double (FP.l2d ((y1 + ((0 + v0) + v1)) - v0))), (.double (FP.l2d y0))])) (fun t k => XS.dsubS X159.here hx rfl (hb hby d7_348) rfl (nn_w (dsub_w (own_b53 (own_badd b1 (own_badd (own_badd own_b0 bv0) bv1))) (own_b53 bv0))) (dsub_w (own_b53 (own_badd b1 (own_badd (own_badd own_b0 bv0) bv1))) (own_b53 bv0)) k) ?_
  obtain ⟨_, _, ⟨T162, L162, k162, n162⟩, -, X162, ⟨Lc162, hQ162, l162, y162, z162⟩, st162⟩ := Jvm.LawKit.callS X159 hx (y := (⟨"com/example/firebreak/firebreak/strategies/DoubleMax", "of", "(DD)D"⟩ : MethodName)) hown (mvT hZ (hw _ (own_m 96 rfl))) (mvT hZ (hw _ (own_m 97 rfl))) (mvT hZ (hw _ (own_m 98 rfl))) (mvT hZ (hw _ (own_m 99 rfl))) (by decide) (backOf (W := 0) (rm8f l Z a0 hw [] y0 ((y1 + ((0 + v0) + v1)) - v0) hj n0 (Nat.le_trans Zle K_.1) ((own_b53 b0)) ((own_b53 (own_bsub (own_badd b1 (own_badd (own_badd own_b0 bv0) bv1)) bv0)))) hZ (hw _ (own_m 99 rfl)) (hw _ (own_m 98 rfl)) (by decide) (by decide)) (g := (mkF m 349 (Ls38 ob ou sc sA zA su nu fu nf ff 0 (FP.l2d v0) (FP.l2d (own_max (y1 + 0) ((y2 + ((0 + v0) + v1)) - v0)))) [(.double (FP.l2d ((y1 + ((0 + v0) + v1)) - v0))), (.double (FP.l2d y0))])) rfl (by rw [hml]; rfl) (argsL := [(.double (FP.l2d y0)), (.double (FP.l2d ((y1 + ((0 + v0) + v1)) - v0)))]) (rest := []) (lenOf pd_2 rfl) rfl (own_le rfl) (hb hby d7_349) (fun _ _ => ⟨rfl, e159, (by decide : 0 + 0 ≤ _), (by decide : 0 + 0 ≤ _)⟩)
  dsimp only [Pt.U, Pt.locs, Pt.cells, Pt.slots] at X162 l162 y162 z162 st162 hQ162
  subst l162 y162 z162
  obtain ⟨rfl, Nq162, e162⟩ := hQ162
  replace N_ := Fr.app N_ Nq162
  clear Nq162
  refine own_by (T' := T162) (g' := (mkF m 352 (Ls38 ob ou sc sA zA su nu fu nf ff 0 (FP.l2d v0) (FP.l2d (own_max (y1 + 0) ((y2 + ((0 + v0) + v1)) - v0)))) [(.double (FP.l2d (own_max y0 ((y1 + ((0 + v0) + v1)) - v0))))])) (fun t k => st162 _ k) ?_
  clear st162 X159 e159
  refine oDst 354 X162 hx (hb hby d7_352) (Ls39 ob ou sc sA zA su nu fu nf ff 0 (FP.l2d v0) (FP.l2d (own_max (y1 + 0) ((y2 + ((0 + v0) + v1)) - v0))) (FP.l2d (own_max y0 ((y1 + ((0 + v0) + v1)) - v0)))) rfl rfl ?_
  refine oIl 356 X162 hx (hb hby d7_354) rfl rfl ?_
  refine oIst 358 X162 hx (hb hby d7_356) (Ls40 ob ou sc sA zA su nu fu nf ff 0 (FP.l2d v0) (FP.l2d (own_max (y1 + 0) ((y2 + ((0 + v0) + v1)) - v0))) (FP.l2d (own_max y0 ((y1 + ((0 + v0) + v1)) - v0))) 0) rfl rfl ?_
  refine oIl 360 X162 hx (hb hby d7_358) rfl rfl ?_
  refine oIl 362 X162 hx (hb hby d7_360) rfl rfl ?_
  refine oAl 364 X162 hx (hb hby d7_362) rfl rfl ?_
  refine oIl 366 X162 hx (hb hby d7_364) rfl rfl ?_
  refine oIa 367 X162 hx hZ e162 (V_zA.keep K_ nin_zA) (.int 2) (hb hby d7_366) (by decide) rfl rfl ?_
  refine oAdd 368 X162 hx (hb hby d7_367) 2 rfl rfl ?_
  refine oCn 371 X162 hx (hb hby d7_368) (tlt (by decide)).2.1 rfl ?_
  refine oAlN 372 X162 hx (hb hby d7_371) rfl rfl ?_
  refine oAlN 373 X162 hx (hb hby d7_372) rfl rfl ?_
  refine oF 376 X162 hx hZ hown (host := "") (Or.inl (hw _ (own_m 38 rfl))) Via.refl e162 (F_messages_ob.keep K_ nin_ob) (hb hby d7_373) rfl fun T164 X164 e164 => ?_
  clear X162 e162
  refine oR 379 X164 hx hZ hown (hw _ (own_m 79 rfl)) e164 (F_order_ma.keep K_ nin_ma) (hb hby d7_376) rfl ?_
  refine oIl 381 X164 hx (hb hby d7_379) rfl rfl ?_
  refine oIa 382 X164 hx hZ e164 (V_oA.keep K_ nin_oA) (.int 1) (hb hby d7_381) (by decide) rfl rfl ?_
  refine oDl 384 X164 hx (hb hby d7_382) rfl rfl ?_
  refine oDl 386 X164 hx (hb hby d7_384) rfl rfl ?_
  refine own_by (g' := (mkF m 387 (Ls40 ob ou sc sA zA su nu fu nf ff 0 (FP.l2d v0) (FP.l2d (own_max (y1 + 0) ((y2 + ((0 + v0) + v1)) - v0))) (FP.l2d (own_max y0 ((y1 + ((0 + v0) + v1)) - v0))) 0) [(.double (FP.l2d ((own_max (y1 + 0) ((y2 + ((0 + v0) + v1)) - v0)) - (own_max y0 ((y1 + ((0 + v0) + v1)) - v0))))), (.int 1), (.ref ou)])) (fun t k => XS.dsubS X164.here hx rfl (hb hby d7_386) rfl (nn_w (dsub_w (own_b53 (own_bmax (own_badd b1 own_b0) (own_bsub (own_badd b2 (own_badd (own_badd own_b0 bv0) bv1)) bv0))) (own_b53 (own_bmax b0 (own_bsub (own_badd b1 (own_badd (own_badd own_b0 bv0) bv1)) bv0))))) (dsub_w (own_b53 (own_bmax (own_badd b1 own_b0) (own_bsub (own_badd b2 (own_badd (own_badd own_b0 bv0) bv1)) bv0))) (own_b53 (own_bmax b0 (own_bsub (own_badd b1 (own_badd (own_badd own_b0 bv0) bv1)) bv0)))) k) ?_
  refine oDs 388 X164 hx hZ e164 V_ou 1 [(.double ou0), (.double (FP.l2d ((own_max (y1 + 0) ((y2 + ((0 + v0) + v1)) - v0)) - (own_max y0 ((y1 + ((0 + v0) + v1)) - v0)))))] (hb hby d7_387) (by decide) rfl (Nat.le_of_ble_eq_true rfl) rfl rfl fun T166 h166 X166 e166 W166 V_ou_ => ?_
  replace K_ := kW K_ W166 5 rfl
  replace V_su := V_su.other W166 (nd hnd 7 12)
  replace V_nu := V_nu.other W166 (nd hnd 8 12)
  replace V_fu := V_fu.other W166 (nd hnd 9 12)
  replace V_nf := V_nf.other W166 (nd hnd 10 12)
  replace V_ff := V_ff.other W166 (nd hnd 11 12)
  replace V_ou := V_ou_
  clear V_ou_ W166
  replace N_ := Fr.snoc X166 N_ g_ou
  clear X164 e164
  refine oInc 391 X166 hx (hb hby d7_388) (Ls40 ob ou sc sA zA su nu fu nf ff 0 (FP.l2d v0) (FP.l2d (own_max (y1 + 0) ((y2 + ((0 + v0) + v1)) - v0))) (FP.l2d (own_max y0 ((y1 + ((0 + v0) + v1)) - v0))) 1) rfl rfl rfl ?_
  refine oGo 358 X166 hx (hb hby d7_391) (by decide) (by decide) ?_
  refine oIl 360 X166 hx (hb hby d7_358) rfl rfl ?_
  refine oIl 362 X166 hx (hb hby d7_360) rfl rfl ?_
  refine oAl 364 X166 hx (hb hby d7_362) rfl rfl ?_
  refine oIl 366 X166 hx (hb hby d7_364) rfl rfl ?_
  refine oIa 367 X166 hx hZ e166 (V_zA.keep K_ nin_zA) (.int 2) (hb hby d7_366) (by decide) rfl rfl ?_
  refine oAdd 368 X166 hx (hb hby d7_367) 2 rfl rfl ?_
  refine oCn 371 X166 hx (hb hby d7_368) (tlt (by decide)).2.1 rfl ?_
  refine oAlN 372 X166 hx (hb hby d7_371) rfl rfl ?_
  refine oAlN 373 X166 hx (hb hby d7_372) rfl rfl ?_
  refine oF 376 X166 hx hZ hown (host := "") (Or.inl (hw _ (own_m 38 rfl))) Via.refl e166 (F_messages_ob.keep K_ nin_ob) (hb hby d7_373) rfl fun T168 X168 e168 => ?_
  clear X166 e166
  refine oR 379 X168 hx hZ hown (hw _ (own_m 79 rfl)) e168 (F_order_ma.keep K_ nin_ma) (hb hby d7_376) rfl ?_
  refine oIl 381 X168 hx (hb hby d7_379) rfl rfl ?_
  refine oIa 382 X168 hx hZ e168 (V_oA.keep K_ nin_oA) (.int 0) (hb hby d7_381) (by decide) rfl rfl ?_
  refine oDl 384 X168 hx (hb hby d7_382) rfl rfl ?_
  refine oDl 386 X168 hx (hb hby d7_384) rfl rfl ?_
  refine own_by (g' := (mkF m 387 (Ls40 ob ou sc sA zA su nu fu nf ff 0 (FP.l2d v0) (FP.l2d (own_max (y1 + 0) ((y2 + ((0 + v0) + v1)) - v0))) (FP.l2d (own_max y0 ((y1 + ((0 + v0) + v1)) - v0))) 1) [(.double (FP.l2d ((own_max (y1 + 0) ((y2 + ((0 + v0) + v1)) - v0)) - (own_max y0 ((y1 + ((0 + v0) + v1)) - v0))))), (.int 0), (.ref ou)])) (fun t k => XS.dsubS X168.here hx rfl (hb hby d7_386) rfl (nn_w (dsub_w (own_b53 (own_bmax (own_badd b1 own_b0) (own_bsub (own_badd b2 (own_badd (own_badd own_b0 bv0) bv1)) bv0))) (own_b53 (own_bmax b0 (own_bsub (own_badd b1 (own_badd (own_badd own_b0 bv0) bv1)) bv0))))) (dsub_w (own_b53 (own_bmax (own_badd b1 own_b0) (own_bsub (own_badd b2 (own_badd (own_badd own_b0 bv0) bv1)) bv0))) (own_b53 (own_bmax b0 (own_bsub (own_badd b1 (own_badd (own_badd own_b0 bv0) bv1)) bv0)))) k) ?_
  refine oDs 388 X168 hx hZ e168 V_ou 0 [(.double (FP.l2d ((own_max (y1 + 0) ((y2 + ((0 + v0) + v1)) - v0)) - (own_max y0 ((y1 + ((0 + v0) + v1)) - v0))))), (.double (FP.l2d ((own_max (y1 + 0) ((y2 + ((0 + v0) + v1)) - v0)) - (own_max y0 ((y1 + ((0 + v0) + v1)) - v0)))))] (hb hby d7_387) (by decide) rfl (Nat.le_of_ble_eq_true rfl) rfl rfl fun T170 h170 X170 e170 W170 V_ou_ => ?_
  replace K_ := kW K_ W170 5 rfl
  replace V_su := V_su.other W170 (nd hnd 7 12)
  replace V_nu := V_nu.other W170 (nd hnd 8 12)
  replace V_fu := V_fu.other W170 (nd hnd 9 12)
  replace V_nf := V_nf.other W170 (nd hnd 10 12)
  replace V_ff := V_ff.other W170 (nd hnd 11 12)
  replace V_ou := V_ou_
  clear V_ou_ W170
  replace N_ := Fr.snoc X170 N_ g_ou
  clear X168 e168
  refine oInc 391 X170 hx (hb hby d7_388) (Ls40 ob ou sc sA zA su nu fu nf ff 0 (FP.l2d v0) (FP.l2d (own_max (y1 + 0) ((y2 + ((0 + v0) + v1)) - v0))) (FP.l2d (own_max y0 ((y1 + ((0 + v0) + v1)) - v0))) 2) rfl rfl rfl ?_
  refine oGo 358 X170 hx (hb hby d7_391) (by decide) (by decide) ?_
  refine oIl 360 X170 hx (hb hby d7_358) rfl rfl ?_
  refine oIl 362 X170 hx (hb hby d7_360) rfl rfl ?_
  refine oAl 364 X170 hx (hb hby d7_362) rfl rfl ?_
  refine oIl 366 X170 hx (hb hby d7_364) rfl rfl ?_
  refine oIa 367 X170 hx hZ e170 (V_zA.keep K_ nin_zA) (.int 2) (hb hby d7_366) (by decide) rfl rfl ?_
  refine oAdd 368 X170 hx (hb hby d7_367) 2 rfl rfl ?_
  refine oCy 394 X170 hx (hb hby d7_368) (flt (by decide)).2.1 (by decide) (by decide) ?_
  refine oIl 396 X170 hx (hb hby d7_394) rfl rfl ?_
  refine oAl 398 X170 hx (hb hby d7_396) rfl rfl ?_
  refine oIl 400 X170 hx (hb hby d7_398) rfl rfl ?_
  refine oIa 401 X170 hx hZ e170 (V_zA.keep K_ nin_zA) (.int 2) (hb hby d7_400) (by decide) rfl rfl ?_
  refine oAdd 402 X170 hx (hb hby d7_401) 2 rfl rfl ?_
  refine oIst 404 X170 hx (hb hby d7_402) (Ls40 ob ou sc sA zA su nu fu nf ff 2 (FP.l2d v0) (FP.l2d (own_max (y1 + 0) ((y2 + ((0 + v0) + v1)) - v0))) (FP.l2d (own_max y0 ((y1 + ((0 + v0) + v1)) - v0))) 2) rfl rfl ?_
  refine oGo 297 X170 hx (hb hby d7_404) (by decide) (by decide) ?_
  refine oIl 299 X170 hx (hb hby d7_297) rfl rfl ?_
  refine oAlN 300 X170 hx (hb hby d7_299) rfl rfl ?_
  refine oF 303 X170 hx hZ hown (host := "") (Or.inl (hw _ (own_m 10 rfl))) Via.refl e170 (F_n_ob.keep K_ nin_ob) (hb hby d7_300) rfl fun T173 X173 e173 => ?_
  clear X170 e170
  refine oCy 407 X173 hx (hb hby d7_303) (flt (by decide)).2.1 (by decide) (by decide) ?_
  have hO0 : ((own_max (y1 + 0) ((y2 + ((0 + v0) + v1)) - v0)) - (own_max y0 ((y1 + ((0 + v0) + v1)) - v0))) = (own_o0 pp y0 y1 y2 v0 v1) := ((own_a0 y0 y1 y2 v0 v1).trans (congrArg (own_ref y0 y1 y2) hv.symm)).trans (by rw [own_o0, if_neg (by rw [ha]; decide)])
  have hO1 : ((own_max (y1 + 0) ((y2 + ((0 + v0) + v1)) - v0)) - (own_max y0 ((y1 + ((0 + v0) + v1)) - v0))) = (own_o1 pp y0 y1 y2 v0 v1) := (own_a0 y0 y1 y2 v0 v1).trans (by rw [own_o1, if_neg (by rw [ha]; decide)])
  have Vo' : Arv Z h170 ou kou .double (2 : Int32) [(.double (FP.l2d (own_o0 pp y0 y1 y2 v0 v1))), (.double (FP.l2d (own_o1 pp y0 y1 y2 v0 v1)))] (.double (FP.l2d 0)) := by rw [← hO0, ← hO1]; exact V_ou
  exact own_retV X173 hx hlk hret (hb hby d7_407) (by decide) (by decide) (by rw [e173]; exact ⟨(FP.l2d (0 + v0)), (FP.l2d ((0 + v0) + v1)), 18442240474082181120, (FP.l2d (y1 + 0)), (FP.l2d (own_max (y1 + 0) (y2 + (0 + v0)))), (FP.l2d y0), (FP.l2d (own_max y0 (y1 + (0 + v0)))), (FP.l2d (own_max (own_max y0 (y1 + (0 + v0))) (y2 + ((0 + v0) + v1)))), (FP.l2d (own_max (own_max (y2 + ((0 + v0) + v1)) (y1 + (0 + v0))) (y0 + 0))), (FP.l2d (own_max (y2 + ((0 + v0) + v1)) (y1 + (0 + v0)))), (FP.l2d (y2 + ((0 + v0) + v1))), 18442240474082181120, (FP.l2d (own_max (y1 + ((0 + v0) + v1)) (y0 + (0 + v0)))), (FP.l2d (y1 + ((0 + v0) + v1))), 18442240474082181120, 18442240474082181120, rfl, N_, K_, V_su, V_nu, V_fu, V_nf, V_ff, Vo'⟩)
set_option maxRecDepth 65536 in
set_option maxHeartbeats 40000000 in
theorem own_a217 (l : Launch) (Z : State) (a0 : Array Value) (hw : ∀ d ∈ tables_1, d.before a0 Z = true) {p : Program} {e : Env} {s : State} {m : MethodId} {below : List Frame} {meth : Method} {c : Code} (hx : p.tables.exec = Jvm.exec) (hby : c.code = prog_42_method_5_code) (hml : c.maxLocals = 18) (hlk : meth.locks = false) (hret : meth.sig.returnType = none) (ob : Addr) (ou : Addr) (sc : Addr) (pp : Int32) (qq : Int32) (z0 : Int32) (z1 : Int32) (ma : Addr) (sA : Addr) (zA : Addr) (oA : Addr) (sa : Addr) (su : Addr) (nu : Addr) (fu : Addr) (nf : Addr) (ff : Addr) (ksA : ClassId) (kzA : ClassId) (koA : ClassId) (ksa : ClassId) (ksu : ClassId) (knu : ClassId) (kfu : ClassId) (knf : ClassId) (kff : ClassId) (kou : ClassId) (y0 : Int64) (y1 : Int64) (y2 : Int64) (v0 : Int64) (v1 : Int64) (su1 : UInt64) (su2 : UInt64) (nu0 : UInt64) (nu1 : UInt64) (nu2 : UInt64) (fu0 : UInt64) (fu1 : UInt64) (fu2 : UInt64) (nf0 : UInt64) (nf1 : UInt64) (nf2 : UInt64) (nf3 : UInt64) (ff0 : UInt64) (ff1 : UInt64) (ff2 : UInt64) (ff3 : UInt64) (ou0 : UInt64) (ou1 : UInt64) (h0 : Heap) (n0 : Nat) (hnd : ([ob, ma, sA, zA, oA, sa, sc, su, nu, fu, nf, ff, ou] : List Addr).Nodup) (b0 : own_bd 128 y0) (b1 : own_bd 128 y1) (b2 : own_bd 128 y2) (bv0 : own_bd 63 v0) (bv1 : own_bd 63 v1) (hcase : own_case pp qq z0 z1 v0 v1) {Tj : State} {hj : Heap} {locsj : List Loc}
    (hZ : Z.Warmed39 s.vm) (hown : s.vm.findClass "com/example/firebreak/firebreak/strategies/CountFactor" = some m.cls) (Xj : Stand p l e ({ frames := 1, cells := 0, slots := 0, locals := 40 } : Room) s m #[(.ref ob), (.ref ou), (.ref sc)] below meth c Tj locsj 0 0) (ej : Tj.heap = hj)
    (F_messages_ob : Fld Z h0 ob "com/example/firebreak/firebreak/strategies/CountFactor" "messages" "Lcom/example/firebreak/firebreak/strategies/CountFactor$Messages;" (.ref ma)) (F_n_ob : Fld Z h0 ob "com/example/firebreak/firebreak/strategies/CountFactor" "n" "I" (.int 2)) (F_score_ob : Fld Z h0 ob "com/example/firebreak/firebreak/strategies/CountFactor" "score" "[D" (.ref sa)) (V_sa : Arv Z h0 sa ksa .double (3 : Int32) [(.double (FP.l2d y0)), (.double (FP.l2d y1)), (.double (FP.l2d y2))] (.double (FP.l2d 0))) (F_sorted_ma : Fld Z h0 ma "com/example/firebreak/firebreak/strategies/CountFactor$Messages" "sorted" "[D" (.ref sA)) (F_tieSize_ma : Fld Z h0 ma "com/example/firebreak/firebreak/strategies/CountFactor$Messages" "tieSize" "[I" (.ref zA)) (F_order_ma : Fld Z h0 ma "com/example/firebreak/firebreak/strategies/CountFactor$Messages" "order" "[I" (.ref oA)) (V_sA : Arv Z h0 sA ksA .double (2 : Int32) [(.double (FP.l2d v0)), (.double (FP.l2d v1))] (.double (FP.l2d 0))) (V_zA : Arv Z h0 zA kzA .int (2 : Int32) [(.int z0), (.int z1)] (.int 0)) (V_oA : Arv Z h0 oA koA .int (2 : Int32) [(.int pp), (.int qq)] (.int 0)) (F_sums_sc : Fld Z h0 sc "com/example/firebreak/firebreak/strategies/CountFactor$Scratch" "sums" "[D" (.ref su)) (F_onUpTo_sc : Fld Z h0 sc "com/example/firebreak/firebreak/strategies/CountFactor$Scratch" "onUpTo" "[D" (.ref nu)) (F_offUpTo_sc : Fld Z h0 sc "com/example/firebreak/firebreak/strategies/CountFactor$Scratch" "offUpTo" "[D" (.ref fu)) (F_onFrom_sc : Fld Z h0 sc "com/example/firebreak/firebreak/strategies/CountFactor$Scratch" "onFrom" "[D" (.ref nf)) (F_offFrom_sc : Fld Z h0 sc "com/example/firebreak/firebreak/strategies/CountFactor$Scratch" "offFrom" "[D" (.ref ff)) (V_ou : Arv Z hj ou kou .double (2 : Int32) [(.double ou0), (.double ou1)] (.double (FP.l2d 0))) (g_su : n0 ≤ su) (g_nu : n0 ≤ nu) (g_fu : n0 ≤ fu) (g_nf : n0 ≤ nf) (g_ff : n0 ≤ ff) (g_ou : n0 ≤ ou) (Zle : n0 ≤ h0.size) (N_ : Fr n0 locsj) (K_ : Keep h0 hj [su, nu, fu, nf, ff, ou]) (nin_ob : ob ∉ [su, nu, fu, nf, ff, ou]) (nin_sa : sa ∉ [su, nu, fu, nf, ff, ou]) (nin_ma : ma ∉ [su, nu, fu, nf, ff, ou]) (nin_sA : sA ∉ [su, nu, fu, nf, ff, ou]) (nin_zA : zA ∉ [su, nu, fu, nf, ff, ou]) (nin_oA : oA ∉ [su, nu, fu, nf, ff, ou]) (nin_sc : sc ∉ [su, nu, fu, nf, ff, ou]) (V_su : Arv Z hj su ksu .double (3 : Int32) [(.double (FP.l2d 0)), (.double (FP.l2d (0 + v0))), (.double (FP.l2d ((0 + v0) + v1)))] (.double (FP.l2d 0))) (V_nu : Arv Z hj nu knu .double (3 : Int32) [(.double 18442240474082181120), (.double (FP.l2d (y1 + 0))), (.double (FP.l2d (own_max (y1 + 0) (y2 + (0 + v0)))))] (.double (FP.l2d 0))) (V_fu : Arv Z hj fu kfu .double (3 : Int32) [(.double (FP.l2d y0)), (.double (FP.l2d (own_max y0 (y1 + (0 + v0))))), (.double (FP.l2d (own_max (own_max y0 (y1 + (0 + v0))) (y2 + ((0 + v0) + v1)))))] (.double (FP.l2d 0))) (V_nf : Arv Z hj nf knf .double (4 : Int32) [(.double nf0), (.double nf1), (.double (FP.l2d (y2 + ((0 + v0) + v1)))), (.double 18442240474082181120)] (.double (FP.l2d 0))) (V_ff : Arv Z hj ff kff .double (4 : Int32) [(.double ff0), (.double ff1), (.double 18442240474082181120), (.double 18442240474082181120)] (.double (FP.l2d 0))) : own_Goes p.tables e below s (Q7 Z ob ou sc pp qq z0 z1 ma sA zA oA sa su nu fu nf ff ksA kzA koA ksa ksu knu kfu knf kff kou y0 y1 y2 v0 v1 su1 su2 nu0 nu1 nu2 fu0 fu1 fu2 nf0 nf1 nf2 nf3 ff0 ff1 ff2 ff3 ou0 ou1 h0 n0) ({ frames := 1, cells := 0, slots := 0, locals := 40 } : Room).cells ({ frames := 1, cells := 0, slots := 0, locals := 40 } : Room).slots Tj (mkF m 217 (Ls36 ob ou sc sA zA su nu fu nf ff 3) []) := by
  refine oAlN 218 Xj hx (hb hby d7_217) rfl rfl ?_
  refine oF 221 Xj hx hZ hown (host := "") (Or.inl (hw _ (own_m 10 rfl))) Via.refl ej (F_n_ob.keep K_ nin_ob) (hb hby d7_218) rfl fun T53 X53 e53 => ?_
  refine oIc 222 X53 hx (hb hby d7_221) 1 rfl rfl ?_
  refine oSub 223 X53 hx (hb hby d7_222) 1 rfl rfl ?_
  refine oIst 225 X53 hx (hb hby d7_223) (Ls36 ob ou sc sA zA su nu fu nf ff 1) rfl rfl ?_
  refine oIl 227 X53 hx (hb hby d7_225) rfl rfl ?_
  refine oFn 230 X53 hx (hb hby d7_227) ((if0 _ _).trans (flt (by decide)).1) rfl ?_
  refine oAl 232 X53 hx (hb hby d7_230) rfl rfl ?_
  refine oIl 234 X53 hx (hb hby d7_232) rfl rfl ?_
  refine oAl 236 X53 hx (hb hby d7_234) rfl rfl ?_
  refine oIl 238 X53 hx (hb hby d7_236) rfl rfl ?_
  refine oIc 239 X53 hx (hb hby d7_238) 1 rfl rfl ?_
  refine oAdd 240 X53 hx (hb hby d7_239) 2 rfl rfl ?_
  refine oDa 241 X53 hx hZ e53 V_nf (.double (FP.l2d (y2 + ((0 + v0) + v1)))) (hb hby d7_240) (by decide) rfl rfl ?_
  refine oAlN 242 X53 hx (hb hby d7_241) rfl rfl ?_
  refine oF 245 X53 hx hZ hown (host := "") (Or.inl (hw _ (own_m 12 rfl))) Via.refl e53 (F_score_ob.keep K_ nin_ob) (hb hby d7_242) rfl fun T55 X55 e55 => ?_
  clear X53 e53
  refine oIl 247 X55 hx (hb hby d7_245) rfl rfl ?_
  refine oDa 248 X55 hx hZ e55 (V_sa.keep K_ nin_sa) (.double (FP.l2d y1)) (hb hby d7_247) (by decide) rfl rfl ?_
  refine oAl 250 X55 hx (hb hby d7_248) rfl rfl ?_
  refine oIl 252 X55 hx (hb hby d7_250) rfl rfl ?_
  refine oDa 253 X55 hx hZ e55 V_su (.double (FP.l2d (0 + v0))) (hb hby d7_252) (by decide) rfl rfl ?_
  refine own_by (g' := (mkF m 254 (Ls36 ob ou sc sA zA su nu fu nf ff 1) [(.double (FP.l2d (y1 + (0 + v0)))), (.double (FP.l2d (y2 + ((0 + v0) + v1)))), (.int 1), (.ref nf)])) (fun t k => XS.daddS X55.here hx rfl (hb hby d7_253) rfl (nn_w (dadd_w (own_b53 b1) (own_b53 (own_badd own_b0 bv0)))) (dadd_w (own_b53 b1) (own_b53 (own_badd own_b0 bv0))) k) ?_
  obtain ⟨_, _, ⟨T58, L58, k58, n58⟩, -, X58, ⟨Lc58, hQ58, l58, y58, z58⟩, st58⟩ := Jvm.LawKit.callS X55 hx (y := (⟨"com/example/firebreak/firebreak/strategies/DoubleMax", "of", "(DD)D"⟩ : MethodName)) hown (mvT hZ (hw _ (own_m 96 rfl))) (mvT hZ (hw _ (own_m 97 rfl))) (mvT hZ (hw _ (own_m 98 rfl))) (mvT hZ (hw _ (own_m 99 rfl))) (by decide) (backOf (W := 2) (rm8f l Z a0 hw [] (y2 + ((0 + v0) + v1)) (y1 + (0 + v0)) hj n0 (Nat.le_trans Zle K_.1) ((own_b53 (own_badd b2 (own_badd (own_badd own_b0 bv0) bv1)))) ((own_b53 (own_badd b1 (own_badd own_b0 bv0))))) hZ (hw _ (own_m 99 rfl)) (hw _ (own_m 98 rfl)) (by decide) (by decide)) (g := (mkF m 254 (Ls36 ob ou sc sA zA su nu fu nf ff 1) [(.double (FP.l2d (y1 + (0 + v0)))), (.double (FP.l2d (y2 + ((0 + v0) + v1)))), (.int 1), (.ref nf)])) rfl (by rw [hml]; rfl) (argsL := [(.double (FP.l2d (y2 + ((0 + v0) + v1)))), (.double (FP.l2d (y1 + (0 + v0))))]) (rest := [(.int 1), (.ref nf)]) (lenOf pd_2 rfl) rfl (own_le rfl) (hb hby d7_254) (fun _ _ => ⟨rfl, e55, (by decide : 0 + 0 ≤ _), (by decide : 0 + 0 ≤ _)⟩)
  dsimp only [Pt.U, Pt.locs, Pt.cells, Pt.slots] at X58 l58 y58 z58 st58 hQ58
  subst l58 y58 z58
  obtain ⟨rfl, Nq58, e58⟩ := hQ58
  replace N_ := Fr.app N_ Nq58
  clear Nq58
  refine own_by (T' := T58) (g' := (mkF m 257 (Ls36 ob ou sc sA zA su nu fu nf ff 1) [(.double (FP.l2d (own_max (y2 + ((0 + v0) + v1)) (y1 + (0 + v0))))), (.int 1), (.ref nf)])) (fun t k => st58 _ k) ?_
  clear st58 X55 e55
  refine oDs 258 X58 hx hZ e58 V_nf 1 [(.double nf0), (.double (FP.l2d (own_max (y2 + ((0 + v0) + v1)) (y1 + (0 + v0))))), (.double (FP.l2d (y2 + ((0 + v0) + v1)))), (.double 18442240474082181120)] (hb hby d7_257) (by decide) rfl (Nat.le_of_ble_eq_true rfl) rfl rfl fun T59 h59 X59 e59 W59 V_nf_ => ?_
  replace V_ou := V_ou.other W59 (nd hnd 12 10)
  replace K_ := kW K_ W59 3 rfl
  replace V_su := V_su.other W59 (nd hnd 7 10)
  replace V_nu := V_nu.other W59 (nd hnd 8 10)
  replace V_fu := V_fu.other W59 (nd hnd 9 10)
  replace V_ff := V_ff.other W59 (nd hnd 11 10)
  replace V_nf := V_nf_
  clear V_nf_ W59
  replace N_ := Fr.snoc X59 N_ g_nf
  clear X58 e58
  refine oAl 260 X59 hx (hb hby d7_258) rfl rfl ?_
  refine oIl 262 X59 hx (hb hby d7_260) rfl rfl ?_
  refine oAl 264 X59 hx (hb hby d7_262) rfl rfl ?_
  refine oIl 266 X59 hx (hb hby d7_264) rfl rfl ?_
  refine oIc 267 X59 hx (hb hby d7_266) 1 rfl rfl ?_
  refine oAdd 268 X59 hx (hb hby d7_267) 2 rfl rfl ?_
  refine oDa 269 X59 hx hZ e59 V_ff (.double 18442240474082181120) (hb hby d7_268) (by decide) rfl rfl ?_
  refine oAlN 270 X59 hx (hb hby d7_269) rfl rfl ?_
  refine oF 273 X59 hx hZ hown (host := "") (Or.inl (hw _ (own_m 12 rfl))) Via.refl e59 (F_score_ob.keep K_ nin_ob) (hb hby d7_270) rfl fun T61 X61 e61 => ?_
  clear X59 e59
  refine oIl 275 X61 hx (hb hby d7_273) rfl rfl ?_
  refine oDa 276 X61 hx hZ e61 (V_sa.keep K_ nin_sa) (.double (FP.l2d y1)) (hb hby d7_275) (by decide) rfl rfl ?_
  refine oAl 278 X61 hx (hb hby d7_276) rfl rfl ?_
  refine oIl 280 X61 hx (hb hby d7_278) rfl rfl ?_
  refine oIc 281 X61 hx (hb hby d7_280) 1 rfl rfl ?_
  refine oAdd 282 X61 hx (hb hby d7_281) 2 rfl rfl ?_
  refine oDa 283 X61 hx hZ e61 V_su (.double (FP.l2d ((0 + v0) + v1))) (hb hby d7_282) (by decide) rfl rfl ?_
  refine own_by (g' := (mkF m 284 (Ls36 ob ou sc sA zA su nu fu nf ff 1) [(.double (FP.l2d (y1 + ((0 + v0) + v1)))), (.double 18442240474082181120), (.int 1), (.ref ff)])) (fun t k => XS.daddS X61.here hx rfl (hb hby d7_283) rfl (nn_w (dadd_w (own_b53 b1) (own_b53 (own_badd (own_badd own_b0 bv0) bv1)))) (dadd_w (own_b53 b1) (own_b53 (own_badd (own_badd own_b0 bv0) bv1))) k) ?_
  obtain ⟨_, _, ⟨T64, L64, k64, n64⟩, -, X64, ⟨Lc64, hQ64, l64, y64, z64⟩, st64⟩ := Jvm.LawKit.callS X61 hx (y := (⟨"com/example/firebreak/firebreak/strategies/DoubleMax", "of", "(DD)D"⟩ : MethodName)) hown (mvT hZ (hw _ (own_m 96 rfl))) (mvT hZ (hw _ (own_m 97 rfl))) (mvT hZ (hw _ (own_m 98 rfl))) (mvT hZ (hw _ (own_m 99 rfl))) (by decide) (backOf (W := 2) (rm8l l Z a0 hw [] (y1 + ((0 + v0) + v1)) h59 n0 (Nat.le_trans Zle K_.1) ) hZ (hw _ (own_m 99 rfl)) (hw _ (own_m 98 rfl)) (by decide) (by decide)) (g := (mkF m 284 (Ls36 ob ou sc sA zA su nu fu nf ff 1) [(.double (FP.l2d (y1 + ((0 + v0) + v1)))), (.double 18442240474082181120), (.int 1), (.ref ff)])) rfl (by rw [hml]; rfl) (argsL := [(.double 18442240474082181120), (.double (FP.l2d (y1 + ((0 + v0) + v1))))]) (rest := [(.int 1), (.ref ff)]) (lenOf pd_2 rfl) rfl (own_le rfl) (hb hby d7_284) (fun _ _ => ⟨rfl, e61, (by decide : 0 + 0 ≤ _), (by decide : 0 + 0 ≤ _)⟩)
  dsimp only [Pt.U, Pt.locs, Pt.cells, Pt.slots] at X64 l64 y64 z64 st64 hQ64
  subst l64 y64 z64
  obtain ⟨rfl, Nq64, e64⟩ := hQ64
  replace N_ := Fr.app N_ Nq64
  clear Nq64
  refine own_by (T' := T64) (g' := (mkF m 287 (Ls36 ob ou sc sA zA su nu fu nf ff 1) [(.double (FP.l2d (y1 + ((0 + v0) + v1)))), (.int 1), (.ref ff)])) (fun t k => st64 _ k) ?_
  clear st64 X61 e61
  refine oDs 288 X64 hx hZ e64 V_ff 1 [(.double ff0), (.double (FP.l2d (y1 + ((0 + v0) + v1)))), (.double 18442240474082181120), (.double 18442240474082181120)] (hb hby d7_287) (by decide) rfl (Nat.le_of_ble_eq_true rfl) rfl rfl fun T65 h65 X65 e65 W65 V_ff_ => ?_
  replace V_ou := V_ou.other W65 (nd hnd 12 11)
  replace K_ := kW K_ W65 4 rfl
  replace V_su := V_su.other W65 (nd hnd 7 11)
  replace V_nu := V_nu.other W65 (nd hnd 8 11)
  replace V_fu := V_fu.other W65 (nd hnd 9 11)
  replace V_nf := V_nf.other W65 (nd hnd 10 11)
  replace V_ff := V_ff_
  clear V_ff_ W65
  replace N_ := Fr.snoc X65 N_ g_ff
  clear X64 e64
  refine oInc 291 X65 hx (hb hby d7_288) (Ls36 ob ou sc sA zA su nu fu nf ff 0) rfl rfl rfl ?_
  refine oGo 225 X65 hx (hb hby d7_291) (by decide) (by decide) ?_
  refine oIl 227 X65 hx (hb hby d7_225) rfl rfl ?_
  refine oFn 230 X65 hx (hb hby d7_227) ((if0 _ _).trans (flt (by decide)).1) rfl ?_
  refine oAl 232 X65 hx (hb hby d7_230) rfl rfl ?_
  refine oIl 234 X65 hx (hb hby d7_232) rfl rfl ?_
  refine oAl 236 X65 hx (hb hby d7_234) rfl rfl ?_
  refine oIl 238 X65 hx (hb hby d7_236) rfl rfl ?_
  refine oIc 239 X65 hx (hb hby d7_238) 1 rfl rfl ?_
  refine oAdd 240 X65 hx (hb hby d7_239) 1 rfl rfl ?_
  refine oDa 241 X65 hx hZ e65 V_nf (.double (FP.l2d (own_max (y2 + ((0 + v0) + v1)) (y1 + (0 + v0))))) (hb hby d7_240) (by decide) rfl rfl ?_
  refine oAlN 242 X65 hx (hb hby d7_241) rfl rfl ?_
  refine oF 245 X65 hx hZ hown (host := "") (Or.inl (hw _ (own_m 12 rfl))) Via.refl e65 (F_score_ob.keep K_ nin_ob) (hb hby d7_242) rfl fun T67 X67 e67 => ?_
  clear X65 e65
  refine oIl 247 X67 hx (hb hby d7_245) rfl rfl ?_
  refine oDa 248 X67 hx hZ e67 (V_sa.keep K_ nin_sa) (.double (FP.l2d y0)) (hb hby d7_247) (by decide) rfl rfl ?_
  refine oAl 250 X67 hx (hb hby d7_248) rfl rfl ?_
  refine oIl 252 X67 hx (hb hby d7_250) rfl rfl ?_
  refine oDa 253 X67 hx hZ e67 V_su (.double (FP.l2d 0)) (hb hby d7_252) (by decide) rfl rfl ?_
  refine own_by (g' := (mkF m 254 (Ls36 ob ou sc sA zA su nu fu nf ff 0) [(.double (FP.l2d (y0 + 0))), (.double (FP.l2d (own_max (y2 + ((0 + v0) + v1)) (y1 + (0 + v0))))), (.int 0), (.ref nf)])) (fun t k => XS.daddS X67.here hx rfl (hb hby d7_253) rfl (nn_w (dadd_w (own_b53 b0) (own_b53 own_b0))) (dadd_w (own_b53 b0) (own_b53 own_b0)) k) ?_
  obtain ⟨_, _, ⟨T70, L70, k70, n70⟩, -, X70, ⟨Lc70, hQ70, l70, y70, z70⟩, st70⟩ := Jvm.LawKit.callS X67 hx (y := (⟨"com/example/firebreak/firebreak/strategies/DoubleMax", "of", "(DD)D"⟩ : MethodName)) hown (mvT hZ (hw _ (own_m 96 rfl))) (mvT hZ (hw _ (own_m 97 rfl))) (mvT hZ (hw _ (own_m 98 rfl))) (mvT hZ (hw _ (own_m 99 rfl))) (by decide) (backOf (W := 2) (rm8f l Z a0 hw [] (own_max (y2 + ((0 + v0) + v1)) (y1 + (0 + v0))) (y0 + 0) h65 n0 (Nat.le_trans Zle K_.1) ((own_b53 (own_bmax (own_badd b2 (own_badd (own_badd own_b0 bv0) bv1)) (own_badd b1 (own_badd own_b0 bv0))))) ((own_b53 (own_badd b0 own_b0)))) hZ (hw _ (own_m 99 rfl)) (hw _ (own_m 98 rfl)) (by decide) (by decide)) (g := (mkF m 254 (Ls36 ob ou sc sA zA su nu fu nf ff 0) [(.double (FP.l2d (y0 + 0))), (.double (FP.l2d (own_max (y2 + ((0 + v0) + v1)) (y1 + (0 + v0))))), (.int 0), (.ref nf)])) rfl (by rw [hml]; rfl) (argsL := [(.double (FP.l2d (own_max (y2 + ((0 + v0) + v1)) (y1 + (0 + v0))))), (.double (FP.l2d (y0 + 0)))]) (rest := [(.int 0), (.ref nf)]) (lenOf pd_2 rfl) rfl (own_le rfl) (hb hby d7_254) (fun _ _ => ⟨rfl, e67, (by decide : 0 + 0 ≤ _), (by decide : 0 + 0 ≤ _)⟩)
  dsimp only [Pt.U, Pt.locs, Pt.cells, Pt.slots] at X70 l70 y70 z70 st70 hQ70
  subst l70 y70 z70
  obtain ⟨rfl, Nq70, e70⟩ := hQ70
  replace N_ := Fr.app N_ Nq70
  clear Nq70
  refine own_by (T' := T70) (g' := (mkF m 257 (Ls36 ob ou sc sA zA su nu fu nf ff 0) [(.double (FP.l2d (own_max (own_max (y2 + ((0 + v0) + v1)) (y1 + (0 + v0))) (y0 + 0)))), (.int 0), (.ref nf)])) (fun t k => st70 _ k) ?_
  clear st70 X67 e67
  refine oDs 258 X70 hx hZ e70 V_nf 0 [(.double (FP.l2d (own_max (own_max (y2 + ((0 + v0) + v1)) (y1 + (0 + v0))) (y0 + 0)))), (.double (FP.l2d (own_max (y2 + ((0 + v0) + v1)) (y1 + (0 + v0))))), (.double (FP.l2d (y2 + ((0 + v0) + v1)))), (.double 18442240474082181120)] (hb hby d7_257) (by decide) rfl (Nat.le_of_ble_eq_true rfl) rfl rfl fun T71 h71 X71 e71 W71 V_nf_ => ?_
  replace V_ou := V_ou.other W71 (nd hnd 12 10)
  replace K_ := kW K_ W71 3 rfl
  replace V_su := V_su.other W71 (nd hnd 7 10)
  replace V_nu := V_nu.other W71 (nd hnd 8 10)
  replace V_fu := V_fu.other W71 (nd hnd 9 10)
  replace V_ff := V_ff.other W71 (nd hnd 11 10)
  replace V_nf := V_nf_
  clear V_nf_ W71
  replace N_ := Fr.snoc X71 N_ g_nf
  clear X70 e70
  refine oAl 260 X71 hx (hb hby d7_258) rfl rfl ?_
  refine oIl 262 X71 hx (hb hby d7_260) rfl rfl ?_
  refine oAl 264 X71 hx (hb hby d7_262) rfl rfl ?_
  refine oIl 266 X71 hx (hb hby d7_264) rfl rfl ?_
  refine oIc 267 X71 hx (hb hby d7_266) 1 rfl rfl ?_
  refine oAdd 268 X71 hx (hb hby d7_267) 1 rfl rfl ?_
  refine oDa 269 X71 hx hZ e71 V_ff (.double (FP.l2d (y1 + ((0 + v0) + v1)))) (hb hby d7_268) (by decide) rfl rfl ?_
  refine oAlN 270 X71 hx (hb hby d7_269) rfl rfl ?_
  refine oF 273 X71 hx hZ hown (host := "") (Or.inl (hw _ (own_m 12 rfl))) Via.refl e71 (F_score_ob.keep K_ nin_ob) (hb hby d7_270) rfl fun T73 X73 e73 => ?_
  clear X71 e71
  refine oIl 275 X73 hx (hb hby d7_273) rfl rfl ?_
  refine oDa 276 X73 hx hZ e73 (V_sa.keep K_ nin_sa) (.double (FP.l2d y0)) (hb hby d7_275) (by decide) rfl rfl ?_
  refine oAl 278 X73 hx (hb hby d7_276) rfl rfl ?_
  refine oIl 280 X73 hx (hb hby d7_278) rfl rfl ?_
  refine oIc 281 X73 hx (hb hby d7_280) 1 rfl rfl ?_
  refine oAdd 282 X73 hx (hb hby d7_281) 1 rfl rfl ?_
  refine oDa 283 X73 hx hZ e73 V_su (.double (FP.l2d (0 + v0))) (hb hby d7_282) (by decide) rfl rfl ?_
  refine own_by (g' := (mkF m 284 (Ls36 ob ou sc sA zA su nu fu nf ff 0) [(.double (FP.l2d (y0 + (0 + v0)))), (.double (FP.l2d (y1 + ((0 + v0) + v1)))), (.int 0), (.ref ff)])) (fun t k => XS.daddS X73.here hx rfl (hb hby d7_283) rfl (nn_w (dadd_w (own_b53 b0) (own_b53 (own_badd own_b0 bv0)))) (dadd_w (own_b53 b0) (own_b53 (own_badd own_b0 bv0))) k) ?_
  obtain ⟨_, _, ⟨T76, L76, k76, n76⟩, -, X76, ⟨Lc76, hQ76, l76, y76, z76⟩, st76⟩ := Jvm.LawKit.callS X73 hx (y := (⟨"com/example/firebreak/firebreak/strategies/DoubleMax", "of", "(DD)D"⟩ : MethodName)) hown (mvT hZ (hw _ (own_m 96 rfl))) (mvT hZ (hw _ (own_m 97 rfl))) (mvT hZ (hw _ (own_m 98 rfl))) (mvT hZ (hw _ (own_m 99 rfl))) (by decide) (backOf (W := 2) (rm8f l Z a0 hw [] (y1 + ((0 + v0) + v1)) (y0 + (0 + v0)) h71 n0 (Nat.le_trans Zle K_.1) ((own_b53 (own_badd b1 (own_badd (own_badd own_b0 bv0) bv1)))) ((own_b53 (own_badd b0 (own_badd own_b0 bv0))))) hZ (hw _ (own_m 99 rfl)) (hw _ (own_m 98 rfl)) (by decide) (by decide)) (g := (mkF m 284 (Ls36 ob ou sc sA zA su nu fu nf ff 0) [(.double (FP.l2d (y0 + (0 + v0)))), (.double (FP.l2d (y1 + ((0 + v0) + v1)))), (.int 0), (.ref ff)])) rfl (by rw [hml]; rfl) (argsL := [(.double (FP.l2d (y1 + ((0 + v0) + v1)))), (.double (FP.l2d (y0 + (0 + v0))))]) (rest := [(.int 0), (.ref ff)]) (lenOf pd_2 rfl) rfl (own_le rfl) (hb hby d7_284) (fun _ _ => ⟨rfl, e73, (by decide : 0 + 0 ≤ _), (by decide : 0 + 0 ≤ _)⟩)
  dsimp only [Pt.U, Pt.locs, Pt.cells, Pt.slots] at X76 l76 y76 z76 st76 hQ76
  subst l76 y76 z76
  obtain ⟨rfl, Nq76, e76⟩ := hQ76
  replace N_ := Fr.app N_ Nq76
  clear Nq76
  refine own_by (T' := T76) (g' := (mkF m 287 (Ls36 ob ou sc sA zA su nu fu nf ff 0) [(.double (FP.l2d (own_max (y1 + ((0 + v0) + v1)) (y0 + (0 + v0))))), (.int 0), (.ref ff)])) (fun t k => st76 _ k) ?_
  clear st76 X73 e73
  refine oDs 288 X76 hx hZ e76 V_ff 0 [(.double (FP.l2d (own_max (y1 + ((0 + v0) + v1)) (y0 + (0 + v0))))), (.double (FP.l2d (y1 + ((0 + v0) + v1)))), (.double 18442240474082181120), (.double 18442240474082181120)] (hb hby d7_287) (by decide) rfl (Nat.le_of_ble_eq_true rfl) rfl rfl fun T77 h77 X77 e77 W77 V_ff_ => ?_
  replace V_ou := V_ou.other W77 (nd hnd 12 11)
  replace K_ := kW K_ W77 4 rfl
  replace V_su := V_su.other W77 (nd hnd 7 11)
  replace V_nu := V_nu.other W77 (nd hnd 8 11)
  replace V_fu := V_fu.other W77 (nd hnd 9 11)
  replace V_nf := V_nf.other W77 (nd hnd 10 11)
  replace V_ff := V_ff_
  clear V_ff_ W77
  replace N_ := Fr.snoc X77 N_ g_ff
  clear X76 e76
  refine oInc 291 X77 hx (hb hby d7_288) (Ls36 ob ou sc sA zA su nu fu nf ff (-1)) rfl rfl rfl ?_
  refine oGo 225 X77 hx (hb hby d7_291) (by decide) (by decide) ?_
  refine oIl 227 X77 hx (hb hby d7_225) rfl rfl ?_
  refine oFy 294 X77 hx (hb hby d7_227) ((if0 _ _).trans (tlt (by decide)).1) (by decide) (by decide) ?_
  rcases id hcase with ⟨⟨ha, hb_⟩ | ⟨ha, hb_⟩, ⟨hc_, hd_⟩ | ⟨hc_, hd_, hv⟩⟩
  · rw [ha, hb_] at V_oA
    rw [hc_, hd_] at V_zA
    exact own_ans01n l Z a0 hw hx hby hml hlk hret ob ou sc pp qq z0 z1 ma sA zA oA sa su nu fu nf ff ksA kzA koA ksa ksu knu kfu knf kff kou y0 y1 y2 v0 v1 su1 su2 nu0 nu1 nu2 fu0 fu1 fu2 nf0 nf1 nf2 nf3 ff0 ff1 ff2 ff3 ou0 ou1 h0 n0 hnd b0 b1 b2 bv0 bv1 hcase  hZ hown (X77) e77 F_messages_ob F_n_ob F_score_ob V_sa F_sorted_ma F_tieSize_ma F_order_ma V_sA V_zA V_oA F_sums_sc F_onUpTo_sc F_offUpTo_sc F_onFrom_sc F_offFrom_sc V_ou g_su g_nu g_fu g_nf g_ff g_ou Zle N_ K_ nin_ob nin_sa nin_ma nin_sA nin_zA nin_oA nin_sc V_su V_nu V_fu V_nf V_ff ha
  · rw [ha, hb_] at V_oA
    rw [hc_, hd_] at V_zA
    exact own_ans01t l Z a0 hw hx hby hml hlk hret ob ou sc pp qq z0 z1 ma sA zA oA sa su nu fu nf ff ksA kzA koA ksa ksu knu kfu knf kff kou y0 y1 y2 v0 v1 su1 su2 nu0 nu1 nu2 fu0 fu1 fu2 nf0 nf1 nf2 nf3 ff0 ff1 ff2 ff3 ou0 ou1 h0 n0 hnd b0 b1 b2 bv0 bv1 hcase  hZ hown (X77) e77 F_messages_ob F_n_ob F_score_ob V_sa F_sorted_ma F_tieSize_ma F_order_ma V_sA V_zA V_oA F_sums_sc F_onUpTo_sc F_offUpTo_sc F_onFrom_sc F_offFrom_sc V_ou g_su g_nu g_fu g_nf g_ff g_ou Zle N_ K_ nin_ob nin_sa nin_ma nin_sA nin_zA nin_oA nin_sc V_su V_nu V_fu V_nf V_ff ha hv
  · rw [ha, hb_] at V_oA
    rw [hc_, hd_] at V_zA
    exact own_ans10n l Z a0 hw hx hby hml hlk hret ob ou sc pp qq z0 z1 ma sA zA oA sa su nu fu nf ff ksA kzA koA ksa ksu knu kfu knf kff kou y0 y1 y2 v0 v1 su1 su2 nu0 nu1 nu2 fu0 fu1 fu2 nf0 nf1 nf2 nf3 ff0 ff1 ff2 ff3 ou0 ou1 h0 n0 hnd b0 b1 b2 bv0 bv1 hcase  hZ hown (X77) e77 F_messages_ob F_n_ob F_score_ob V_sa F_sorted_ma F_tieSize_ma F_order_ma V_sA V_zA V_oA F_sums_sc F_onUpTo_sc F_offUpTo_sc F_onFrom_sc F_offFrom_sc V_ou g_su g_nu g_fu g_nf g_ff g_ou Zle N_ K_ nin_ob nin_sa nin_ma nin_sA nin_zA nin_oA nin_sc V_su V_nu V_fu V_nf V_ff ha
  · rw [ha, hb_] at V_oA
    rw [hc_, hd_] at V_zA
    exact own_ans10t l Z a0 hw hx hby hml hlk hret ob ou sc pp qq z0 z1 ma sA zA oA sa su nu fu nf ff ksA kzA koA ksa ksu knu kfu knf kff kou y0 y1 y2 v0 v1 su1 su2 nu0 nu1 nu2 fu0 fu1 fu2 nf0 nf1 nf2 nf3 ff0 ff1 ff2 ff3 ou0 ou1 h0 n0 hnd b0 b1 b2 bv0 bv1 hcase  hZ hown (X77) e77 F_messages_ob F_n_ob F_score_ob V_sa F_sorted_ma F_tieSize_ma F_order_ma V_sA V_zA V_oA F_sums_sc F_onUpTo_sc F_offUpTo_sc F_onFrom_sc F_offFrom_sc V_ou g_su g_nu g_fu g_nf g_ff g_ou Zle N_ K_ nin_ob nin_sa nin_ma nin_sA nin_zA nin_oA nin_sc V_su V_nu V_fu V_nf V_ff ha hv
set_option maxRecDepth 65536 in
set_option maxHeartbeats 40000000 in
theorem own_a159 (l : Launch) (Z : State) (a0 : Array Value) (hw : ∀ d ∈ tables_1, d.before a0 Z = true) {p : Program} {e : Env} {s : State} {m : MethodId} {below : List Frame} {meth : Method} {c : Code} (hx : p.tables.exec = Jvm.exec) (hby : c.code = prog_42_method_5_code) (hml : c.maxLocals = 18) (hlk : meth.locks = false) (hret : meth.sig.returnType = none) (ob : Addr) (ou : Addr) (sc : Addr) (pp : Int32) (qq : Int32) (z0 : Int32) (z1 : Int32) (ma : Addr) (sA : Addr) (zA : Addr) (oA : Addr) (sa : Addr) (su : Addr) (nu : Addr) (fu : Addr) (nf : Addr) (ff : Addr) (ksA : ClassId) (kzA : ClassId) (koA : ClassId) (ksa : ClassId) (ksu : ClassId) (knu : ClassId) (kfu : ClassId) (knf : ClassId) (kff : ClassId) (kou : ClassId) (y0 : Int64) (y1 : Int64) (y2 : Int64) (v0 : Int64) (v1 : Int64) (su1 : UInt64) (su2 : UInt64) (nu0 : UInt64) (nu1 : UInt64) (nu2 : UInt64) (fu0 : UInt64) (fu1 : UInt64) (fu2 : UInt64) (nf0 : UInt64) (nf1 : UInt64) (nf2 : UInt64) (nf3 : UInt64) (ff0 : UInt64) (ff1 : UInt64) (ff2 : UInt64) (ff3 : UInt64) (ou0 : UInt64) (ou1 : UInt64) (h0 : Heap) (n0 : Nat) (hnd : ([ob, ma, sA, zA, oA, sa, sc, su, nu, fu, nf, ff, ou] : List Addr).Nodup) (b0 : own_bd 128 y0) (b1 : own_bd 128 y1) (b2 : own_bd 128 y2) (bv0 : own_bd 63 v0) (bv1 : own_bd 63 v1) (hcase : own_case pp qq z0 z1 v0 v1) {Tj : State} {hj : Heap} {locsj : List Loc}
    (hZ : Z.Warmed39 s.vm) (hown : s.vm.findClass "com/example/firebreak/firebreak/strategies/CountFactor" = some m.cls) (Xj : Stand p l e ({ frames := 1, cells := 0, slots := 0, locals := 40 } : Room) s m #[(.ref ob), (.ref ou), (.ref sc)] below meth c Tj locsj 0 0) (ej : Tj.heap = hj)
    (F_messages_ob : Fld Z h0 ob "com/example/firebreak/firebreak/strategies/CountFactor" "messages" "Lcom/example/firebreak/firebreak/strategies/CountFactor$Messages;" (.ref ma)) (F_n_ob : Fld Z h0 ob "com/example/firebreak/firebreak/strategies/CountFactor" "n" "I" (.int 2)) (F_score_ob : Fld Z h0 ob "com/example/firebreak/firebreak/strategies/CountFactor" "score" "[D" (.ref sa)) (V_sa : Arv Z h0 sa ksa .double (3 : Int32) [(.double (FP.l2d y0)), (.double (FP.l2d y1)), (.double (FP.l2d y2))] (.double (FP.l2d 0))) (F_sorted_ma : Fld Z h0 ma "com/example/firebreak/firebreak/strategies/CountFactor$Messages" "sorted" "[D" (.ref sA)) (F_tieSize_ma : Fld Z h0 ma "com/example/firebreak/firebreak/strategies/CountFactor$Messages" "tieSize" "[I" (.ref zA)) (F_order_ma : Fld Z h0 ma "com/example/firebreak/firebreak/strategies/CountFactor$Messages" "order" "[I" (.ref oA)) (V_sA : Arv Z h0 sA ksA .double (2 : Int32) [(.double (FP.l2d v0)), (.double (FP.l2d v1))] (.double (FP.l2d 0))) (V_zA : Arv Z h0 zA kzA .int (2 : Int32) [(.int z0), (.int z1)] (.int 0)) (V_oA : Arv Z h0 oA koA .int (2 : Int32) [(.int pp), (.int qq)] (.int 0)) (F_sums_sc : Fld Z h0 sc "com/example/firebreak/firebreak/strategies/CountFactor$Scratch" "sums" "[D" (.ref su)) (F_onUpTo_sc : Fld Z h0 sc "com/example/firebreak/firebreak/strategies/CountFactor$Scratch" "onUpTo" "[D" (.ref nu)) (F_offUpTo_sc : Fld Z h0 sc "com/example/firebreak/firebreak/strategies/CountFactor$Scratch" "offUpTo" "[D" (.ref fu)) (F_onFrom_sc : Fld Z h0 sc "com/example/firebreak/firebreak/strategies/CountFactor$Scratch" "onFrom" "[D" (.ref nf)) (F_offFrom_sc : Fld Z h0 sc "com/example/firebreak/firebreak/strategies/CountFactor$Scratch" "offFrom" "[D" (.ref ff)) (V_nf : Arv Z hj nf knf .double (4 : Int32) [(.double nf0), (.double nf1), (.double nf2), (.double nf3)] (.double (FP.l2d 0))) (V_ff : Arv Z hj ff kff .double (4 : Int32) [(.double ff0), (.double ff1), (.double ff2), (.double ff3)] (.double (FP.l2d 0))) (V_ou : Arv Z hj ou kou .double (2 : Int32) [(.double ou0), (.double ou1)] (.double (FP.l2d 0))) (g_su : n0 ≤ su) (g_nu : n0 ≤ nu) (g_fu : n0 ≤ fu) (g_nf : n0 ≤ nf) (g_ff : n0 ≤ ff) (g_ou : n0 ≤ ou) (Zle : n0 ≤ h0.size) (N_ : Fr n0 locsj) (K_ : Keep h0 hj [su, nu, fu, nf, ff, ou]) (nin_ob : ob ∉ [su, nu, fu, nf, ff, ou]) (nin_sa : sa ∉ [su, nu, fu, nf, ff, ou]) (nin_ma : ma ∉ [su, nu, fu, nf, ff, ou]) (nin_sA : sA ∉ [su, nu, fu, nf, ff, ou]) (nin_zA : zA ∉ [su, nu, fu, nf, ff, ou]) (nin_oA : oA ∉ [su, nu, fu, nf, ff, ou]) (nin_sc : sc ∉ [su, nu, fu, nf, ff, ou]) (V_su : Arv Z hj su ksu .double (3 : Int32) [(.double (FP.l2d 0)), (.double (FP.l2d (0 + v0))), (.double (FP.l2d ((0 + v0) + v1)))] (.double (FP.l2d 0))) (V_nu : Arv Z hj nu knu .double (3 : Int32) [(.double 18442240474082181120), (.double (FP.l2d (y1 + 0))), (.double (FP.l2d (own_max (y1 + 0) (y2 + (0 + v0)))))] (.double (FP.l2d 0))) (V_fu : Arv Z hj fu kfu .double (3 : Int32) [(.double (FP.l2d y0)), (.double (FP.l2d (own_max y0 (y1 + (0 + v0))))), (.double (FP.l2d (own_max (own_max y0 (y1 + (0 + v0))) (y2 + ((0 + v0) + v1)))))] (.double (FP.l2d 0))) : own_Goes p.tables e below s (Q7 Z ob ou sc pp qq z0 z1 ma sA zA oA sa su nu fu nf ff ksA kzA koA ksa ksu knu kfu knf kff kou y0 y1 y2 v0 v1 su1 su2 nu0 nu1 nu2 fu0 fu1 fu2 nf0 nf1 nf2 nf3 ff0 ff1 ff2 ff3 ou0 ou1 h0 n0) ({ frames := 1, cells := 0, slots := 0, locals := 40 } : Room).cells ({ frames := 1, cells := 0, slots := 0, locals := 40 } : Room).slots Tj (mkF m 159 (Ls36 ob ou sc sA zA su nu fu nf ff 3) []) := by
  refine oAl 161 Xj hx (hb hby d7_159) rfl rfl ?_
  refine oAlN 162 Xj hx (hb hby d7_161) rfl rfl ?_
  refine oF 165 Xj hx hZ hown (host := "") (Or.inl (hw _ (own_m 10 rfl))) Via.refl ej (F_n_ob.keep K_ nin_ob) (hb hby d7_162) rfl fun T40 X40 e40 => ?_
  refine oIc 166 X40 hx (hb hby d7_165) 1 rfl rfl ?_
  refine oAdd 167 X40 hx (hb hby d7_166) 3 rfl rfl ?_
  refine own_by (T' := T40) (g' := (mkF m 170 (Ls36 ob ou sc sA zA su nu fu nf ff 3) [(.double 18442240474082181120), (.int 3), (.ref nf)])) (fun t k => X40.ldc2DoubleC hx hown (mvT hZ (hw _ (own_m 95 rfl))) (g := (mkF m 167 (Ls36 ob ou sc sA zA su nu fu nf ff 3) [(.int 3), (.ref nf)])) rfl (hb hby d7_167) _ k) ?_
  refine oDs 171 X40 hx hZ e40 V_nf 3 [(.double nf0), (.double nf1), (.double nf2), (.double 18442240474082181120)] (hb hby d7_170) (by decide) rfl (Nat.le_of_ble_eq_true rfl) rfl rfl fun T41 h41 X41 e41 W41 V_nf_ => ?_
  replace V_ff := V_ff.other W41 (nd hnd 11 10)
  replace V_ou := V_ou.other W41 (nd hnd 12 10)
  replace K_ := kW K_ W41 3 rfl
  replace V_su := V_su.other W41 (nd hnd 7 10)
  replace V_nu := V_nu.other W41 (nd hnd 8 10)
  replace V_fu := V_fu.other W41 (nd hnd 9 10)
  replace V_nf := V_nf_
  clear V_nf_ W41
  replace N_ := Fr.snoc X41 N_ g_nf
  clear X40 e40
  refine oAl 173 X41 hx (hb hby d7_171) rfl rfl ?_
  refine oAlN 174 X41 hx (hb hby d7_173) rfl rfl ?_
  refine oF 177 X41 hx hZ hown (host := "") (Or.inl (hw _ (own_m 10 rfl))) Via.refl e41 (F_n_ob.keep K_ nin_ob) (hb hby d7_174) rfl fun T42 X42 e42 => ?_
  clear X41 e41
  refine oIc 178 X42 hx (hb hby d7_177) 1 rfl rfl ?_
  refine oAdd 179 X42 hx (hb hby d7_178) 3 rfl rfl ?_
  refine own_by (T' := T42) (g' := (mkF m 182 (Ls36 ob ou sc sA zA su nu fu nf ff 3) [(.double 18442240474082181120), (.int 3), (.ref ff)])) (fun t k => X42.ldc2DoubleC hx hown (mvT hZ (hw _ (own_m 95 rfl))) (g := (mkF m 179 (Ls36 ob ou sc sA zA su nu fu nf ff 3) [(.int 3), (.ref ff)])) rfl (hb hby d7_179) _ k) ?_
  refine oDs 183 X42 hx hZ e42 V_ff 3 [(.double ff0), (.double ff1), (.double ff2), (.double 18442240474082181120)] (hb hby d7_182) (by decide) rfl (Nat.le_of_ble_eq_true rfl) rfl rfl fun T43 h43 X43 e43 W43 V_ff_ => ?_
  replace V_ou := V_ou.other W43 (nd hnd 12 11)
  replace K_ := kW K_ W43 4 rfl
  replace V_su := V_su.other W43 (nd hnd 7 11)
  replace V_nu := V_nu.other W43 (nd hnd 8 11)
  replace V_fu := V_fu.other W43 (nd hnd 9 11)
  replace V_nf := V_nf.other W43 (nd hnd 10 11)
  replace V_ff := V_ff_
  clear V_ff_ W43
  replace N_ := Fr.snoc X43 N_ g_ff
  clear X42 e42
  refine oAl 185 X43 hx (hb hby d7_183) rfl rfl ?_
  refine oAlN 186 X43 hx (hb hby d7_185) rfl rfl ?_
  refine oF 189 X43 hx hZ hown (host := "") (Or.inl (hw _ (own_m 10 rfl))) Via.refl e43 (F_n_ob.keep K_ nin_ob) (hb hby d7_186) rfl fun T44 X44 e44 => ?_
  clear X43 e43
  refine oAlN 190 X44 hx (hb hby d7_189) rfl rfl ?_
  refine oF 193 X44 hx hZ hown (host := "") (Or.inl (hw _ (own_m 12 rfl))) Via.refl e44 (F_score_ob.keep K_ nin_ob) (hb hby d7_190) rfl fun T45 X45 e45 => ?_
  clear X44 e44
  refine oAlN 194 X45 hx (hb hby d7_193) rfl rfl ?_
  refine oF 197 X45 hx hZ hown (host := "") (Or.inl (hw _ (own_m 10 rfl))) Via.refl e45 (F_n_ob.keep K_ nin_ob) (hb hby d7_194) rfl fun T46 X46 e46 => ?_
  clear X45 e45
  refine oDa 198 X46 hx hZ e46 (V_sa.keep K_ nin_sa) (.double (FP.l2d y2)) (hb hby d7_197) (by decide) rfl rfl ?_
  refine oAl 200 X46 hx (hb hby d7_198) rfl rfl ?_
  refine oAlN 201 X46 hx (hb hby d7_200) rfl rfl ?_
  refine oF 204 X46 hx hZ hown (host := "") (Or.inl (hw _ (own_m 10 rfl))) Via.refl e46 (F_n_ob.keep K_ nin_ob) (hb hby d7_201) rfl fun T48 X48 e48 => ?_
  clear X46 e46
  refine oDa 205 X48 hx hZ e48 V_su (.double (FP.l2d ((0 + v0) + v1))) (hb hby d7_204) (by decide) rfl rfl ?_
  refine own_by (g' := (mkF m 206 (Ls36 ob ou sc sA zA su nu fu nf ff 3) [(.double (FP.l2d (y2 + ((0 + v0) + v1)))), (.int 2), (.ref nf)])) (fun t k => XS.daddS X48.here hx rfl (hb hby d7_205) rfl (nn_w (dadd_w (own_b53 b2) (own_b53 (own_badd (own_badd own_b0 bv0) bv1)))) (dadd_w (own_b53 b2) (own_b53 (own_badd (own_badd own_b0 bv0) bv1))) k) ?_
  refine oDs 207 X48 hx hZ e48 V_nf 2 [(.double nf0), (.double nf1), (.double (FP.l2d (y2 + ((0 + v0) + v1)))), (.double 18442240474082181120)] (hb hby d7_206) (by decide) rfl (Nat.le_of_ble_eq_true rfl) rfl rfl fun T50 h50 X50 e50 W50 V_nf_ => ?_
  replace V_ou := V_ou.other W50 (nd hnd 12 10)
  replace K_ := kW K_ W50 3 rfl
  replace V_su := V_su.other W50 (nd hnd 7 10)
  replace V_nu := V_nu.other W50 (nd hnd 8 10)
  replace V_fu := V_fu.other W50 (nd hnd 9 10)
  replace V_ff := V_ff.other W50 (nd hnd 11 10)
  replace V_nf := V_nf_
  clear V_nf_ W50
  replace N_ := Fr.snoc X50 N_ g_nf
  clear X48 e48
  refine oAl 209 X50 hx (hb hby d7_207) rfl rfl ?_
  refine oAlN 210 X50 hx (hb hby d7_209) rfl rfl ?_
  refine oF 213 X50 hx hZ hown (host := "") (Or.inl (hw _ (own_m 10 rfl))) Via.refl e50 (F_n_ob.keep K_ nin_ob) (hb hby d7_210) rfl fun T51 X51 e51 => ?_
  clear X50 e50
  refine own_by (T' := T51) (g' := (mkF m 216 (Ls36 ob ou sc sA zA su nu fu nf ff 3) [(.double 18442240474082181120), (.int 2), (.ref ff)])) (fun t k => X51.ldc2DoubleC hx hown (mvT hZ (hw _ (own_m 95 rfl))) (g := (mkF m 213 (Ls36 ob ou sc sA zA su nu fu nf ff 3) [(.int 2), (.ref ff)])) rfl (hb hby d7_213) _ k) ?_
  refine oDs 217 X51 hx hZ e51 V_ff 2 [(.double ff0), (.double ff1), (.double 18442240474082181120), (.double 18442240474082181120)] (hb hby d7_216) (by decide) rfl (Nat.le_of_ble_eq_true rfl) rfl rfl fun T52 h52 X52 e52 W52 V_ff_ => ?_
  replace V_ou := V_ou.other W52 (nd hnd 12 11)
  replace K_ := kW K_ W52 4 rfl
  replace V_su := V_su.other W52 (nd hnd 7 11)
  replace V_nu := V_nu.other W52 (nd hnd 8 11)
  replace V_fu := V_fu.other W52 (nd hnd 9 11)
  replace V_nf := V_nf.other W52 (nd hnd 10 11)
  replace V_ff := V_ff_
  clear V_ff_ W52
  replace N_ := Fr.snoc X52 N_ g_ff
  clear X51 e51
  exact own_a217 l Z a0 hw hx hby hml hlk hret ob ou sc pp qq z0 z1 ma sA zA oA sa su nu fu nf ff ksA kzA koA ksa ksu knu kfu knf kff kou y0 y1 y2 v0 v1 su1 su2 nu0 nu1 nu2 fu0 fu1 fu2 nf0 nf1 nf2 nf3 ff0 ff1 ff2 ff3 ou0 ou1 h0 n0 hnd b0 b1 b2 bv0 bv1 hcase  hZ hown (X52) e52 F_messages_ob F_n_ob F_score_ob V_sa F_sorted_ma F_tieSize_ma F_order_ma V_sA V_zA V_oA F_sums_sc F_onUpTo_sc F_offUpTo_sc F_onFrom_sc F_offFrom_sc V_ou g_su g_nu g_fu g_nf g_ff g_ou Zle N_ K_ nin_ob nin_sa nin_ma nin_sA nin_zA nin_oA nin_sc V_su V_nu V_fu V_nf V_ff 
set_option maxRecDepth 65536 in
set_option maxHeartbeats 40000000 in
theorem rm7 (l : Launch) (Z : State) (a0 : Array Value) (hw : ∀ d ∈ tables_1, d.before a0 Z = true) (ws : List Jvm.Cond) (ob : Addr) (ou : Addr) (sc : Addr) (pp : Int32) (qq : Int32) (z0 : Int32) (z1 : Int32) (ma : Addr) (sA : Addr) (zA : Addr) (oA : Addr) (sa : Addr) (su : Addr) (nu : Addr) (fu : Addr) (nf : Addr) (ff : Addr) (ksA : ClassId) (kzA : ClassId) (koA : ClassId) (ksa : ClassId) (ksu : ClassId) (knu : ClassId) (kfu : ClassId) (knf : ClassId) (kff : ClassId) (kou : ClassId) (y0 : Int64) (y1 : Int64) (y2 : Int64) (v0 : Int64) (v1 : Int64) (su1 : UInt64) (su2 : UInt64) (nu0 : UInt64) (nu1 : UInt64) (nu2 : UInt64) (fu0 : UInt64) (fu1 : UInt64) (fu2 : UInt64) (nf0 : UInt64) (nf1 : UInt64) (nf2 : UInt64) (nf3 : UInt64) (ff0 : UInt64) (ff1 : UInt64) (ff2 : UInt64) (ff3 : UInt64) (ou0 : UInt64) (ou1 : UInt64) (h0 : Heap) (n0 : Nat) (Zle : n0 ≤ h0.size) (F_messages_ob : Fld Z h0 ob "com/example/firebreak/firebreak/strategies/CountFactor" "messages" "Lcom/example/firebreak/firebreak/strategies/CountFactor$Messages;" (.ref ma)) (F_n_ob : Fld Z h0 ob "com/example/firebreak/firebreak/strategies/CountFactor" "n" "I" (.int 2)) (F_score_ob : Fld Z h0 ob "com/example/firebreak/firebreak/strategies/CountFactor" "score" "[D" (.ref sa)) (V_sa : Arv Z h0 sa ksa .double (3 : Int32) [(.double (FP.l2d y0)), (.double (FP.l2d y1)), (.double (FP.l2d y2))] (.double (FP.l2d 0))) (F_sorted_ma : Fld Z h0 ma "com/example/firebreak/firebreak/strategies/CountFactor$Messages" "sorted" "[D" (.ref sA)) (F_tieSize_ma : Fld Z h0 ma "com/example/firebreak/firebreak/strategies/CountFactor$Messages" "tieSize" "[I" (.ref zA)) (F_order_ma : Fld Z h0 ma "com/example/firebreak/firebreak/strategies/CountFactor$Messages" "order" "[I" (.ref oA)) (V_sA : Arv Z h0 sA ksA .double (2 : Int32) [(.double (FP.l2d v0)), (.double (FP.l2d v1))] (.double (FP.l2d 0))) (V_zA : Arv Z h0 zA kzA .int (2 : Int32) [(.int z0), (.int z1)] (.int 0)) (V_oA : Arv Z h0 oA koA .int (2 : Int32) [(.int pp), (.int qq)] (.int 0)) (F_sums_sc : Fld Z h0 sc "com/example/firebreak/firebreak/strategies/CountFactor$Scratch" "sums" "[D" (.ref su)) (F_onUpTo_sc : Fld Z h0 sc "com/example/firebreak/firebreak/strategies/CountFactor$Scratch" "onUpTo" "[D" (.ref nu)) (F_offUpTo_sc : Fld Z h0 sc "com/example/firebreak/firebreak/strategies/CountFactor$Scratch" "offUpTo" "[D" (.ref fu)) (F_onFrom_sc : Fld Z h0 sc "com/example/firebreak/firebreak/strategies/CountFactor$Scratch" "onFrom" "[D" (.ref nf)) (F_offFrom_sc : Fld Z h0 sc "com/example/firebreak/firebreak/strategies/CountFactor$Scratch" "offFrom" "[D" (.ref ff)) (V_su : Arv Z h0 su ksu .double (3 : Int32) [(.double (FP.l2d 0)), (.double su1), (.double su2)] (.double (FP.l2d 0))) (V_nu : Arv Z h0 nu knu .double (3 : Int32) [(.double nu0), (.double nu1), (.double nu2)] (.double (FP.l2d 0))) (V_fu : Arv Z h0 fu kfu .double (3 : Int32) [(.double fu0), (.double fu1), (.double fu2)] (.double (FP.l2d 0))) (V_nf : Arv Z h0 nf knf .double (4 : Int32) [(.double nf0), (.double nf1), (.double nf2), (.double nf3)] (.double (FP.l2d 0))) (V_ff : Arv Z h0 ff kff .double (4 : Int32) [(.double ff0), (.double ff1), (.double ff2), (.double ff3)] (.double (FP.l2d 0))) (V_ou : Arv Z h0 ou kou .double (2 : Int32) [(.double ou0), (.double ou1)] (.double (FP.l2d 0))) (g_su : n0 ≤ su) (g_nu : n0 ≤ nu) (g_fu : n0 ≤ fu) (g_nf : n0 ≤ nf) (g_ff : n0 ≤ ff) (g_ou : n0 ≤ ou) (hnd : ([ob, ma, sA, zA, oA, sa, sc, su, nu, fu, nf, ff, ou] : List Addr).Nodup) (b0 : own_bd 128 y0) (b1 : own_bd 128 y1) (b2 : own_bd 128 y2) (bv0 : own_bd 63 v0) (bv1 : own_bd 63 v1) (hcase : own_case pp qq z0 z1 v0 v1) :
    MetFree l (⟨"com/example/firebreak/firebreak/strategies/CountFactor", "answerAll", "([DLcom/example/firebreak/firebreak/strategies/CountFactor$Scratch;)V"⟩ : MethodName) (head1 (Jvm.Cond.code (⟨"com/example/firebreak/firebreak/strategies/CountFactor", "answerAll", "([DLcom/example/firebreak/firebreak/strategies/CountFactor$Scratch;)V"⟩ : MethodName) prog_42_method_5_code 18 none :: ws) ({ frames := 1, cells := 0, slots := 0, locals := 40 } : Room)) (fun a U => a = #[(.ref ob), (.ref ou), (.ref sc)] ∧ Z.Warmed39 U.vm ∧ U.heap = h0) (fun _ _ _ _ _ => True) (fun _ U o U' => ∃ v L, o = .returned v ∧ Q7 Z ob ou sc pp qq z0 z1 ma sA zA oA sa su nu fu nf ff ksA kzA koA ksa ksu knu kfu knf kff kou y0 y1 y2 v0 v1 su1 su2 nu0 nu1 nu2 fu0 fu1 fu2 nf0 nf1 nf2 nf3 ff0 ff1 ff2 ff3 ou0 ou1 h0 n0 v U'.heap L ∧ FrameEnd U o U' L ({ frames := 1, cells := 0, slots := 0, locals := 40 } : Room).cells ({ frames := 1, cells := 0, slots := 0, locals := 40 } : Room).slots) := by
  refine MetFree.of_bodySF (plainFor_of_name pn_com_example_firebreak_firebreak_strategies_CountFactor) hisR ?_
  intro p e s m args below meth c s₁ Bd hml0 hP hK
  obtain ⟨rfl, hZ, hh⟩ := hP
  have hx := Bd.exec
  have hby := Bd.bytes
  have hml : c.maxLocals = 18 := hml0
  have hown : s.vm.findClass "com/example/firebreak/firebreak/strategies/CountFactor" = some m.cls := findClass_of_methodNamed Bd.named
  have hnm := (name_of_methodNamed Bd.named Bd.method).1
  have X0 : Stand p l e ({ frames := 1, cells := 0, slots := 0, locals := 40 } : Room) s m #[(.ref ob), (.ref ou), (.ref sc)] below meth c s₁ [] 0 0 := Stand.of_body Bd
  have e0 : s₁.heap = h0 := by rw [← hh, Bd.state]; rfl
  have N_ := Fr.nil n0
  have K_ := Keep.refl h0 [su, nu, fu, nf, ff, ou]
  show own_Goes p.tables e below s (Q7 Z ob ou sc pp qq z0 z1 ma sA zA oA sa su nu fu nf ff ksA kzA koA ksa ksu knu kfu knf kff kou y0 y1 y2 v0 v1 su1 su2 nu0 nu1 nu2 fu0 fu1 fu2 nf0 nf1 nf2 nf3 ff0 ff1 ff2 ff3 ou0 ou1 h0 n0) ({ frames := 1, cells := 0, slots := 0, locals := 40 } : Room).cells ({ frames := 1, cells := 0, slots := 0, locals := 40 } : Room).slots s₁ (entryFrame m #[(.ref ob), (.ref ou), (.ref sc)] 18)
  refine own_by (T' := s₁) (g' := (mkF m 0 (Ls28 ob ou sc) [])) (fun t k => castTop (ef_7 m ob ou sc) k) ?_
  have nin_ob : ob ∉ [su, nu, fu, nf, ff, ou] := (nn hnd 0 [7, 8, 9, 10, 11, 12])
  have nin_sa : sa ∉ [su, nu, fu, nf, ff, ou] := (nn hnd 5 [7, 8, 9, 10, 11, 12])
  have nin_ma : ma ∉ [su, nu, fu, nf, ff, ou] := (nn hnd 1 [7, 8, 9, 10, 11, 12])
  have nin_sA : sA ∉ [su, nu, fu, nf, ff, ou] := (nn hnd 2 [7, 8, 9, 10, 11, 12])
  have nin_zA : zA ∉ [su, nu, fu, nf, ff, ou] := (nn hnd 3 [7, 8, 9, 10, 11, 12])
  have nin_oA : oA ∉ [su, nu, fu, nf, ff, ou] := (nn hnd 4 [7, 8, 9, 10, 11, 12])
  have nin_sc : sc ∉ [su, nu, fu, nf, ff, ou] := (nn hnd 6 [7, 8, 9, 10, 11, 12])
  refine oAlN 1 X0 hx (hb hby d7_0) rfl rfl ?_
  refine oF 4 X0 hx hZ hown (host := "") (Or.inl (hw _ (own_m 38 rfl))) Via.refl e0 (F_messages_ob.keep K_ nin_ob) (hb hby d7_1) rfl fun T1 X1 e1 => ?_
  clear X0 e0
  refine oR 7 X1 hx hZ hown (hw _ (own_m 82 rfl)) e1 (F_sorted_ma.keep K_ nin_ma) (hb hby d7_4) rfl ?_
  refine oAstN 8 X1 hx (hb hby d7_7) (Ls29 ob ou sc sA) rfl rfl ?_
  refine oAlN 9 X1 hx (hb hby d7_8) rfl rfl ?_
  refine oF 12 X1 hx hZ hown (host := "") (Or.inl (hw _ (own_m 38 rfl))) Via.refl e1 (F_messages_ob.keep K_ nin_ob) (hb hby d7_9) rfl fun T2 X2 e2 => ?_
  clear X1 e1
  refine oR 15 X2 hx hZ hown (hw _ (own_m 84 rfl)) e2 (F_tieSize_ma.keep K_ nin_ma) (hb hby d7_12) rfl ?_
  refine oAst 17 X2 hx (hb hby d7_15) (Ls30 ob ou sc sA zA) rfl rfl ?_
  refine oAlN 18 X2 hx (hb hby d7_17) rfl rfl ?_
  refine oR 21 X2 hx hZ hown (hw _ (own_m 90 rfl)) e2 (F_sums_sc.keep K_ nin_sc) (hb hby d7_18) rfl ?_
  refine oAst 23 X2 hx (hb hby d7_21) (Ls31 ob ou sc sA zA su) rfl rfl ?_
  refine oAlN 24 X2 hx (hb hby d7_23) rfl rfl ?_
  refine oR 27 X2 hx hZ hown (hw _ (own_m 91 rfl)) e2 (F_onUpTo_sc.keep K_ nin_sc) (hb hby d7_24) rfl ?_
  refine oAst 29 X2 hx (hb hby d7_27) (Ls32 ob ou sc sA zA su nu) rfl rfl ?_
  refine oAlN 30 X2 hx (hb hby d7_29) rfl rfl ?_
  refine oR 33 X2 hx hZ hown (hw _ (own_m 92 rfl)) e2 (F_offUpTo_sc.keep K_ nin_sc) (hb hby d7_30) rfl ?_
  refine oAst 35 X2 hx (hb hby d7_33) (Ls33 ob ou sc sA zA su nu fu) rfl rfl ?_
  refine oAlN 36 X2 hx (hb hby d7_35) rfl rfl ?_
  refine oR 39 X2 hx hZ hown (hw _ (own_m 93 rfl)) e2 (F_onFrom_sc.keep K_ nin_sc) (hb hby d7_36) rfl ?_
  refine oAst 41 X2 hx (hb hby d7_39) (Ls34 ob ou sc sA zA su nu fu nf) rfl rfl ?_
  refine oAlN 42 X2 hx (hb hby d7_41) rfl rfl ?_
  refine oR 45 X2 hx hZ hown (hw _ (own_m 94 rfl)) e2 (F_offFrom_sc.keep K_ nin_sc) (hb hby d7_42) rfl ?_
  refine oAst 47 X2 hx (hb hby d7_45) (Ls35 ob ou sc sA zA su nu fu nf ff) rfl rfl ?_
  refine oAl 49 X2 hx (hb hby d7_47) rfl rfl ?_
  refine oIc 50 X2 hx (hb hby d7_49) 0 rfl rfl ?_
  refine own_by (T' := T2) (g' := (mkF m 53 (Ls35 ob ou sc sA zA su nu fu nf ff) [(.double 18442240474082181120), (.int 0), (.ref nu)])) (fun t k => X2.ldc2DoubleC hx hown (mvT hZ (hw _ (own_m 95 rfl))) (g := (mkF m 50 (Ls35 ob ou sc sA zA su nu fu nf ff) [(.int 0), (.ref nu)])) rfl (hb hby d7_50) _ k) ?_
  refine oDs 54 X2 hx hZ e2 V_nu 0 [(.double 18442240474082181120), (.double nu1), (.double nu2)] (hb hby d7_53) (by decide) rfl (Nat.le_of_ble_eq_true rfl) rfl rfl fun T3 h3 X3 e3 W3 V_nu_ => ?_
  replace V_su := V_su.other W3 (nd hnd 7 8)
  replace V_fu := V_fu.other W3 (nd hnd 9 8)
  replace V_nf := V_nf.other W3 (nd hnd 10 8)
  replace V_ff := V_ff.other W3 (nd hnd 11 8)
  replace V_ou := V_ou.other W3 (nd hnd 12 8)
  replace K_ := kW K_ W3 1 rfl
  replace V_nu := V_nu_
  clear V_nu_ W3
  replace N_ := Fr.snoc X3 N_ g_nu
  clear X2 e2
  refine oAl 56 X3 hx (hb hby d7_54) rfl rfl ?_
  refine oIc 57 X3 hx (hb hby d7_56) 0 rfl rfl ?_
  refine oAlN 58 X3 hx (hb hby d7_57) rfl rfl ?_
  refine oF 61 X3 hx hZ hown (host := "") (Or.inl (hw _ (own_m 12 rfl))) Via.refl e3 (F_score_ob.keep K_ nin_ob) (hb hby d7_58) rfl fun T4 X4 e4 => ?_
  clear X3 e3
  refine oIc 62 X4 hx (hb hby d7_61) 0 rfl rfl ?_
  refine oDa 63 X4 hx hZ e4 (V_sa.keep K_ nin_sa) (.double (FP.l2d y0)) (hb hby d7_62) (by decide) rfl rfl ?_
  refine oDs 64 X4 hx hZ e4 V_fu 0 [(.double (FP.l2d y0)), (.double fu1), (.double fu2)] (hb hby d7_63) (by decide) rfl (Nat.le_of_ble_eq_true rfl) rfl rfl fun T6 h6 X6 e6 W6 V_fu_ => ?_
  replace V_su := V_su.other W6 (nd hnd 7 9)
  replace V_nf := V_nf.other W6 (nd hnd 10 9)
  replace V_ff := V_ff.other W6 (nd hnd 11 9)
  replace V_ou := V_ou.other W6 (nd hnd 12 9)
  replace K_ := kW K_ W6 2 rfl
  replace V_nu := V_nu.other W6 (nd hnd 8 9)
  replace V_fu := V_fu_
  clear V_fu_ W6
  replace N_ := Fr.snoc X6 N_ g_fu
  clear X4 e4
  refine oIc 65 X6 hx (hb hby d7_64) 1 rfl rfl ?_
  refine oIst 67 X6 hx (hb hby d7_65) (Ls36 ob ou sc sA zA su nu fu nf ff 1) rfl rfl ?_
  refine oIl 69 X6 hx (hb hby d7_67) rfl rfl ?_
  refine oAlN 70 X6 hx (hb hby d7_69) rfl rfl ?_
  refine oF 73 X6 hx hZ hown (host := "") (Or.inl (hw _ (own_m 10 rfl))) Via.refl e6 (F_n_ob.keep K_ nin_ob) (hb hby d7_70) rfl fun T7 X7 e7 => ?_
  clear X6 e6
  refine oCn 76 X7 hx (hb hby d7_73) (flt (by decide)).2.2.1 rfl ?_
  refine oAl 78 X7 hx (hb hby d7_76) rfl rfl ?_
  refine oIl 80 X7 hx (hb hby d7_78) rfl rfl ?_
  refine oAl 82 X7 hx (hb hby d7_80) rfl rfl ?_
  refine oIl 84 X7 hx (hb hby d7_82) rfl rfl ?_
  refine oIc 85 X7 hx (hb hby d7_84) 1 rfl rfl ?_
  refine oSub 86 X7 hx (hb hby d7_85) 0 rfl rfl ?_
  refine oDa 87 X7 hx hZ e7 V_su (.double (FP.l2d 0)) (hb hby d7_86) (by decide) rfl rfl ?_
  refine oAlN 88 X7 hx (hb hby d7_87) rfl rfl ?_
  refine oIl 90 X7 hx (hb hby d7_88) rfl rfl ?_
  refine oIc 91 X7 hx (hb hby d7_90) 1 rfl rfl ?_
  refine oSub 92 X7 hx (hb hby d7_91) 0 rfl rfl ?_
  refine oDa 93 X7 hx hZ e7 (V_sA.keep K_ nin_sA) (.double (FP.l2d v0)) (hb hby d7_92) (by decide) rfl rfl ?_
  refine own_by (g' := (mkF m 94 (Ls36 ob ou sc sA zA su nu fu nf ff 1) [(.double (FP.l2d (0 + v0))), (.int 1), (.ref su)])) (fun t k => XS.daddS X7.here hx rfl (hb hby d7_93) rfl (nn_w (dadd_w (own_b53 own_b0) (own_b53 bv0))) (dadd_w (own_b53 own_b0) (own_b53 bv0)) k) ?_
  refine oDs 95 X7 hx hZ e7 V_su 1 [(.double (FP.l2d 0)), (.double (FP.l2d (0 + v0))), (.double su2)] (hb hby d7_94) (by decide) rfl (Nat.le_of_ble_eq_true rfl) rfl rfl fun T10 h10 X10 e10 W10 V_su_ => ?_
  replace V_nf := V_nf.other W10 (nd hnd 10 7)
  replace V_ff := V_ff.other W10 (nd hnd 11 7)
  replace V_ou := V_ou.other W10 (nd hnd 12 7)
  replace K_ := kW K_ W10 0 rfl
  replace V_nu := V_nu.other W10 (nd hnd 8 7)
  replace V_fu := V_fu.other W10 (nd hnd 9 7)
  replace V_su := V_su_
  clear V_su_ W10
  replace N_ := Fr.snoc X10 N_ g_su
  clear X7 e7
  refine oAl 97 X10 hx (hb hby d7_95) rfl rfl ?_
  refine oIl 99 X10 hx (hb hby d7_97) rfl rfl ?_
  refine oAl 101 X10 hx (hb hby d7_99) rfl rfl ?_
  refine oIl 103 X10 hx (hb hby d7_101) rfl rfl ?_
  refine oIc 104 X10 hx (hb hby d7_103) 1 rfl rfl ?_
  refine oSub 105 X10 hx (hb hby d7_104) 0 rfl rfl ?_
  refine oDa 106 X10 hx hZ e10 V_nu (.double 18442240474082181120) (hb hby d7_105) (by decide) rfl rfl ?_
  refine oAlN 107 X10 hx (hb hby d7_106) rfl rfl ?_
  refine oF 110 X10 hx hZ hown (host := "") (Or.inl (hw _ (own_m 12 rfl))) Via.refl e10 (F_score_ob.keep K_ nin_ob) (hb hby d7_107) rfl fun T12 X12 e12 => ?_
  clear X10 e10
  refine oIl 112 X12 hx (hb hby d7_110) rfl rfl ?_
  refine oDa 113 X12 hx hZ e12 (V_sa.keep K_ nin_sa) (.double (FP.l2d y1)) (hb hby d7_112) (by decide) rfl rfl ?_
  refine oAl 115 X12 hx (hb hby d7_113) rfl rfl ?_
  refine oIl 117 X12 hx (hb hby d7_115) rfl rfl ?_
  refine oIc 118 X12 hx (hb hby d7_117) 1 rfl rfl ?_
  refine oSub 119 X12 hx (hb hby d7_118) 0 rfl rfl ?_
  refine oDa 120 X12 hx hZ e12 V_su (.double (FP.l2d 0)) (hb hby d7_119) (by decide) rfl rfl ?_
  refine own_by (g' := (mkF m 121 (Ls36 ob ou sc sA zA su nu fu nf ff 1) [(.double (FP.l2d (y1 + 0))), (.double 18442240474082181120), (.int 1), (.ref nu)])) (fun t k => XS.daddS X12.here hx rfl (hb hby d7_120) rfl (nn_w (dadd_w (own_b53 b1) (own_b53 own_b0))) (dadd_w (own_b53 b1) (own_b53 own_b0)) k) ?_
  obtain ⟨_, _, ⟨T15, L15, k15, n15⟩, -, X15, ⟨Lc15, hQ15, l15, y15, z15⟩, st15⟩ := Jvm.LawKit.callS X12 hx (y := (⟨"com/example/firebreak/firebreak/strategies/DoubleMax", "of", "(DD)D"⟩ : MethodName)) hown (mvT hZ (hw _ (own_m 96 rfl))) (mvT hZ (hw _ (own_m 97 rfl))) (mvT hZ (hw _ (own_m 98 rfl))) (mvT hZ (hw _ (own_m 99 rfl))) (by decide) (backOf (W := 2) (rm8l l Z a0 hw [] (y1 + 0) h10 n0 (Nat.le_trans Zle K_.1) ) hZ (hw _ (own_m 99 rfl)) (hw _ (own_m 98 rfl)) (by decide) (by decide)) (g := (mkF m 121 (Ls36 ob ou sc sA zA su nu fu nf ff 1) [(.double (FP.l2d (y1 + 0))), (.double 18442240474082181120), (.int 1), (.ref nu)])) rfl (by rw [hml]; rfl) (argsL := [(.double 18442240474082181120), (.double (FP.l2d (y1 + 0)))]) (rest := [(.int 1), (.ref nu)]) (lenOf pd_2 rfl) rfl (own_le rfl) (hb hby d7_121) (fun _ _ => ⟨rfl, e12, (by decide : 0 + 0 ≤ _), (by decide : 0 + 0 ≤ _)⟩)
  dsimp only [Pt.U, Pt.locs, Pt.cells, Pt.slots] at X15 l15 y15 z15 st15 hQ15
  subst l15 y15 z15
  obtain ⟨rfl, Nq15, e15⟩ := hQ15
  replace N_ := Fr.app N_ Nq15
  clear Nq15
  refine own_by (T' := T15) (g' := (mkF m 124 (Ls36 ob ou sc sA zA su nu fu nf ff 1) [(.double (FP.l2d (y1 + 0))), (.int 1), (.ref nu)])) (fun t k => st15 _ k) ?_
  clear st15 X12 e12
  refine oDs 125 X15 hx hZ e15 V_nu 1 [(.double 18442240474082181120), (.double (FP.l2d (y1 + 0))), (.double nu2)] (hb hby d7_124) (by decide) rfl (Nat.le_of_ble_eq_true rfl) rfl rfl fun T16 h16 X16 e16 W16 V_nu_ => ?_
  replace V_nf := V_nf.other W16 (nd hnd 10 8)
  replace V_ff := V_ff.other W16 (nd hnd 11 8)
  replace V_ou := V_ou.other W16 (nd hnd 12 8)
  replace K_ := kW K_ W16 1 rfl
  replace V_fu := V_fu.other W16 (nd hnd 9 8)
  replace V_su := V_su.other W16 (nd hnd 7 8)
  replace V_nu := V_nu_
  clear V_nu_ W16
  replace N_ := Fr.snoc X16 N_ g_nu
  clear X15 e15
  refine oAl 127 X16 hx (hb hby d7_125) rfl rfl ?_
  refine oIl 129 X16 hx (hb hby d7_127) rfl rfl ?_
  refine oAl 131 X16 hx (hb hby d7_129) rfl rfl ?_
  refine oIl 133 X16 hx (hb hby d7_131) rfl rfl ?_
  refine oIc 134 X16 hx (hb hby d7_133) 1 rfl rfl ?_
  refine oSub 135 X16 hx (hb hby d7_134) 0 rfl rfl ?_
  refine oDa 136 X16 hx hZ e16 V_fu (.double (FP.l2d y0)) (hb hby d7_135) (by decide) rfl rfl ?_
  refine oAlN 137 X16 hx (hb hby d7_136) rfl rfl ?_
  refine oF 140 X16 hx hZ hown (host := "") (Or.inl (hw _ (own_m 12 rfl))) Via.refl e16 (F_score_ob.keep K_ nin_ob) (hb hby d7_137) rfl fun T18 X18 e18 => ?_
  clear X16 e16
  refine oIl 142 X18 hx (hb hby d7_140) rfl rfl ?_
  refine oDa 143 X18 hx hZ e18 (V_sa.keep K_ nin_sa) (.double (FP.l2d y1)) (hb hby d7_142) (by decide) rfl rfl ?_
  refine oAl 145 X18 hx (hb hby d7_143) rfl rfl ?_
  refine oIl 147 X18 hx (hb hby d7_145) rfl rfl ?_
  refine oDa 148 X18 hx hZ e18 V_su (.double (FP.l2d (0 + v0))) (hb hby d7_147) (by decide) rfl rfl ?_
  refine own_by (g' := (mkF m 149 (Ls36 ob ou sc sA zA su nu fu nf ff 1) [(.double (FP.l2d (y1 + (0 + v0)))), (.double (FP.l2d y0)), (.int 1), (.ref fu)])) (fun t k => XS.daddS X18.here hx rfl (hb hby d7_148) rfl (nn_w (dadd_w (own_b53 b1) (own_b53 (own_badd own_b0 bv0)))) (dadd_w (own_b53 b1) (own_b53 (own_badd own_b0 bv0))) k) ?_
  obtain ⟨_, _, ⟨T21, L21, k21, n21⟩, -, X21, ⟨Lc21, hQ21, l21, y21, z21⟩, st21⟩ := Jvm.LawKit.callS X18 hx (y := (⟨"com/example/firebreak/firebreak/strategies/DoubleMax", "of", "(DD)D"⟩ : MethodName)) hown (mvT hZ (hw _ (own_m 96 rfl))) (mvT hZ (hw _ (own_m 97 rfl))) (mvT hZ (hw _ (own_m 98 rfl))) (mvT hZ (hw _ (own_m 99 rfl))) (by decide) (backOf (W := 2) (rm8f l Z a0 hw [] y0 (y1 + (0 + v0)) h16 n0 (Nat.le_trans Zle K_.1) ((own_b53 b0)) ((own_b53 (own_badd b1 (own_badd own_b0 bv0))))) hZ (hw _ (own_m 99 rfl)) (hw _ (own_m 98 rfl)) (by decide) (by decide)) (g := (mkF m 149 (Ls36 ob ou sc sA zA su nu fu nf ff 1) [(.double (FP.l2d (y1 + (0 + v0)))), (.double (FP.l2d y0)), (.int 1), (.ref fu)])) rfl (by rw [hml]; rfl) (argsL := [(.double (FP.l2d y0)), (.double (FP.l2d (y1 + (0 + v0))))]) (rest := [(.int 1), (.ref fu)]) (lenOf pd_2 rfl) rfl (own_le rfl) (hb hby d7_149) (fun _ _ => ⟨rfl, e18, (by decide : 0 + 0 ≤ _), (by decide : 0 + 0 ≤ _)⟩)
  dsimp only [Pt.U, Pt.locs, Pt.cells, Pt.slots] at X21 l21 y21 z21 st21 hQ21
  subst l21 y21 z21
  obtain ⟨rfl, Nq21, e21⟩ := hQ21
  replace N_ := Fr.app N_ Nq21
  clear Nq21
  refine own_by (T' := T21) (g' := (mkF m 152 (Ls36 ob ou sc sA zA su nu fu nf ff 1) [(.double (FP.l2d (own_max y0 (y1 + (0 + v0))))), (.int 1), (.ref fu)])) (fun t k => st21 _ k) ?_
  clear st21 X18 e18
  refine oDs 153 X21 hx hZ e21 V_fu 1 [(.double (FP.l2d y0)), (.double (FP.l2d (own_max y0 (y1 + (0 + v0))))), (.double fu2)] (hb hby d7_152) (by decide) rfl (Nat.le_of_ble_eq_true rfl) rfl rfl fun T22 h22 X22 e22 W22 V_fu_ => ?_
  replace V_nf := V_nf.other W22 (nd hnd 10 9)
  replace V_ff := V_ff.other W22 (nd hnd 11 9)
  replace V_ou := V_ou.other W22 (nd hnd 12 9)
  replace K_ := kW K_ W22 2 rfl
  replace V_su := V_su.other W22 (nd hnd 7 9)
  replace V_nu := V_nu.other W22 (nd hnd 8 9)
  replace V_fu := V_fu_
  clear V_fu_ W22
  replace N_ := Fr.snoc X22 N_ g_fu
  clear X21 e21
  refine oInc 156 X22 hx (hb hby d7_153) (Ls36 ob ou sc sA zA su nu fu nf ff 2) rfl rfl rfl ?_
  refine oGo 67 X22 hx (hb hby d7_156) (by decide) (by decide) ?_
  refine oIl 69 X22 hx (hb hby d7_67) rfl rfl ?_
  refine oAlN 70 X22 hx (hb hby d7_69) rfl rfl ?_
  refine oF 73 X22 hx hZ hown (host := "") (Or.inl (hw _ (own_m 10 rfl))) Via.refl e22 (F_n_ob.keep K_ nin_ob) (hb hby d7_70) rfl fun T23 X23 e23 => ?_
  clear X22 e22
  refine oCn 76 X23 hx (hb hby d7_73) (flt (by decide)).2.2.1 rfl ?_
  refine oAl 78 X23 hx (hb hby d7_76) rfl rfl ?_
  refine oIl 80 X23 hx (hb hby d7_78) rfl rfl ?_
  refine oAl 82 X23 hx (hb hby d7_80) rfl rfl ?_
  refine oIl 84 X23 hx (hb hby d7_82) rfl rfl ?_
  refine oIc 85 X23 hx (hb hby d7_84) 1 rfl rfl ?_
  refine oSub 86 X23 hx (hb hby d7_85) 1 rfl rfl ?_
  refine oDa 87 X23 hx hZ e23 V_su (.double (FP.l2d (0 + v0))) (hb hby d7_86) (by decide) rfl rfl ?_
  refine oAlN 88 X23 hx (hb hby d7_87) rfl rfl ?_
  refine oIl 90 X23 hx (hb hby d7_88) rfl rfl ?_
  refine oIc 91 X23 hx (hb hby d7_90) 1 rfl rfl ?_
  refine oSub 92 X23 hx (hb hby d7_91) 1 rfl rfl ?_
  refine oDa 93 X23 hx hZ e23 (V_sA.keep K_ nin_sA) (.double (FP.l2d v1)) (hb hby d7_92) (by decide) rfl rfl ?_
  refine own_by (g' := (mkF m 94 (Ls36 ob ou sc sA zA su nu fu nf ff 2) [(.double (FP.l2d ((0 + v0) + v1))), (.int 2), (.ref su)])) (fun t k => XS.daddS X23.here hx rfl (hb hby d7_93) rfl (nn_w (dadd_w (own_b53 (own_badd own_b0 bv0)) (own_b53 bv1))) (dadd_w (own_b53 (own_badd own_b0 bv0)) (own_b53 bv1)) k) ?_
  refine oDs 95 X23 hx hZ e23 V_su 2 [(.double (FP.l2d 0)), (.double (FP.l2d (0 + v0))), (.double (FP.l2d ((0 + v0) + v1)))] (hb hby d7_94) (by decide) rfl (Nat.le_of_ble_eq_true rfl) rfl rfl fun T26 h26 X26 e26 W26 V_su_ => ?_
  replace V_nf := V_nf.other W26 (nd hnd 10 7)
  replace V_ff := V_ff.other W26 (nd hnd 11 7)
  replace V_ou := V_ou.other W26 (nd hnd 12 7)
  replace K_ := kW K_ W26 0 rfl
  replace V_nu := V_nu.other W26 (nd hnd 8 7)
  replace V_fu := V_fu.other W26 (nd hnd 9 7)
  replace V_su := V_su_
  clear V_su_ W26
  replace N_ := Fr.snoc X26 N_ g_su
  clear X23 e23
  refine oAl 97 X26 hx (hb hby d7_95) rfl rfl ?_
  refine oIl 99 X26 hx (hb hby d7_97) rfl rfl ?_
  refine oAl 101 X26 hx (hb hby d7_99) rfl rfl ?_
  refine oIl 103 X26 hx (hb hby d7_101) rfl rfl ?_
  refine oIc 104 X26 hx (hb hby d7_103) 1 rfl rfl ?_
  refine oSub 105 X26 hx (hb hby d7_104) 1 rfl rfl ?_
  refine oDa 106 X26 hx hZ e26 V_nu (.double (FP.l2d (y1 + 0))) (hb hby d7_105) (by decide) rfl rfl ?_
  refine oAlN 107 X26 hx (hb hby d7_106) rfl rfl ?_
  refine oF 110 X26 hx hZ hown (host := "") (Or.inl (hw _ (own_m 12 rfl))) Via.refl e26 (F_score_ob.keep K_ nin_ob) (hb hby d7_107) rfl fun T28 X28 e28 => ?_
  clear X26 e26
  refine oIl 112 X28 hx (hb hby d7_110) rfl rfl ?_
  refine oDa 113 X28 hx hZ e28 (V_sa.keep K_ nin_sa) (.double (FP.l2d y2)) (hb hby d7_112) (by decide) rfl rfl ?_
  refine oAl 115 X28 hx (hb hby d7_113) rfl rfl ?_
  refine oIl 117 X28 hx (hb hby d7_115) rfl rfl ?_
  refine oIc 118 X28 hx (hb hby d7_117) 1 rfl rfl ?_
  refine oSub 119 X28 hx (hb hby d7_118) 1 rfl rfl ?_
  refine oDa 120 X28 hx hZ e28 V_su (.double (FP.l2d (0 + v0))) (hb hby d7_119) (by decide) rfl rfl ?_
  refine own_by (g' := (mkF m 121 (Ls36 ob ou sc sA zA su nu fu nf ff 2) [(.double (FP.l2d (y2 + (0 + v0)))), (.double (FP.l2d (y1 + 0))), (.int 2), (.ref nu)])) (fun t k => XS.daddS X28.here hx rfl (hb hby d7_120) rfl (nn_w (dadd_w (own_b53 b2) (own_b53 (own_badd own_b0 bv0)))) (dadd_w (own_b53 b2) (own_b53 (own_badd own_b0 bv0))) k) ?_
  obtain ⟨_, _, ⟨T31, L31, k31, n31⟩, -, X31, ⟨Lc31, hQ31, l31, y31, z31⟩, st31⟩ := Jvm.LawKit.callS X28 hx (y := (⟨"com/example/firebreak/firebreak/strategies/DoubleMax", "of", "(DD)D"⟩ : MethodName)) hown (mvT hZ (hw _ (own_m 96 rfl))) (mvT hZ (hw _ (own_m 97 rfl))) (mvT hZ (hw _ (own_m 98 rfl))) (mvT hZ (hw _ (own_m 99 rfl))) (by decide) (backOf (W := 2) (rm8f l Z a0 hw [] (y1 + 0) (y2 + (0 + v0)) h26 n0 (Nat.le_trans Zle K_.1) ((own_b53 (own_badd b1 own_b0))) ((own_b53 (own_badd b2 (own_badd own_b0 bv0))))) hZ (hw _ (own_m 99 rfl)) (hw _ (own_m 98 rfl)) (by decide) (by decide)) (g := (mkF m 121 (Ls36 ob ou sc sA zA su nu fu nf ff 2) [(.double (FP.l2d (y2 + (0 + v0)))), (.double (FP.l2d (y1 + 0))), (.int 2), (.ref nu)])) rfl (by rw [hml]; rfl) (argsL := [(.double (FP.l2d (y1 + 0))), (.double (FP.l2d (y2 + (0 + v0))))]) (rest := [(.int 2), (.ref nu)]) (lenOf pd_2 rfl) rfl (own_le rfl) (hb hby d7_121) (fun _ _ => ⟨rfl, e28, (by decide : 0 + 0 ≤ _), (by decide : 0 + 0 ≤ _)⟩)
  dsimp only [Pt.U, Pt.locs, Pt.cells, Pt.slots] at X31 l31 y31 z31 st31 hQ31
  subst l31 y31 z31
  obtain ⟨rfl, Nq31, e31⟩ := hQ31
  replace N_ := Fr.app N_ Nq31
  clear Nq31
  refine own_by (T' := T31) (g' := (mkF m 124 (Ls36 ob ou sc sA zA su nu fu nf ff 2) [(.double (FP.l2d (own_max (y1 + 0) (y2 + (0 + v0))))), (.int 2), (.ref nu)])) (fun t k => st31 _ k) ?_
  clear st31 X28 e28
  refine oDs 125 X31 hx hZ e31 V_nu 2 [(.double 18442240474082181120), (.double (FP.l2d (y1 + 0))), (.double (FP.l2d (own_max (y1 + 0) (y2 + (0 + v0)))))] (hb hby d7_124) (by decide) rfl (Nat.le_of_ble_eq_true rfl) rfl rfl fun T32 h32 X32 e32 W32 V_nu_ => ?_
  replace V_nf := V_nf.other W32 (nd hnd 10 8)
  replace V_ff := V_ff.other W32 (nd hnd 11 8)
  replace V_ou := V_ou.other W32 (nd hnd 12 8)
  replace K_ := kW K_ W32 1 rfl
  replace V_fu := V_fu.other W32 (nd hnd 9 8)
  replace V_su := V_su.other W32 (nd hnd 7 8)
  replace V_nu := V_nu_
  clear V_nu_ W32
  replace N_ := Fr.snoc X32 N_ g_nu
  clear X31 e31
  refine oAl 127 X32 hx (hb hby d7_125) rfl rfl ?_
  refine oIl 129 X32 hx (hb hby d7_127) rfl rfl ?_
  refine oAl 131 X32 hx (hb hby d7_129) rfl rfl ?_
  refine oIl 133 X32 hx (hb hby d7_131) rfl rfl ?_
  refine oIc 134 X32 hx (hb hby d7_133) 1 rfl rfl ?_
  refine oSub 135 X32 hx (hb hby d7_134) 1 rfl rfl ?_
  refine oDa 136 X32 hx hZ e32 V_fu (.double (FP.l2d (own_max y0 (y1 + (0 + v0))))) (hb hby d7_135) (by decide) rfl rfl ?_
  refine oAlN 137 X32 hx (hb hby d7_136) rfl rfl ?_
  refine oF 140 X32 hx hZ hown (host := "") (Or.inl (hw _ (own_m 12 rfl))) Via.refl e32 (F_score_ob.keep K_ nin_ob) (hb hby d7_137) rfl fun T34 X34 e34 => ?_
  clear X32 e32
  refine oIl 142 X34 hx (hb hby d7_140) rfl rfl ?_
  refine oDa 143 X34 hx hZ e34 (V_sa.keep K_ nin_sa) (.double (FP.l2d y2)) (hb hby d7_142) (by decide) rfl rfl ?_
  refine oAl 145 X34 hx (hb hby d7_143) rfl rfl ?_
  refine oIl 147 X34 hx (hb hby d7_145) rfl rfl ?_
  refine oDa 148 X34 hx hZ e34 V_su (.double (FP.l2d ((0 + v0) + v1))) (hb hby d7_147) (by decide) rfl rfl ?_
  refine own_by (g' := (mkF m 149 (Ls36 ob ou sc sA zA su nu fu nf ff 2) [(.double (FP.l2d (y2 + ((0 + v0) + v1)))), (.double (FP.l2d (own_max y0 (y1 + (0 + v0))))), (.int 2), (.ref fu)])) (fun t k => XS.daddS X34.here hx rfl (hb hby d7_148) rfl (nn_w (dadd_w (own_b53 b2) (own_b53 (own_badd (own_badd own_b0 bv0) bv1)))) (dadd_w (own_b53 b2) (own_b53 (own_badd (own_badd own_b0 bv0) bv1))) k) ?_
  obtain ⟨_, _, ⟨T37, L37, k37, n37⟩, -, X37, ⟨Lc37, hQ37, l37, y37, z37⟩, st37⟩ := Jvm.LawKit.callS X34 hx (y := (⟨"com/example/firebreak/firebreak/strategies/DoubleMax", "of", "(DD)D"⟩ : MethodName)) hown (mvT hZ (hw _ (own_m 96 rfl))) (mvT hZ (hw _ (own_m 97 rfl))) (mvT hZ (hw _ (own_m 98 rfl))) (mvT hZ (hw _ (own_m 99 rfl))) (by decide) (backOf (W := 2) (rm8f l Z a0 hw [] (own_max y0 (y1 + (0 + v0))) (y2 + ((0 + v0) + v1)) h32 n0 (Nat.le_trans Zle K_.1) ((own_b53 (own_bmax b0 (own_badd b1 (own_badd own_b0 bv0))))) ((own_b53 (own_badd b2 (own_badd (own_badd own_b0 bv0) bv1))))) hZ (hw _ (own_m 99 rfl)) (hw _ (own_m 98 rfl)) (by decide) (by decide)) (g := (mkF m 149 (Ls36 ob ou sc sA zA su nu fu nf ff 2) [(.double (FP.l2d (y2 + ((0 + v0) + v1)))), (.double (FP.l2d (own_max y0 (y1 + (0 + v0))))), (.int 2), (.ref fu)])) rfl (by rw [hml]; rfl) (argsL := [(.double (FP.l2d (own_max y0 (y1 + (0 + v0))))), (.double (FP.l2d (y2 + ((0 + v0) + v1))))]) (rest := [(.int 2), (.ref fu)]) (lenOf pd_2 rfl) rfl (own_le rfl) (hb hby d7_149) (fun _ _ => ⟨rfl, e34, (by decide : 0 + 0 ≤ _), (by decide : 0 + 0 ≤ _)⟩)
  dsimp only [Pt.U, Pt.locs, Pt.cells, Pt.slots] at X37 l37 y37 z37 st37 hQ37
  subst l37 y37 z37
  obtain ⟨rfl, Nq37, e37⟩ := hQ37
  replace N_ := Fr.app N_ Nq37
  clear Nq37
  refine own_by (T' := T37) (g' := (mkF m 152 (Ls36 ob ou sc sA zA su nu fu nf ff 2) [(.double (FP.l2d (own_max (own_max y0 (y1 + (0 + v0))) (y2 + ((0 + v0) + v1))))), (.int 2), (.ref fu)])) (fun t k => st37 _ k) ?_
  clear st37 X34 e34
  refine oDs 153 X37 hx hZ e37 V_fu 2 [(.double (FP.l2d y0)), (.double (FP.l2d (own_max y0 (y1 + (0 + v0))))), (.double (FP.l2d (own_max (own_max y0 (y1 + (0 + v0))) (y2 + ((0 + v0) + v1)))))] (hb hby d7_152) (by decide) rfl (Nat.le_of_ble_eq_true rfl) rfl rfl fun T38 h38 X38 e38 W38 V_fu_ => ?_
  replace V_nf := V_nf.other W38 (nd hnd 10 9)
  replace V_ff := V_ff.other W38 (nd hnd 11 9)
  replace V_ou := V_ou.other W38 (nd hnd 12 9)
  replace K_ := kW K_ W38 2 rfl
  replace V_su := V_su.other W38 (nd hnd 7 9)
  replace V_nu := V_nu.other W38 (nd hnd 8 9)
  replace V_fu := V_fu_
  clear V_fu_ W38
  replace N_ := Fr.snoc X38 N_ g_fu
  clear X37 e37
  refine oInc 156 X38 hx (hb hby d7_153) (Ls36 ob ou sc sA zA su nu fu nf ff 3) rfl rfl rfl ?_
  refine oGo 67 X38 hx (hb hby d7_156) (by decide) (by decide) ?_
  refine oIl 69 X38 hx (hb hby d7_67) rfl rfl ?_
  refine oAlN 70 X38 hx (hb hby d7_69) rfl rfl ?_
  refine oF 73 X38 hx hZ hown (host := "") (Or.inl (hw _ (own_m 10 rfl))) Via.refl e38 (F_n_ob.keep K_ nin_ob) (hb hby d7_70) rfl fun T39 X39 e39 => ?_
  clear X38 e38
  refine oCy 159 X39 hx (hb hby d7_73) (tlt (by decide)).2.2.1 (by decide) (by decide) ?_
  exact own_a159 l Z a0 hw hx hby hml Bd.notSynchronized Bd.returns ob ou sc pp qq z0 z1 ma sA zA oA sa su nu fu nf ff ksA kzA koA ksa ksu knu kfu knf kff kou y0 y1 y2 v0 v1 su1 su2 nu0 nu1 nu2 fu0 fu1 fu2 nf0 nf1 nf2 nf3 ff0 ff1 ff2 ff3 ou0 ou1 h0 n0 hnd b0 b1 b2 bv0 bv1 hcase  hZ hown (X39) e39 F_messages_ob F_n_ob F_score_ob V_sa F_sorted_ma F_tieSize_ma F_order_ma V_sA V_zA V_oA F_sums_sc F_onUpTo_sc F_offUpTo_sc F_onFrom_sc F_offFrom_sc V_nf V_ff V_ou g_su g_nu g_fu g_nf g_ff g_ou Zle N_ K_ nin_ob nin_sa nin_ma nin_sA nin_zA nin_oA nin_sc V_su V_nu V_fu 

def Q0 (Z : State) (x1 : Int32) (x2 : Int32) (x3 : Int32) (x4 : Int32) (x5 : Int32) (h0 : Heap) (n0 : Nat) (v : Option Value) (h : Heap) (L : List Loc) : Prop := v = some (.int 1) ∧ Fr n0 L
theorem ef_0 (m : MethodId) (x1 : Int32) (x2 : Int32) (x3 : Int32) (x4 : Int32) (x5 : Int32) : entryFrame m #[(.int x1), (.int x2), (.int x3), (.int x4), (.int x5)] maxLocals = mkF m 0 #[.val (.int x1), .val (.int x2), .val (.int x3), .val (.int x4), .val (.int x5), .unset, .unset, .unset, .unset, .unset, .unset, .unset, .unset, .unset, .unset, .unset, .unset, .unset, .unset, .unset, .unset, .unset, .unset, .unset, .unset, .unset, .unset, .unset, .unset] [] := by first | (simp [entryFrame, mkF, argsToLocals, Value.category, maxLocals]; done) | rfl
theorem pd_0 : parseMethodDescriptor "([D)V" = some ⟨[(.array .double)], none⟩ := by decide +kernel
theorem pd_4 : parseMethodDescriptor "([DLcom/example/firebreak/firebreak/strategies/CountFactor$Scratch;)V" = some ⟨[(.array .double), (.object "com/example/firebreak/firebreak/strategies/CountFactor$Scratch")], none⟩ := by decide +kernel
theorem pd_6 : parseMethodDescriptor "([DDDDDD)Z" = some ⟨[(.array .double), .double, .double, .double, .double, .double], some .boolean⟩ := by decide +kernel
theorem pd_1 : parseMethodDescriptor "()V" = some ⟨[], none⟩ := by decide +kernel
set_option maxRecDepth 65536 in
set_option maxHeartbeats 40000000 in
theorem own_law141 (l : Launch) (Z : State) (a0 : Array Value) (hw : ∀ d ∈ tables_1, d.before a0 Z = true) {p : Program} {e : Env} {s : State} {m : MethodId} {below : List Frame} {meth : Method} {c : Code} (hx : p.tables.exec = Jvm.exec) (hby : c.code = code) (hml : c.maxLocals = 29) (hlk : meth.locks = false) (hret : meth.sig.returnType = ret) (x1 : Int32) (x2 : Int32) (x3 : Int32) (x4 : Int32) (x5 : Int32) (h0 : Heap) (n0 : Nat) (y0 : Int64) (y1 : Int64) (y2 : Int64) (m0 : Int64) (m1 : Int64) (w0 : Int64) (w1 : Int64) (b1 : Addr) (k1 : ClassId) (b5 : Addr) (k5 : ClassId) (b8 : Addr) (k8 : ClassId) (b11 : Addr) (k11 : ClassId) (b12 : Addr) (k12 : ClassId) (b13 : Addr) (k13 : ClassId) (b14 : Addr) (k14 : ClassId) (b15 : Addr) (ma_16 : Addr) (iA_16 : Addr) (oA_16 : Addr) (sA_16 : Addr) (tA_16 : Addr) (zA_16 : Addr) (mb_16 : Addr) (iB_16 : Addr) (oB_16 : Addr) (sB_16 : Addr) (tB_16 : Addr) (zB_16 : Addr) (kiA_16 : ClassId) (koA_16 : ClassId) (ksA_16 : ClassId) (ktA_16 : ClassId) (kzA_16 : ClassId) (kiB_16 : ClassId) (koB_16 : ClassId) (ksB_16 : ClassId) (ktB_16 : ClassId) (kzB_16 : ClassId) (b17 : Addr) (xsu_18 : Addr) (xnu_18 : Addr) (xfu_18 : Addr) (xnf_18 : Addr) (xff_18 : Addr) (xmg_18 : Addr) (xrs_18 : Addr) (ksu_18 : ClassId) (knu_18 : ClassId) (kfu_18 : ClassId) (knf_18 : ClassId) (kff_18 : ClassId) (kmg_18 : ClassId) (krs_18 : ClassId) {Tj : State} {hj : Heap} {locsj : List Loc}
    (hZ : Z.Warmed39 s.vm) (hown : s.vm.findClass "com/example/firebreak/firebreak/strategies/CountFactorTakeReceivedPinLaw" = some m.cls) (Xj : Stand p l e room_1 s m #[(.int x1), (.int x2), (.int x3), (.int x4), (.int x5)] below meth c Tj locsj 46 137) (ej : Tj.heap = hj)
    (Zle : n0 ≤ hj.size) (N_ : Fr n0 locsj) (g_b1 : n0 ≤ b1) (V_b1 : Arv Z hj b1 k1 .double (3 : Int32) [(.double (FP.l2d y0)), (.double (FP.l2d y1)), (.double (FP.l2d y2))] (.double (FP.l2d 0))) (g_b5 : n0 ≤ b5) (V_b5 : Arv Z hj b5 k5 .double (2 : Int32) [(.double (FP.l2d m0)), (.double (FP.l2d m1))] (.double (FP.l2d 0))) (g_b8 : n0 ≤ b8) (V_b8 : Arv Z hj b8 k8 .double (2 : Int32) [(.double (FP.l2d w0)), (.double (FP.l2d w1))] (.double (FP.l2d 0))) (g_b11 : n0 ≤ b11) (V_b11 : Arv Z hj b11 k11 .double (2 : Int32) [(.double (FP.l2d 0)), (.double (FP.l2d 0))] (.double (FP.l2d 0))) (g_b12 : n0 ≤ b12) (V_b12 : Arv Z hj b12 k12 .double (2 : Int32) [(.double (FP.l2d 0)), (.double (FP.l2d 0))] (.double (FP.l2d 0))) (g_b13 : n0 ≤ b13) (V_b13 : Arv Z hj b13 k13 .double (2 : Int32) [(.double (FP.l2d 0)), (.double (FP.l2d 0))] (.double (FP.l2d 0))) (g_b14 : n0 ≤ b14) (V_b14 : Arv Z hj b14 k14 .double (2 : Int32) [(.double (FP.l2d 0)), (.double (FP.l2d 0))] (.double (FP.l2d 0))) (g_b15 : n0 ≤ b15) (c16_2 : Exa Z hj b15 "com/example/firebreak/firebreak/strategies/CountFactor") (g_ma_16 : n0 ≤ ma_16) (g_iA_16 : n0 ≤ iA_16) (g_oA_16 : n0 ≤ oA_16) (g_sA_16 : n0 ≤ sA_16) (g_tA_16 : n0 ≤ tA_16) (g_zA_16 : n0 ≤ zA_16) (g_mb_16 : n0 ≤ mb_16) (g_iB_16 : n0 ≤ iB_16) (g_oB_16 : n0 ≤ oB_16) (g_sB_16 : n0 ≤ sB_16) (g_tB_16 : n0 ≤ tB_16) (g_zB_16 : n0 ≤ zB_16) (c16_3 : Fld Z hj b15 "com/example/firebreak/firebreak/strategies/CountFactor" "n" "I" (.int 2)) (c16_4 : Fld Z hj b15 "com/example/firebreak/firebreak/strategies/CountFactor" "score" "[D" (.ref b1)) (c16_5 : Fld Z hj b15 "com/example/firebreak/firebreak/strategies/CountFactor" "messages" "Lcom/example/firebreak/firebreak/strategies/CountFactor$Messages;" (.ref ma_16)) (c16_6 : Fld Z hj b15 "com/example/firebreak/firebreak/strategies/CountFactor" "received" "Lcom/example/firebreak/firebreak/strategies/CountFactor$Messages;" (.ref mb_16)) (c16_7 : Exa Z hj ma_16 "com/example/firebreak/firebreak/strategies/CountFactor$Messages") (c16_8 : Fld Z hj ma_16 "com/example/firebreak/firebreak/strategies/CountFactor$Messages" "incoming" "[D" (.ref iA_16)) (c16_9 : Fld Z hj ma_16 "com/example/firebreak/firebreak/strategies/CountFactor$Messages" "order" "[I" (.ref oA_16)) (c16_10 : Fld Z hj ma_16 "com/example/firebreak/firebreak/strategies/CountFactor$Messages" "sorted" "[D" (.ref sA_16)) (c16_11 : Fld Z hj ma_16 "com/example/firebreak/firebreak/strategies/CountFactor$Messages" "tieOf" "[I" (.ref tA_16)) (c16_12 : Fld Z hj ma_16 "com/example/firebreak/firebreak/strategies/CountFactor$Messages" "tieSize" "[I" (.ref zA_16)) (c16_13 : Exa Z hj mb_16 "com/example/firebreak/firebreak/strategies/CountFactor$Messages") (c16_14 : Fld Z hj mb_16 "com/example/firebreak/firebreak/strategies/CountFactor$Messages" "incoming" "[D" (.ref iB_16)) (c16_15 : Fld Z hj mb_16 "com/example/firebreak/firebreak/strategies/CountFactor$Messages" "order" "[I" (.ref oB_16)) (c16_16 : Fld Z hj mb_16 "com/example/firebreak/firebreak/strategies/CountFactor$Messages" "sorted" "[D" (.ref sB_16)) (c16_17 : Fld Z hj mb_16 "com/example/firebreak/firebreak/strategies/CountFactor$Messages" "tieOf" "[I" (.ref tB_16)) (c16_18 : Fld Z hj mb_16 "com/example/firebreak/firebreak/strategies/CountFactor$Messages" "tieSize" "[I" (.ref zB_16)) (c16_19 : Arv Z hj iA_16 kiA_16 .double (2 : Int32) [(.double (FP.l2d 0)), (.double (FP.l2d 0))] (.double (FP.l2d 0))) (c16_20 : Arv Z hj oA_16 koA_16 .int (2 : Int32) [(.int 0), (.int 1)] (.int 0)) (c16_21 : Arv Z hj sA_16 ksA_16 .double (2 : Int32) [(.double (FP.l2d 0)), (.double (FP.l2d 0))] (.double (FP.l2d 0))) (c16_22 : Arv Z hj tA_16 ktA_16 .int (2 : Int32) [(.int 0), (.int 0)] (.int 0)) (c16_23 : Arv Z hj zA_16 kzA_16 .int (2 : Int32) [(.int 2), (.int 0)] (.int 0)) (c16_24 : Arv Z hj iB_16 kiB_16 .double (2 : Int32) [(.double (FP.l2d 0)), (.double (FP.l2d 0))] (.double (FP.l2d 0))) (c16_25 : Arv Z hj oB_16 koB_16 .int (2 : Int32) [(.int 0), (.int 1)] (.int 0)) (c16_26 : Arv Z hj sB_16 ksB_16 .double (2 : Int32) [(.double (FP.l2d 0)), (.double (FP.l2d 0))] (.double (FP.l2d 0))) (c16_27 : Arv Z hj tB_16 ktB_16 .int (2 : Int32) [(.int 0), (.int 0)] (.int 0)) (c16_28 : Arv Z hj zB_16 kzB_16 .int (2 : Int32) [(.int 2), (.int 0)] (.int 0)) (g_b17 : n0 ≤ b17) (C_ : own_inc h0.size hj.size [b1, b5, b8, b11, b12, b13, b14, b15, ma_16, iA_16, oA_16, sA_16, tA_16, zA_16, mb_16, iB_16, oB_16, sB_16, tB_16, zB_16, b17, xsu_18, xnu_18, xfu_18, xnf_18, xff_18, xmg_18, xrs_18]) (c18_2 : Exa Z hj b17 "com/example/firebreak/firebreak/strategies/CountFactor$Scratch") (g_xsu_18 : n0 ≤ xsu_18) (g_xnu_18 : n0 ≤ xnu_18) (g_xfu_18 : n0 ≤ xfu_18) (g_xnf_18 : n0 ≤ xnf_18) (g_xff_18 : n0 ≤ xff_18) (g_xmg_18 : n0 ≤ xmg_18) (g_xrs_18 : n0 ≤ xrs_18) (c18_3 : Fld Z hj b17 "com/example/firebreak/firebreak/strategies/CountFactor$Scratch" "sums" "[D" (.ref xsu_18)) (c18_4 : Fld Z hj b17 "com/example/firebreak/firebreak/strategies/CountFactor$Scratch" "onUpTo" "[D" (.ref xnu_18)) (c18_5 : Fld Z hj b17 "com/example/firebreak/firebreak/strategies/CountFactor$Scratch" "offUpTo" "[D" (.ref xfu_18)) (c18_6 : Fld Z hj b17 "com/example/firebreak/firebreak/strategies/CountFactor$Scratch" "onFrom" "[D" (.ref xnf_18)) (c18_7 : Fld Z hj b17 "com/example/firebreak/firebreak/strategies/CountFactor$Scratch" "offFrom" "[D" (.ref xff_18)) (c18_8 : Fld Z hj b17 "com/example/firebreak/firebreak/strategies/CountFactor$Scratch" "merging" "[I" (.ref xmg_18)) (c18_9 : Fld Z hj b17 "com/example/firebreak/firebreak/strategies/CountFactor$Scratch" "runStarts" "[I" (.ref xrs_18)) (c18_10 : Arv Z hj xsu_18 ksu_18 .double (3 : Int32) [(.double (FP.l2d 0)), (.double (FP.l2d 0)), (.double (FP.l2d 0))] (.double (FP.l2d 0))) (c18_11 : Arv Z hj xnu_18 knu_18 .double (3 : Int32) [(.double (FP.l2d 0)), (.double (FP.l2d 0)), (.double (FP.l2d 0))] (.double (FP.l2d 0))) (c18_12 : Arv Z hj xfu_18 kfu_18 .double (3 : Int32) [(.double (FP.l2d 0)), (.double (FP.l2d 0)), (.double (FP.l2d 0))] (.double (FP.l2d 0))) (c18_13 : Arv Z hj xnf_18 knf_18 .double (4 : Int32) [(.double (FP.l2d 0)), (.double (FP.l2d 0)), (.double (FP.l2d 0)), (.double (FP.l2d 0))] (.double (FP.l2d 0))) (c18_14 : Arv Z hj xff_18 kff_18 .double (4 : Int32) [(.double (FP.l2d 0)), (.double (FP.l2d 0)), (.double (FP.l2d 0)), (.double (FP.l2d 0))] (.double (FP.l2d 0))) (c18_15 : Arv Z hj xmg_18 kmg_18 .int (2 : Int32) [(.int 0), (.int 0)] (.int 0)) (c18_16 : Arv Z hj xrs_18 krs_18 .int (3 : Int32) [(.int 0), (.int 0), (.int 0)] (.int 0)) (b_y0 : own_bd 128 y0) (b_y1 : own_bd 128 y1) (b_y2 : own_bd 128 y2) (b_m0 : own_bd 63 m0) (b_m1 : own_bd 63 m1) (b_w0 : own_bd 63 w0) (b_w1 : own_bd 63 w1) : own_Goes p.tables e below s (Q0 Z x1 x2 x3 x4 x5 h0 n0) room_1.cells room_1.slots Tj (mkF m 141 (Ls57 x1 x2 x3 x4 x5 (FP.l2d y0) (FP.l2d y1) (FP.l2d y2) (FP.l2d m0) (FP.l2d m1) (FP.l2d w0) (FP.l2d w1) b1 b5 b8 b11 b12 b13 b14 b15 b17) []) := by
  have K_ := Keep.refl hj [b15, b11, b12, b13, b14, iA_16, oA_16, sA_16, tA_16, zA_16, iB_16, oB_16, sB_16, tB_16, zB_16, xsu_18, xnu_18, xfu_18, xnf_18, xff_18, xmg_18, xrs_18]
  have nin_b1 : b1 ∉ [b15, b11, b12, b13, b14, iA_16, oA_16, sA_16, tA_16, zA_16, iB_16, oB_16, sB_16, tB_16, zB_16, xsu_18, xnu_18, xfu_18, xnf_18, xff_18, xmg_18, xrs_18] := (nn (own_incN C_) 0 [7, 3, 4, 5, 6, 9, 10, 11, 12, 13, 15, 16, 17, 18, 19, 21, 22, 23, 24, 25, 26, 27])
  have nin_b5 : b5 ∉ [b15, b11, b12, b13, b14, iA_16, oA_16, sA_16, tA_16, zA_16, iB_16, oB_16, sB_16, tB_16, zB_16, xsu_18, xnu_18, xfu_18, xnf_18, xff_18, xmg_18, xrs_18] := (nn (own_incN C_) 1 [7, 3, 4, 5, 6, 9, 10, 11, 12, 13, 15, 16, 17, 18, 19, 21, 22, 23, 24, 25, 26, 27])
  have nin_b8 : b8 ∉ [b15, b11, b12, b13, b14, iA_16, oA_16, sA_16, tA_16, zA_16, iB_16, oB_16, sB_16, tB_16, zB_16, xsu_18, xnu_18, xfu_18, xnf_18, xff_18, xmg_18, xrs_18] := (nn (own_incN C_) 2 [7, 3, 4, 5, 6, 9, 10, 11, 12, 13, 15, 16, 17, 18, 19, 21, 22, 23, 24, 25, 26, 27])
  have nin_ma_16 : ma_16 ∉ [b15, b11, b12, b13, b14, iA_16, oA_16, sA_16, tA_16, zA_16, iB_16, oB_16, sB_16, tB_16, zB_16, xsu_18, xnu_18, xfu_18, xnf_18, xff_18, xmg_18, xrs_18] := (nn (own_incN C_) 8 [7, 3, 4, 5, 6, 9, 10, 11, 12, 13, 15, 16, 17, 18, 19, 21, 22, 23, 24, 25, 26, 27])
  have nin_mb_16 : mb_16 ∉ [b15, b11, b12, b13, b14, iA_16, oA_16, sA_16, tA_16, zA_16, iB_16, oB_16, sB_16, tB_16, zB_16, xsu_18, xnu_18, xfu_18, xnf_18, xff_18, xmg_18, xrs_18] := (nn (own_incN C_) 14 [7, 3, 4, 5, 6, 9, 10, 11, 12, 13, 15, 16, 17, 18, 19, 21, 22, 23, 24, 25, 26, 27])
  have nin_b17 : b17 ∉ [b15, b11, b12, b13, b14, iA_16, oA_16, sA_16, tA_16, zA_16, iB_16, oB_16, sB_16, tB_16, zB_16, xsu_18, xnu_18, xfu_18, xnf_18, xff_18, xmg_18, xrs_18] := (nn (own_incN C_) 20 [7, 3, 4, 5, 6, 9, 10, 11, 12, 13, 15, 16, 17, 18, 19, 21, 22, 23, 24, 25, 26, 27])
  refine oAl 143 Xj hx (hb hby at_141) rfl rfl ?_
  refine oAl 145 Xj hx (hb hby at_143) rfl rfl ?_
  refine oAl 147 Xj hx (hb hby at_145) rfl rfl ?_
  obtain ⟨cq19, kq19, q19a, q19b, q19c⟩ := isOf hZ ej (c16_2.keep K_)
  obtain ⟨_, _, ⟨T19, L19, k19, n19⟩, -, X19, ⟨Lc19, hQ19, l19, y19, z19⟩, st19⟩ := Xj.virtualBack hx (y := (⟨"com/example/firebreak/firebreak/strategies/CountFactor", "receive", "([DLcom/example/firebreak/firebreak/strategies/CountFactor$Scratch;)V"⟩ : MethodName)) (z := (⟨"com/example/firebreak/firebreak/strategies/CountFactor", "receive", "([DLcom/example/firebreak/firebreak/strategies/CountFactor$Scratch;)V"⟩ : MethodName)) hown (mvT hZ (hw _ (own_m 69 rfl))) (mvT hZ (hw _ (own_m 70 rfl))) (notFace_of_selects (args := #[]) (mvT hZ (hw _ (own_m 72 rfl)))) (mvT hZ (hw _ (own_m 72 rfl))) (mvT hZ (hw _ (own_m 71 rfl))) (by decide) (backOf (W := 0) (rm6 l Z a0 hw [] b15 b5 b17 (0 : Int32) (1 : Int32) ma_16 oA_16 mb_16 iB_16 oB_16 sB_16 tB_16 zB_16 xrs_18 xmg_18 koA_16 kiB_16 koB_16 ksB_16 ktB_16 kzB_16 krs_18 kmg_18 k5 m0 m1 (FP.l2d 0) (FP.l2d 0) (FP.l2d 0) (FP.l2d 0) (0 : Int32) (1 : Int32) (0 : Int32) (0 : Int32) (2 : Int32) (0 : Int32) (0 : Int32) (0 : Int32) (0 : Int32) (0 : Int32) (0 : Int32) hj n0 (Nat.le_trans Zle K_.1) c16_6 c16_5 c16_3 (c16_9.keep K_ nin_ma_16) c16_20 (c16_14.keep K_ nin_mb_16) (c16_15.keep K_ nin_mb_16) (c16_16.keep K_ nin_mb_16) (c16_17.keep K_ nin_mb_16) (c16_18.keep K_ nin_mb_16) (c18_9.keep K_ nin_b17) (c18_8.keep K_ nin_b17) c16_24 c16_25 c16_26 c16_27 c16_28 c18_16 c18_15 (V_b5.keep K_ nin_b5) g_iB_16 g_oB_16 g_sB_16 g_tB_16 g_zB_16 g_xrs_18 g_xmg_18 (own_ndsub (own_incN C_) [7, 8, 10, 14, 15, 16, 17, 18, 19, 20, 27, 26, 1] (by decide) rfl) (own_srt_or own_srt0) (b_m0) (b_m1)) hZ (hw _ (own_m 73 rfl)) (hw _ (own_m 3 rfl)) (by decide) (by decide)) q19a q19c (g := (mkF m 147 (Ls57 x1 x2 x3 x4 x5 (FP.l2d y0) (FP.l2d y1) (FP.l2d y2) (FP.l2d m0) (FP.l2d m1) (FP.l2d w0) (FP.l2d w1) b1 b5 b8 b11 b12 b13 b14 b15 b17) [(.ref b17), (.ref b5), (.ref b15)])) rfl (by rw [hml]; rfl) (Steps.refl _) (argsL := [(.ref b5), (.ref b17)]) (rest := []) (lenOf pd_4 rfl) rfl (own_le rfl) (hb hby at_147) (fun _ _ => ⟨rfl, ej, (by decide : 46 + 0 ≤ _), (by decide : 137 + 0 ≤ _)⟩)
  dsimp only [Pt.U, Pt.locs, Pt.cells, Pt.slots] at X19 l19 y19 z19 st19 hQ19
  subst l19 y19 z19
  obtain ⟨pp_19, qq_19, z0_19, z1_19, v0_19, v1_19, t0_19, t1_19, r0_19, r1_19, r2_19, g0_19, g1_19, rfl, Nq19, c19_0, c19_1, c19_2, c19_3, c19_4, c19_5, c19_6, c19_7, c19_8⟩ := hQ19
  replace N_ := Fr.app N_ Nq19
  clear Nq19
  replace C_ := own_incM c19_0.1 C_
  replace V_b11 := V_b11.keep c19_0 (nn (own_incN C_) 3 [15, 16, 17, 18, 19, 27, 26])
  replace V_b12 := V_b12.keep c19_0 (nn (own_incN C_) 4 [15, 16, 17, 18, 19, 27, 26])
  replace V_b13 := V_b13.keep c19_0 (nn (own_incN C_) 5 [15, 16, 17, 18, 19, 27, 26])
  replace V_b14 := V_b14.keep c19_0 (nn (own_incN C_) 6 [15, 16, 17, 18, 19, 27, 26])
  replace c16_3 := c16_3.keep c19_0 (nn (own_incN C_) 7 [15, 16, 17, 18, 19, 27, 26])
  replace c16_4 := c16_4.keep c19_0 (nn (own_incN C_) 7 [15, 16, 17, 18, 19, 27, 26])
  replace c16_5 := c16_5.keep c19_0 (nn (own_incN C_) 7 [15, 16, 17, 18, 19, 27, 26])
  replace c16_6 := c16_6.keep c19_0 (nn (own_incN C_) 7 [15, 16, 17, 18, 19, 27, 26])
  replace c16_19 := c16_19.keep c19_0 (nn (own_incN C_) 9 [15, 16, 17, 18, 19, 27, 26])
  replace c16_20 := c16_20.keep c19_0 (nn (own_incN C_) 10 [15, 16, 17, 18, 19, 27, 26])
  replace c16_21 := c16_21.keep c19_0 (nn (own_incN C_) 11 [15, 16, 17, 18, 19, 27, 26])
  replace c16_22 := c16_22.keep c19_0 (nn (own_incN C_) 12 [15, 16, 17, 18, 19, 27, 26])
  replace c16_23 := c16_23.keep c19_0 (nn (own_incN C_) 13 [15, 16, 17, 18, 19, 27, 26])
  replace c18_10 := c18_10.keep c19_0 (nn (own_incN C_) 21 [15, 16, 17, 18, 19, 27, 26])
  replace c18_11 := c18_11.keep c19_0 (nn (own_incN C_) 22 [15, 16, 17, 18, 19, 27, 26])
  replace c18_12 := c18_12.keep c19_0 (nn (own_incN C_) 23 [15, 16, 17, 18, 19, 27, 26])
  replace c18_13 := c18_13.keep c19_0 (nn (own_incN C_) 24 [15, 16, 17, 18, 19, 27, 26])
  replace c18_14 := c18_14.keep c19_0 (nn (own_incN C_) 25 [15, 16, 17, 18, 19, 27, 26])
  replace K_ := K_.trans c19_0 (allS (Or.inl (List.mem_of_getElem? (i := 10) rfl)) (allS (Or.inl (List.mem_of_getElem? (i := 11) rfl)) (allS (Or.inl (List.mem_of_getElem? (i := 12) rfl)) (allS (Or.inl (List.mem_of_getElem? (i := 13) rfl)) (allS (Or.inl (List.mem_of_getElem? (i := 14) rfl)) (allS (Or.inl (List.mem_of_getElem? (i := 21) rfl)) (allS (Or.inl (List.mem_of_getElem? (i := 20) rfl)) all0)))))))
  refine own_by (T' := T19) (g' := (mkF m 150 (Ls57 x1 x2 x3 x4 x5 (FP.l2d y0) (FP.l2d y1) (FP.l2d y2) (FP.l2d m0) (FP.l2d m1) (FP.l2d w0) (FP.l2d w1) b1 b5 b8 b11 b12 b13 b14 b15 b17) [])) (fun t k => st19.trans k) ?_
  clear st19
  have srt150 := c19_1
  refine oAl 152 X19 hx (hb hby at_150) rfl rfl ?_
  refine oAl 154 X19 hx (hb hby at_152) rfl rfl ?_
  refine oAl 156 X19 hx (hb hby at_154) rfl rfl ?_
  obtain ⟨cq20, kq20, q20a, q20b, q20c⟩ := isOf hZ rfl (c16_2.keep K_)
  obtain ⟨_, _, ⟨T20, L20, k20, n20⟩, -, X20, ⟨Lc20, hQ20, l20, y20, z20⟩, st20⟩ := X19.virtualBack hx (y := (⟨"com/example/firebreak/firebreak/strategies/CountFactor", "answerAll", "([DLcom/example/firebreak/firebreak/strategies/CountFactor$Scratch;)V"⟩ : MethodName)) (z := (⟨"com/example/firebreak/firebreak/strategies/CountFactor", "answerAll", "([DLcom/example/firebreak/firebreak/strategies/CountFactor$Scratch;)V"⟩ : MethodName)) hown (mvT hZ (hw _ (own_m 85 rfl))) (mvT hZ (hw _ (own_m 86 rfl))) (notFace_of_selects (args := #[]) (mvT hZ (hw _ (own_m 88 rfl)))) (mvT hZ (hw _ (own_m 88 rfl))) (mvT hZ (hw _ (own_m 87 rfl))) (by decide) (backOf (W := 0) (rm7 l Z a0 hw [] b15 b11 b17 (0 : Int32) (1 : Int32) (2 : Int32) (0 : Int32) ma_16 sA_16 zA_16 oA_16 b1 xsu_18 xnu_18 xfu_18 xnf_18 xff_18 ksA_16 kzA_16 koA_16 k1 ksu_18 knu_18 kfu_18 knf_18 kff_18 k11 y0 y1 y2 0 0 (FP.l2d 0) (FP.l2d 0) (FP.l2d 0) (FP.l2d 0) (FP.l2d 0) (FP.l2d 0) (FP.l2d 0) (FP.l2d 0) (FP.l2d 0) (FP.l2d 0) (FP.l2d 0) (FP.l2d 0) (FP.l2d 0) (FP.l2d 0) (FP.l2d 0) (FP.l2d 0) (FP.l2d 0) (FP.l2d 0) T19.heap n0 (Nat.le_trans Zle K_.1) c16_5 c16_3 c16_4 (V_b1.keep K_ nin_b1) (c16_10.keep K_ nin_ma_16) (c16_12.keep K_ nin_ma_16) (c16_9.keep K_ nin_ma_16) c16_21 c16_23 c16_20 (c18_3.keep K_ nin_b17) (c18_4.keep K_ nin_b17) (c18_5.keep K_ nin_b17) (c18_6.keep K_ nin_b17) (c18_7.keep K_ nin_b17) c18_10 c18_11 c18_12 c18_13 c18_14 V_b11 g_xsu_18 g_xnu_18 g_xfu_18 g_xnf_18 g_xff_18 g_b11 (own_ndsub (own_incN C_) [7, 8, 11, 13, 10, 0, 20, 21, 22, 23, 24, 25, 3] (by decide) rfl) (b_y0) (b_y1) (b_y2) ((own_srt_bd own_srt0 own_b063 own_b063).1) ((own_srt_bd own_srt0 own_b063 own_b063).2) (own_srt_case own_srt0)) hZ (hw _ (own_m 89 rfl)) (hw _ (own_m 3 rfl)) (by decide) (by decide)) q20a q20c (g := (mkF m 156 (Ls57 x1 x2 x3 x4 x5 (FP.l2d y0) (FP.l2d y1) (FP.l2d y2) (FP.l2d m0) (FP.l2d m1) (FP.l2d w0) (FP.l2d w1) b1 b5 b8 b11 b12 b13 b14 b15 b17) [(.ref b17), (.ref b11), (.ref b15)])) rfl (by rw [hml]; rfl) (Steps.refl _) (argsL := [(.ref b11), (.ref b17)]) (rest := []) (lenOf pd_4 rfl) rfl (own_le rfl) (hb hby at_156) (fun _ _ => ⟨rfl, rfl, (by decide : 46 + 0 ≤ _), (by decide : 137 + 0 ≤ _)⟩)
  dsimp only [Pt.U, Pt.locs, Pt.cells, Pt.slots] at X20 l20 y20 z20 st20 hQ20
  subst l20 y20 z20
  obtain ⟨esu1_20, esu2_20, enu0_20, enu1_20, enu2_20, efu0_20, efu1_20, efu2_20, enf0_20, enf1_20, enf2_20, enf3_20, eff0_20, eff1_20, eff2_20, eff3_20, rfl, Nq20, c20_0, c20_1, c20_2, c20_3, c20_4, c20_5, c20_6⟩ := hQ20
  replace N_ := Fr.app N_ Nq20
  clear Nq20
  replace C_ := own_incM c20_0.1 C_
  replace V_b12 := V_b12.keep c20_0 (nn (own_incN C_) 4 [21, 22, 23, 24, 25, 3])
  replace V_b13 := V_b13.keep c20_0 (nn (own_incN C_) 5 [21, 22, 23, 24, 25, 3])
  replace V_b14 := V_b14.keep c20_0 (nn (own_incN C_) 6 [21, 22, 23, 24, 25, 3])
  replace c16_3 := c16_3.keep c20_0 (nn (own_incN C_) 7 [21, 22, 23, 24, 25, 3])
  replace c16_4 := c16_4.keep c20_0 (nn (own_incN C_) 7 [21, 22, 23, 24, 25, 3])
  replace c16_5 := c16_5.keep c20_0 (nn (own_incN C_) 7 [21, 22, 23, 24, 25, 3])
  replace c16_6 := c16_6.keep c20_0 (nn (own_incN C_) 7 [21, 22, 23, 24, 25, 3])
  replace c16_19 := c16_19.keep c20_0 (nn (own_incN C_) 9 [21, 22, 23, 24, 25, 3])
  replace c16_20 := c16_20.keep c20_0 (nn (own_incN C_) 10 [21, 22, 23, 24, 25, 3])
  replace c16_21 := c16_21.keep c20_0 (nn (own_incN C_) 11 [21, 22, 23, 24, 25, 3])
  replace c16_22 := c16_22.keep c20_0 (nn (own_incN C_) 12 [21, 22, 23, 24, 25, 3])
  replace c16_23 := c16_23.keep c20_0 (nn (own_incN C_) 13 [21, 22, 23, 24, 25, 3])
  replace K_ := K_.trans c20_0 (allS (Or.inl (List.mem_of_getElem? (i := 15) rfl)) (allS (Or.inl (List.mem_of_getElem? (i := 16) rfl)) (allS (Or.inl (List.mem_of_getElem? (i := 17) rfl)) (allS (Or.inl (List.mem_of_getElem? (i := 18) rfl)) (allS (Or.inl (List.mem_of_getElem? (i := 19) rfl)) (allS (Or.inl (List.mem_of_getElem? (i := 1) rfl)) all0))))))
  replace c19_2 := c19_2.keep c20_0 (nn (own_incN C_) 15 [21, 22, 23, 24, 25, 3])
  replace c19_3 := c19_3.keep c20_0 (nn (own_incN C_) 16 [21, 22, 23, 24, 25, 3])
  replace c19_4 := c19_4.keep c20_0 (nn (own_incN C_) 17 [21, 22, 23, 24, 25, 3])
  replace c19_5 := c19_5.keep c20_0 (nn (own_incN C_) 18 [21, 22, 23, 24, 25, 3])
  replace c19_6 := c19_6.keep c20_0 (nn (own_incN C_) 19 [21, 22, 23, 24, 25, 3])
  replace c19_7 := c19_7.keep c20_0 (nn (own_incN C_) 27 [21, 22, 23, 24, 25, 3])
  replace c19_8 := c19_8.keep c20_0 (nn (own_incN C_) 26 [21, 22, 23, 24, 25, 3])
  refine own_by (T' := T20) (g' := (mkF m 159 (Ls57 x1 x2 x3 x4 x5 (FP.l2d y0) (FP.l2d y1) (FP.l2d y2) (FP.l2d m0) (FP.l2d m1) (FP.l2d w0) (FP.l2d w1) b1 b5 b8 b11 b12 b13 b14 b15 b17) [])) (fun t k => st20.trans k) ?_
  clear st20 X19
  have ho159 := own_srt_out own_srt0 y0 y1 y2
  rw [ho159.1, ho159.2] at c20_6
  refine oAl 161 X20 hx (hb hby at_159) rfl rfl ?_
  refine oDl 163 X20 hx (hb hby at_161) rfl rfl ?_
  refine oDl 165 X20 hx (hb hby at_163) rfl rfl ?_
  refine oDl 167 X20 hx (hb hby at_165) rfl rfl ?_
  refine own_by (g' := (mkF m 168 (Ls57 x1 x2 x3 x4 x5 (FP.l2d y0) (FP.l2d y1) (FP.l2d y2) (FP.l2d m0) (FP.l2d m1) (FP.l2d w0) (FP.l2d w1) b1 b5 b8 b11 b12 b13 b14 b15 b17) [(.double (FP.l2d 0)), (.double (FP.l2d y2)), (.double (FP.l2d y1)), (.double (FP.l2d y0)), (.ref b11)])) (fun t k => XS.dconst0 X20.here hx rfl (hb hby at_167) (by rw [l2d_zero]; rfl) k) ?_
  refine own_by (g' := (mkF m 169 (Ls57 x1 x2 x3 x4 x5 (FP.l2d y0) (FP.l2d y1) (FP.l2d y2) (FP.l2d m0) (FP.l2d m1) (FP.l2d w0) (FP.l2d w1) b1 b5 b8 b11 b12 b13 b14 b15 b17) [(.double (FP.l2d 0)), (.double (FP.l2d 0)), (.double (FP.l2d y2)), (.double (FP.l2d y1)), (.double (FP.l2d y0)), (.ref b11)])) (fun t k => XS.dconst0 X20.here hx rfl (hb hby at_168) (by rw [l2d_zero]; rfl) k) ?_
  obtain ⟨_, _, ⟨T21, L21, k21, n21⟩, -, X21, ⟨Lc21, hQ21, l21, y21, z21⟩, st21⟩ := Jvm.LawKit.callS X20 hx (y := (⟨"com/example/firebreak/firebreak/strategies/CountFactorTakeReceivedPinLaw", "agrees", "([DDDDDD)Z"⟩ : MethodName)) hown (mvT hZ (hw _ (own_m 100 rfl))) (mvT hZ (hw _ (own_m 101 rfl))) (mvT hZ (hw _ (own_m 102 rfl))) (mvT hZ (hw _ (own_m 103 rfl))) (by decide) (backOf (W := 0) (rm9 l Z a0 hw [] b11 y0 y1 y2 0 0 k11 T20.heap n0 (Nat.le_trans Zle K_.1) c20_6 (b_y0) (b_y1) (b_y2) (own_b063) (own_b063)) hZ (hw _ (own_m 103 rfl)) (hw _ (own_m 102 rfl)) (by decide) (by decide)) (g := (mkF m 169 (Ls57 x1 x2 x3 x4 x5 (FP.l2d y0) (FP.l2d y1) (FP.l2d y2) (FP.l2d m0) (FP.l2d m1) (FP.l2d w0) (FP.l2d w1) b1 b5 b8 b11 b12 b13 b14 b15 b17) [(.double (FP.l2d 0)), (.double (FP.l2d 0)), (.double (FP.l2d y2)), (.double (FP.l2d y1)), (.double (FP.l2d y0)), (.ref b11)])) rfl (by rw [hml]; rfl) (argsL := [(.ref b11), (.double (FP.l2d y0)), (.double (FP.l2d y1)), (.double (FP.l2d y2)), (.double (FP.l2d 0)), (.double (FP.l2d 0))]) (rest := []) (lenOf pd_6 rfl) rfl (own_le rfl) (hb hby at_169) (fun _ _ => ⟨rfl, rfl, (by decide : 46 + 0 ≤ _), (by decide : 137 + 0 ≤ _)⟩)
  dsimp only [Pt.U, Pt.locs, Pt.cells, Pt.slots] at X21 l21 y21 z21 st21 hQ21
  subst l21 y21 z21
  obtain ⟨rfl, Nq21, e21⟩ := hQ21
  replace N_ := Fr.app N_ Nq21
  clear Nq21
  refine own_by (T' := T21) (g' := (mkF m 172 (Ls57 x1 x2 x3 x4 x5 (FP.l2d y0) (FP.l2d y1) (FP.l2d y2) (FP.l2d m0) (FP.l2d m1) (FP.l2d w0) (FP.l2d w1) b1 b5 b8 b11 b12 b13 b14 b15 b17) [(.int 1)])) (fun t k => st21 _ k) ?_
  clear st21 X20
  refine oIst 174 X21 hx (hb hby at_172) (Ls58 x1 x2 x3 x4 x5 (FP.l2d y0) (FP.l2d y1) (FP.l2d y2) (FP.l2d m0) (FP.l2d m1) (FP.l2d w0) (FP.l2d w1) b1 b5 b8 b11 b12 b13 b14 b15 b17 1) rfl rfl ?_
  refine oAl 176 X21 hx (hb hby at_174) rfl rfl ?_
  obtain ⟨cq22, kq22, q22a, q22b, q22c⟩ := isOf hZ e21 (c16_2.keep K_)
  obtain ⟨_, _, ⟨T22, L22, k22, n22⟩, -, X22, ⟨Lc22, hQ22, l22, y22, z22⟩, st22⟩ := X21.virtualBack hx (y := (⟨"com/example/firebreak/firebreak/strategies/CountFactor", "takeReceived", "()V"⟩ : MethodName)) (z := (⟨"com/example/firebreak/firebreak/strategies/CountFactor", "takeReceived", "()V"⟩ : MethodName)) hown (mvT hZ (hw _ (own_m 110 rfl))) (mvT hZ (hw _ (own_m 111 rfl))) (notFace_of_selects (args := #[]) (mvT hZ (hw _ (own_m 113 rfl)))) (mvT hZ (hw _ (own_m 113 rfl))) (mvT hZ (hw _ (own_m 112 rfl))) (by decide) (backOf (W := 0) (rm12 l Z a0 hw [] b15 ma_16 mb_16 b1 T20.heap n0 (Nat.le_trans Zle K_.1) (c16_2.keep K_) g_b15 c16_3 c16_4 c16_5 c16_6) hZ (hw _ (own_m 114 rfl)) (hw _ (own_m 3 rfl)) (by decide) (by decide)) q22a q22c (g := (mkF m 176 (Ls58 x1 x2 x3 x4 x5 (FP.l2d y0) (FP.l2d y1) (FP.l2d y2) (FP.l2d m0) (FP.l2d m1) (FP.l2d w0) (FP.l2d w1) b1 b5 b8 b11 b12 b13 b14 b15 b17 1) [(.ref b15)])) rfl (by rw [hml]; rfl) (Steps.refl _) (argsL := []) (rest := []) (lenOf pd_1 rfl) rfl (own_le rfl) (hb hby at_176) (fun _ _ => ⟨rfl, e21, (by decide : 46 + 0 ≤ _), (by decide : 137 + 0 ≤ _)⟩)
  dsimp only [Pt.U, Pt.locs, Pt.cells, Pt.slots] at X22 l22 y22 z22 st22 hQ22
  subst l22 y22 z22
  obtain ⟨rfl, Nq22, c22_0, c22_1, c22_2, c22_3, c22_4, c22_5⟩ := hQ22
  replace N_ := Fr.app N_ Nq22
  clear Nq22
  replace C_ := own_incM c22_0.1 C_
  replace V_b12 := V_b12.keep c22_0 (ninS (nd (own_incN C_) 4 7) nin0)
  replace V_b13 := V_b13.keep c22_0 (ninS (nd (own_incN C_) 5 7) nin0)
  replace V_b14 := V_b14.keep c22_0 (ninS (nd (own_incN C_) 6 7) nin0)
  replace c16_19 := c16_19.keep c22_0 (ninS (nd (own_incN C_) 9 7) nin0)
  replace c16_20 := c16_20.keep c22_0 (ninS (nd (own_incN C_) 10 7) nin0)
  replace c16_21 := c16_21.keep c22_0 (ninS (nd (own_incN C_) 11 7) nin0)
  replace c16_22 := c16_22.keep c22_0 (ninS (nd (own_incN C_) 12 7) nin0)
  replace c16_23 := c16_23.keep c22_0 (ninS (nd (own_incN C_) 13 7) nin0)
  replace K_ := K_.trans c22_0 (allS (Or.inl (List.mem_of_getElem? (i := 0) rfl)) all0)
  replace c19_2 := c19_2.keep c22_0 (ninS (nd (own_incN C_) 15 7) nin0)
  replace c19_3 := c19_3.keep c22_0 (ninS (nd (own_incN C_) 16 7) nin0)
  replace c19_4 := c19_4.keep c22_0 (ninS (nd (own_incN C_) 17 7) nin0)
  replace c19_5 := c19_5.keep c22_0 (ninS (nd (own_incN C_) 18 7) nin0)
  replace c19_6 := c19_6.keep c22_0 (ninS (nd (own_incN C_) 19 7) nin0)
  replace c19_7 := c19_7.keep c22_0 (ninS (nd (own_incN C_) 27 7) nin0)
  replace c19_8 := c19_8.keep c22_0 (ninS (nd (own_incN C_) 26 7) nin0)
  replace c20_1 := c20_1.keep c22_0 (ninS (nd (own_incN C_) 21 7) nin0)
  replace c20_2 := c20_2.keep c22_0 (ninS (nd (own_incN C_) 22 7) nin0)
  replace c20_3 := c20_3.keep c22_0 (ninS (nd (own_incN C_) 23 7) nin0)
  replace c20_4 := c20_4.keep c22_0 (ninS (nd (own_incN C_) 24 7) nin0)
  replace c20_5 := c20_5.keep c22_0 (ninS (nd (own_incN C_) 25 7) nin0)
  replace c20_6 := c20_6.keep c22_0 (ninS (nd (own_incN C_) 3 7) nin0)
  refine own_by (T' := T22) (g' := (mkF m 179 (Ls58 x1 x2 x3 x4 x5 (FP.l2d y0) (FP.l2d y1) (FP.l2d y2) (FP.l2d m0) (FP.l2d m1) (FP.l2d w0) (FP.l2d w1) b1 b5 b8 b11 b12 b13 b14 b15 b17 1) [])) (fun t k => st22.trans k) ?_
  clear st22 X21 e21
  refine oAl 181 X22 hx (hb hby at_179) rfl rfl ?_
  refine oAl 183 X22 hx (hb hby at_181) rfl rfl ?_
  refine oAl 185 X22 hx (hb hby at_183) rfl rfl ?_
  obtain ⟨cq23, kq23, q23a, q23b, q23c⟩ := isOf hZ rfl c22_1
  obtain ⟨_, _, ⟨T23, L23, k23, n23⟩, -, X23, ⟨Lc23, hQ23, l23, y23, z23⟩, st23⟩ := X22.virtualBack hx (y := (⟨"com/example/firebreak/firebreak/strategies/CountFactor", "answerAll", "([DLcom/example/firebreak/firebreak/strategies/CountFactor$Scratch;)V"⟩ : MethodName)) (z := (⟨"com/example/firebreak/firebreak/strategies/CountFactor", "answerAll", "([DLcom/example/firebreak/firebreak/strategies/CountFactor$Scratch;)V"⟩ : MethodName)) hown (mvT hZ (hw _ (own_m 85 rfl))) (mvT hZ (hw _ (own_m 86 rfl))) (notFace_of_selects (args := #[]) (mvT hZ (hw _ (own_m 88 rfl)))) (mvT hZ (hw _ (own_m 88 rfl))) (mvT hZ (hw _ (own_m 87 rfl))) (by decide) (backOf (W := 0) (rm7 l Z a0 hw [] b15 b12 b17 pp_19 qq_19 z0_19 z1_19 mb_16 sB_16 zB_16 oB_16 b1 xsu_18 xnu_18 xfu_18 xnf_18 xff_18 ksB_16 kzB_16 koB_16 k1 ksu_18 knu_18 kfu_18 knf_18 kff_18 k12 y0 y1 y2 v0_19 v1_19 esu1_20 esu2_20 enu0_20 enu1_20 enu2_20 efu0_20 efu1_20 efu2_20 enf0_20 enf1_20 enf2_20 enf3_20 eff0_20 eff1_20 eff2_20 eff3_20 (FP.l2d 0) (FP.l2d 0) T22.heap n0 (Nat.le_trans Zle K_.1) c22_4 c22_2 c22_3 (V_b1.keep K_ nin_b1) (c16_16.keep K_ nin_mb_16) (c16_18.keep K_ nin_mb_16) (c16_15.keep K_ nin_mb_16) c19_4 c19_6 c19_3 (c18_3.keep K_ nin_b17) (c18_4.keep K_ nin_b17) (c18_5.keep K_ nin_b17) (c18_6.keep K_ nin_b17) (c18_7.keep K_ nin_b17) c20_1 c20_2 c20_3 c20_4 c20_5 V_b12 g_xsu_18 g_xnu_18 g_xfu_18 g_xnf_18 g_xff_18 g_b12 (own_ndsub (own_incN C_) [7, 14, 17, 19, 16, 0, 20, 21, 22, 23, 24, 25, 4] (by decide) rfl) (b_y0) (b_y1) (b_y2) ((own_srt_bd srt150 b_m0 b_m1).1) ((own_srt_bd srt150 b_m0 b_m1).2) (own_srt_case srt150)) hZ (hw _ (own_m 89 rfl)) (hw _ (own_m 3 rfl)) (by decide) (by decide)) q23a q23c (g := (mkF m 185 (Ls58 x1 x2 x3 x4 x5 (FP.l2d y0) (FP.l2d y1) (FP.l2d y2) (FP.l2d m0) (FP.l2d m1) (FP.l2d w0) (FP.l2d w1) b1 b5 b8 b11 b12 b13 b14 b15 b17 1) [(.ref b17), (.ref b12), (.ref b15)])) rfl (by rw [hml]; rfl) (Steps.refl _) (argsL := [(.ref b12), (.ref b17)]) (rest := []) (lenOf pd_4 rfl) rfl (own_le rfl) (hb hby at_185) (fun _ _ => ⟨rfl, rfl, (by decide : 46 + 0 ≤ _), (by decide : 137 + 0 ≤ _)⟩)
  dsimp only [Pt.U, Pt.locs, Pt.cells, Pt.slots] at X23 l23 y23 z23 st23 hQ23
  subst l23 y23 z23
  obtain ⟨esu1_23, esu2_23, enu0_23, enu1_23, enu2_23, efu0_23, efu1_23, efu2_23, enf0_23, enf1_23, enf2_23, enf3_23, eff0_23, eff1_23, eff2_23, eff3_23, rfl, Nq23, c23_0, c23_1, c23_2, c23_3, c23_4, c23_5, c23_6⟩ := hQ23
  replace N_ := Fr.app N_ Nq23
  clear Nq23
  replace C_ := own_incM c23_0.1 C_
  replace V_b13 := V_b13.keep c23_0 (nn (own_incN C_) 5 [21, 22, 23, 24, 25, 4])
  replace V_b14 := V_b14.keep c23_0 (nn (own_incN C_) 6 [21, 22, 23, 24, 25, 4])
  replace c22_1 := c22_1.keep c23_0
  replace c16_19 := c16_19.keep c23_0 (nn (own_incN C_) 9 [21, 22, 23, 24, 25, 4])
  replace c16_20 := c16_20.keep c23_0 (nn (own_incN C_) 10 [21, 22, 23, 24, 25, 4])
  replace c16_21 := c16_21.keep c23_0 (nn (own_incN C_) 11 [21, 22, 23, 24, 25, 4])
  replace c16_22 := c16_22.keep c23_0 (nn (own_incN C_) 12 [21, 22, 23, 24, 25, 4])
  replace c16_23 := c16_23.keep c23_0 (nn (own_incN C_) 13 [21, 22, 23, 24, 25, 4])
  replace K_ := K_.trans c23_0 (allS (Or.inl (List.mem_of_getElem? (i := 15) rfl)) (allS (Or.inl (List.mem_of_getElem? (i := 16) rfl)) (allS (Or.inl (List.mem_of_getElem? (i := 17) rfl)) (allS (Or.inl (List.mem_of_getElem? (i := 18) rfl)) (allS (Or.inl (List.mem_of_getElem? (i := 19) rfl)) (allS (Or.inl (List.mem_of_getElem? (i := 2) rfl)) all0))))))
  replace c19_2 := c19_2.keep c23_0 (nn (own_incN C_) 15 [21, 22, 23, 24, 25, 4])
  replace c19_3 := c19_3.keep c23_0 (nn (own_incN C_) 16 [21, 22, 23, 24, 25, 4])
  replace c19_4 := c19_4.keep c23_0 (nn (own_incN C_) 17 [21, 22, 23, 24, 25, 4])
  replace c19_5 := c19_5.keep c23_0 (nn (own_incN C_) 18 [21, 22, 23, 24, 25, 4])
  replace c19_6 := c19_6.keep c23_0 (nn (own_incN C_) 19 [21, 22, 23, 24, 25, 4])
  replace c19_7 := c19_7.keep c23_0 (nn (own_incN C_) 27 [21, 22, 23, 24, 25, 4])
  replace c19_8 := c19_8.keep c23_0 (nn (own_incN C_) 26 [21, 22, 23, 24, 25, 4])
  replace c20_6 := c20_6.keep c23_0 (nn (own_incN C_) 3 [21, 22, 23, 24, 25, 4])
  replace c22_2 := c22_2.keep c23_0 (nn (own_incN C_) 7 [21, 22, 23, 24, 25, 4])
  replace c22_3 := c22_3.keep c23_0 (nn (own_incN C_) 7 [21, 22, 23, 24, 25, 4])
  replace c22_4 := c22_4.keep c23_0 (nn (own_incN C_) 7 [21, 22, 23, 24, 25, 4])
  replace c22_5 := c22_5.keep c23_0 (nn (own_incN C_) 7 [21, 22, 23, 24, 25, 4])
  refine own_by (T' := T23) (g' := (mkF m 188 (Ls58 x1 x2 x3 x4 x5 (FP.l2d y0) (FP.l2d y1) (FP.l2d y2) (FP.l2d m0) (FP.l2d m1) (FP.l2d w0) (FP.l2d w1) b1 b5 b8 b11 b12 b13 b14 b15 b17 1) [])) (fun t k => st23.trans k) ?_
  clear st23 X22
  have ho188 := own_srt_out srt150 y0 y1 y2
  rw [ho188.1, ho188.2] at c23_6
  refine oIl 190 X23 hx (hb hby at_188) rfl rfl ?_
  refine oFn 193 X23 hx (hb hby at_190) ((if0 _ _).trans (feq (by decide)).1) rfl ?_
  refine oAl 195 X23 hx (hb hby at_193) rfl rfl ?_
  refine oDl 197 X23 hx (hb hby at_195) rfl rfl ?_
  refine oDl 199 X23 hx (hb hby at_197) rfl rfl ?_
  refine oDl 201 X23 hx (hb hby at_199) rfl rfl ?_
  refine oDl 203 X23 hx (hb hby at_201) rfl rfl ?_
  refine oDl 205 X23 hx (hb hby at_203) rfl rfl ?_
  obtain ⟨_, _, ⟨T24, L24, k24, n24⟩, -, X24, ⟨Lc24, hQ24, l24, y24, z24⟩, st24⟩ := Jvm.LawKit.callS X23 hx (y := (⟨"com/example/firebreak/firebreak/strategies/CountFactorTakeReceivedPinLaw", "agrees", "([DDDDDD)Z"⟩ : MethodName)) hown (mvT hZ (hw _ (own_m 100 rfl))) (mvT hZ (hw _ (own_m 101 rfl))) (mvT hZ (hw _ (own_m 102 rfl))) (mvT hZ (hw _ (own_m 103 rfl))) (by decide) (backOf (W := 0) (rm9 l Z a0 hw [] b12 y0 y1 y2 m0 m1 k12 T23.heap n0 (Nat.le_trans Zle K_.1) c23_6 (b_y0) (b_y1) (b_y2) (b_m0) (b_m1)) hZ (hw _ (own_m 103 rfl)) (hw _ (own_m 102 rfl)) (by decide) (by decide)) (g := (mkF m 205 (Ls58 x1 x2 x3 x4 x5 (FP.l2d y0) (FP.l2d y1) (FP.l2d y2) (FP.l2d m0) (FP.l2d m1) (FP.l2d w0) (FP.l2d w1) b1 b5 b8 b11 b12 b13 b14 b15 b17 1) [(.double (FP.l2d m1)), (.double (FP.l2d m0)), (.double (FP.l2d y2)), (.double (FP.l2d y1)), (.double (FP.l2d y0)), (.ref b12)])) rfl (by rw [hml]; rfl) (argsL := [(.ref b12), (.double (FP.l2d y0)), (.double (FP.l2d y1)), (.double (FP.l2d y2)), (.double (FP.l2d m0)), (.double (FP.l2d m1))]) (rest := []) (lenOf pd_6 rfl) rfl (own_le rfl) (hb hby at_205) (fun _ _ => ⟨rfl, rfl, (by decide : 46 + 0 ≤ _), (by decide : 137 + 0 ≤ _)⟩)
  dsimp only [Pt.U, Pt.locs, Pt.cells, Pt.slots] at X24 l24 y24 z24 st24 hQ24
  subst l24 y24 z24
  obtain ⟨rfl, Nq24, e24⟩ := hQ24
  replace N_ := Fr.app N_ Nq24
  clear Nq24
  refine own_by (T' := T24) (g' := (mkF m 208 (Ls58 x1 x2 x3 x4 x5 (FP.l2d y0) (FP.l2d y1) (FP.l2d y2) (FP.l2d m0) (FP.l2d m1) (FP.l2d w0) (FP.l2d w1) b1 b5 b8 b11 b12 b13 b14 b15 b17 1) [(.int 1)])) (fun t k => st24 _ k) ?_
  clear st24 X23
  refine oFn 211 X24 hx (hb hby at_208) ((if0 _ _).trans (feq (by decide)).1) rfl ?_
  refine oIc 212 X24 hx (hb hby at_211) 1 rfl rfl ?_
  refine oGo 216 X24 hx (hb hby at_212) (by decide) (by decide) ?_
  refine oIst 218 X24 hx (hb hby at_216) (Ls58 x1 x2 x3 x4 x5 (FP.l2d y0) (FP.l2d y1) (FP.l2d y2) (FP.l2d m0) (FP.l2d m1) (FP.l2d w0) (FP.l2d w1) b1 b5 b8 b11 b12 b13 b14 b15 b17 1) rfl rfl ?_
  refine oAl 220 X24 hx (hb hby at_218) rfl rfl ?_
  refine oAl 222 X24 hx (hb hby at_220) rfl rfl ?_
  refine oAl 224 X24 hx (hb hby at_222) rfl rfl ?_
  obtain ⟨cq25, kq25, q25a, q25b, q25c⟩ := isOf hZ e24 c22_1
  obtain ⟨_, _, ⟨T25, L25, k25, n25⟩, -, X25, ⟨Lc25, hQ25, l25, y25, z25⟩, st25⟩ := X24.virtualBack hx (y := (⟨"com/example/firebreak/firebreak/strategies/CountFactor", "receive", "([DLcom/example/firebreak/firebreak/strategies/CountFactor$Scratch;)V"⟩ : MethodName)) (z := (⟨"com/example/firebreak/firebreak/strategies/CountFactor", "receive", "([DLcom/example/firebreak/firebreak/strategies/CountFactor$Scratch;)V"⟩ : MethodName)) hown (mvT hZ (hw _ (own_m 69 rfl))) (mvT hZ (hw _ (own_m 70 rfl))) (notFace_of_selects (args := #[]) (mvT hZ (hw _ (own_m 72 rfl)))) (mvT hZ (hw _ (own_m 72 rfl))) (mvT hZ (hw _ (own_m 71 rfl))) (by decide) (backOf (W := 0) (rm6 l Z a0 hw [] b15 b8 b17 pp_19 qq_19 mb_16 oB_16 ma_16 iA_16 oA_16 sA_16 tA_16 zA_16 xrs_18 xmg_18 koB_16 kiA_16 koA_16 ksA_16 ktA_16 kzA_16 krs_18 kmg_18 k8 w0 w1 (FP.l2d 0) (FP.l2d 0) (FP.l2d 0) (FP.l2d 0) (0 : Int32) (1 : Int32) (0 : Int32) (0 : Int32) (2 : Int32) (0 : Int32) r0_19 r1_19 r2_19 g0_19 g1_19 T23.heap n0 (Nat.le_trans Zle K_.1) c22_5 c22_4 c22_2 (c16_15.keep K_ nin_mb_16) c19_3 (c16_8.keep K_ nin_ma_16) (c16_9.keep K_ nin_ma_16) (c16_10.keep K_ nin_ma_16) (c16_11.keep K_ nin_ma_16) (c16_12.keep K_ nin_ma_16) (c18_9.keep K_ nin_b17) (c18_8.keep K_ nin_b17) c16_19 c16_20 c16_21 c16_22 c16_23 c19_7 c19_8 (V_b8.keep K_ nin_b8) g_iA_16 g_oA_16 g_sA_16 g_tA_16 g_zA_16 g_xrs_18 g_xmg_18 (own_ndsub (own_incN C_) [7, 14, 16, 8, 9, 10, 11, 12, 13, 20, 27, 26, 2] (by decide) rfl) (own_srt_or srt150) (b_w0) (b_w1)) hZ (hw _ (own_m 73 rfl)) (hw _ (own_m 3 rfl)) (by decide) (by decide)) q25a q25c (g := (mkF m 224 (Ls58 x1 x2 x3 x4 x5 (FP.l2d y0) (FP.l2d y1) (FP.l2d y2) (FP.l2d m0) (FP.l2d m1) (FP.l2d w0) (FP.l2d w1) b1 b5 b8 b11 b12 b13 b14 b15 b17 1) [(.ref b17), (.ref b8), (.ref b15)])) rfl (by rw [hml]; rfl) (Steps.refl _) (argsL := [(.ref b8), (.ref b17)]) (rest := []) (lenOf pd_4 rfl) rfl (own_le rfl) (hb hby at_224) (fun _ _ => ⟨rfl, e24, (by decide : 46 + 0 ≤ _), (by decide : 137 + 0 ≤ _)⟩)
  dsimp only [Pt.U, Pt.locs, Pt.cells, Pt.slots] at X25 l25 y25 z25 st25 hQ25
  subst l25 y25 z25
  obtain ⟨pp_25, qq_25, z0_25, z1_25, v0_25, v1_25, t0_25, t1_25, r0_25, r1_25, r2_25, g0_25, g1_25, rfl, Nq25, c25_0, c25_1, c25_2, c25_3, c25_4, c25_5, c25_6, c25_7, c25_8⟩ := hQ25
  replace N_ := Fr.app N_ Nq25
  clear Nq25
  replace C_ := own_incM c25_0.1 C_
  replace V_b13 := V_b13.keep c25_0 (nn (own_incN C_) 5 [9, 10, 11, 12, 13, 27, 26])
  replace V_b14 := V_b14.keep c25_0 (nn (own_incN C_) 6 [9, 10, 11, 12, 13, 27, 26])
  replace c22_1 := c22_1.keep c25_0
  replace K_ := K_.trans c25_0 (allS (Or.inl (List.mem_of_getElem? (i := 5) rfl)) (allS (Or.inl (List.mem_of_getElem? (i := 6) rfl)) (allS (Or.inl (List.mem_of_getElem? (i := 7) rfl)) (allS (Or.inl (List.mem_of_getElem? (i := 8) rfl)) (allS (Or.inl (List.mem_of_getElem? (i := 9) rfl)) (allS (Or.inl (List.mem_of_getElem? (i := 21) rfl)) (allS (Or.inl (List.mem_of_getElem? (i := 20) rfl)) all0)))))))
  replace c19_2 := c19_2.keep c25_0 (nn (own_incN C_) 15 [9, 10, 11, 12, 13, 27, 26])
  replace c19_3 := c19_3.keep c25_0 (nn (own_incN C_) 16 [9, 10, 11, 12, 13, 27, 26])
  replace c19_4 := c19_4.keep c25_0 (nn (own_incN C_) 17 [9, 10, 11, 12, 13, 27, 26])
  replace c19_5 := c19_5.keep c25_0 (nn (own_incN C_) 18 [9, 10, 11, 12, 13, 27, 26])
  replace c19_6 := c19_6.keep c25_0 (nn (own_incN C_) 19 [9, 10, 11, 12, 13, 27, 26])
  replace c20_6 := c20_6.keep c25_0 (nn (own_incN C_) 3 [9, 10, 11, 12, 13, 27, 26])
  replace c22_2 := c22_2.keep c25_0 (nn (own_incN C_) 7 [9, 10, 11, 12, 13, 27, 26])
  replace c22_3 := c22_3.keep c25_0 (nn (own_incN C_) 7 [9, 10, 11, 12, 13, 27, 26])
  replace c22_4 := c22_4.keep c25_0 (nn (own_incN C_) 7 [9, 10, 11, 12, 13, 27, 26])
  replace c22_5 := c22_5.keep c25_0 (nn (own_incN C_) 7 [9, 10, 11, 12, 13, 27, 26])
  replace c23_1 := c23_1.keep c25_0 (nn (own_incN C_) 21 [9, 10, 11, 12, 13, 27, 26])
  replace c23_2 := c23_2.keep c25_0 (nn (own_incN C_) 22 [9, 10, 11, 12, 13, 27, 26])
  replace c23_3 := c23_3.keep c25_0 (nn (own_incN C_) 23 [9, 10, 11, 12, 13, 27, 26])
  replace c23_4 := c23_4.keep c25_0 (nn (own_incN C_) 24 [9, 10, 11, 12, 13, 27, 26])
  replace c23_5 := c23_5.keep c25_0 (nn (own_incN C_) 25 [9, 10, 11, 12, 13, 27, 26])
  replace c23_6 := c23_6.keep c25_0 (nn (own_incN C_) 4 [9, 10, 11, 12, 13, 27, 26])
  refine own_by (T' := T25) (g' := (mkF m 227 (Ls58 x1 x2 x3 x4 x5 (FP.l2d y0) (FP.l2d y1) (FP.l2d y2) (FP.l2d m0) (FP.l2d m1) (FP.l2d w0) (FP.l2d w1) b1 b5 b8 b11 b12 b13 b14 b15 b17 1) [])) (fun t k => st25.trans k) ?_
  clear st25 X24 e24
  have srt227 := c25_1
  refine oAl 229 X25 hx (hb hby at_227) rfl rfl ?_
  refine oAl 231 X25 hx (hb hby at_229) rfl rfl ?_
  refine oAl 233 X25 hx (hb hby at_231) rfl rfl ?_
  obtain ⟨cq26, kq26, q26a, q26b, q26c⟩ := isOf hZ rfl c22_1
  obtain ⟨_, _, ⟨T26, L26, k26, n26⟩, -, X26, ⟨Lc26, hQ26, l26, y26, z26⟩, st26⟩ := X25.virtualBack hx (y := (⟨"com/example/firebreak/firebreak/strategies/CountFactor", "answerAll", "([DLcom/example/firebreak/firebreak/strategies/CountFactor$Scratch;)V"⟩ : MethodName)) (z := (⟨"com/example/firebreak/firebreak/strategies/CountFactor", "answerAll", "([DLcom/example/firebreak/firebreak/strategies/CountFactor$Scratch;)V"⟩ : MethodName)) hown (mvT hZ (hw _ (own_m 85 rfl))) (mvT hZ (hw _ (own_m 86 rfl))) (notFace_of_selects (args := #[]) (mvT hZ (hw _ (own_m 88 rfl)))) (mvT hZ (hw _ (own_m 88 rfl))) (mvT hZ (hw _ (own_m 87 rfl))) (by decide) (backOf (W := 0) (rm7 l Z a0 hw [] b15 b13 b17 pp_19 qq_19 z0_19 z1_19 mb_16 sB_16 zB_16 oB_16 b1 xsu_18 xnu_18 xfu_18 xnf_18 xff_18 ksB_16 kzB_16 koB_16 k1 ksu_18 knu_18 kfu_18 knf_18 kff_18 k13 y0 y1 y2 v0_19 v1_19 esu1_23 esu2_23 enu0_23 enu1_23 enu2_23 efu0_23 efu1_23 efu2_23 enf0_23 enf1_23 enf2_23 enf3_23 eff0_23 eff1_23 eff2_23 eff3_23 (FP.l2d 0) (FP.l2d 0) T25.heap n0 (Nat.le_trans Zle K_.1) c22_4 c22_2 c22_3 (V_b1.keep K_ nin_b1) (c16_16.keep K_ nin_mb_16) (c16_18.keep K_ nin_mb_16) (c16_15.keep K_ nin_mb_16) c19_4 c19_6 c19_3 (c18_3.keep K_ nin_b17) (c18_4.keep K_ nin_b17) (c18_5.keep K_ nin_b17) (c18_6.keep K_ nin_b17) (c18_7.keep K_ nin_b17) c23_1 c23_2 c23_3 c23_4 c23_5 V_b13 g_xsu_18 g_xnu_18 g_xfu_18 g_xnf_18 g_xff_18 g_b13 (own_ndsub (own_incN C_) [7, 14, 17, 19, 16, 0, 20, 21, 22, 23, 24, 25, 5] (by decide) rfl) (b_y0) (b_y1) (b_y2) ((own_srt_bd srt150 b_m0 b_m1).1) ((own_srt_bd srt150 b_m0 b_m1).2) (own_srt_case srt150)) hZ (hw _ (own_m 89 rfl)) (hw _ (own_m 3 rfl)) (by decide) (by decide)) q26a q26c (g := (mkF m 233 (Ls58 x1 x2 x3 x4 x5 (FP.l2d y0) (FP.l2d y1) (FP.l2d y2) (FP.l2d m0) (FP.l2d m1) (FP.l2d w0) (FP.l2d w1) b1 b5 b8 b11 b12 b13 b14 b15 b17 1) [(.ref b17), (.ref b13), (.ref b15)])) rfl (by rw [hml]; rfl) (Steps.refl _) (argsL := [(.ref b13), (.ref b17)]) (rest := []) (lenOf pd_4 rfl) rfl (own_le rfl) (hb hby at_233) (fun _ _ => ⟨rfl, rfl, (by decide : 46 + 0 ≤ _), (by decide : 137 + 0 ≤ _)⟩)
  dsimp only [Pt.U, Pt.locs, Pt.cells, Pt.slots] at X26 l26 y26 z26 st26 hQ26
  subst l26 y26 z26
  obtain ⟨esu1_26, esu2_26, enu0_26, enu1_26, enu2_26, efu0_26, efu1_26, efu2_26, enf0_26, enf1_26, enf2_26, enf3_26, eff0_26, eff1_26, eff2_26, eff3_26, rfl, Nq26, c26_0, c26_1, c26_2, c26_3, c26_4, c26_5, c26_6⟩ := hQ26
  replace N_ := Fr.app N_ Nq26
  clear Nq26
  replace C_ := own_incM c26_0.1 C_
  replace V_b14 := V_b14.keep c26_0 (nn (own_incN C_) 6 [21, 22, 23, 24, 25, 5])
  replace c22_1 := c22_1.keep c26_0
  replace K_ := K_.trans c26_0 (allS (Or.inl (List.mem_of_getElem? (i := 15) rfl)) (allS (Or.inl (List.mem_of_getElem? (i := 16) rfl)) (allS (Or.inl (List.mem_of_getElem? (i := 17) rfl)) (allS (Or.inl (List.mem_of_getElem? (i := 18) rfl)) (allS (Or.inl (List.mem_of_getElem? (i := 19) rfl)) (allS (Or.inl (List.mem_of_getElem? (i := 3) rfl)) all0))))))
  replace c19_2 := c19_2.keep c26_0 (nn (own_incN C_) 15 [21, 22, 23, 24, 25, 5])
  replace c19_3 := c19_3.keep c26_0 (nn (own_incN C_) 16 [21, 22, 23, 24, 25, 5])
  replace c19_4 := c19_4.keep c26_0 (nn (own_incN C_) 17 [21, 22, 23, 24, 25, 5])
  replace c19_5 := c19_5.keep c26_0 (nn (own_incN C_) 18 [21, 22, 23, 24, 25, 5])
  replace c19_6 := c19_6.keep c26_0 (nn (own_incN C_) 19 [21, 22, 23, 24, 25, 5])
  replace c20_6 := c20_6.keep c26_0 (nn (own_incN C_) 3 [21, 22, 23, 24, 25, 5])
  replace c22_2 := c22_2.keep c26_0 (nn (own_incN C_) 7 [21, 22, 23, 24, 25, 5])
  replace c22_3 := c22_3.keep c26_0 (nn (own_incN C_) 7 [21, 22, 23, 24, 25, 5])
  replace c22_4 := c22_4.keep c26_0 (nn (own_incN C_) 7 [21, 22, 23, 24, 25, 5])
  replace c22_5 := c22_5.keep c26_0 (nn (own_incN C_) 7 [21, 22, 23, 24, 25, 5])
  replace c23_6 := c23_6.keep c26_0 (nn (own_incN C_) 4 [21, 22, 23, 24, 25, 5])
  replace c25_2 := c25_2.keep c26_0 (nn (own_incN C_) 9 [21, 22, 23, 24, 25, 5])
  replace c25_3 := c25_3.keep c26_0 (nn (own_incN C_) 10 [21, 22, 23, 24, 25, 5])
  replace c25_4 := c25_4.keep c26_0 (nn (own_incN C_) 11 [21, 22, 23, 24, 25, 5])
  replace c25_5 := c25_5.keep c26_0 (nn (own_incN C_) 12 [21, 22, 23, 24, 25, 5])
  replace c25_6 := c25_6.keep c26_0 (nn (own_incN C_) 13 [21, 22, 23, 24, 25, 5])
  replace c25_7 := c25_7.keep c26_0 (nn (own_incN C_) 27 [21, 22, 23, 24, 25, 5])
  replace c25_8 := c25_8.keep c26_0 (nn (own_incN C_) 26 [21, 22, 23, 24, 25, 5])
  refine own_by (T' := T26) (g' := (mkF m 236 (Ls58 x1 x2 x3 x4 x5 (FP.l2d y0) (FP.l2d y1) (FP.l2d y2) (FP.l2d m0) (FP.l2d m1) (FP.l2d w0) (FP.l2d w1) b1 b5 b8 b11 b12 b13 b14 b15 b17 1) [])) (fun t k => st26.trans k) ?_
  clear st26 X25
  have ho236 := own_srt_out srt150 y0 y1 y2
  rw [ho236.1, ho236.2] at c26_6
  refine oIl 238 X26 hx (hb hby at_236) rfl rfl ?_
  refine oFn 241 X26 hx (hb hby at_238) ((if0 _ _).trans (feq (by decide)).1) rfl ?_
  refine oAl 243 X26 hx (hb hby at_241) rfl rfl ?_
  refine oDl 245 X26 hx (hb hby at_243) rfl rfl ?_
  refine oDl 247 X26 hx (hb hby at_245) rfl rfl ?_
  refine oDl 249 X26 hx (hb hby at_247) rfl rfl ?_
  refine oDl 251 X26 hx (hb hby at_249) rfl rfl ?_
  refine oDl 253 X26 hx (hb hby at_251) rfl rfl ?_
  obtain ⟨_, _, ⟨T27, L27, k27, n27⟩, -, X27, ⟨Lc27, hQ27, l27, y27, z27⟩, st27⟩ := Jvm.LawKit.callS X26 hx (y := (⟨"com/example/firebreak/firebreak/strategies/CountFactorTakeReceivedPinLaw", "agrees", "([DDDDDD)Z"⟩ : MethodName)) hown (mvT hZ (hw _ (own_m 100 rfl))) (mvT hZ (hw _ (own_m 101 rfl))) (mvT hZ (hw _ (own_m 102 rfl))) (mvT hZ (hw _ (own_m 103 rfl))) (by decide) (backOf (W := 0) (rm9 l Z a0 hw [] b13 y0 y1 y2 m0 m1 k13 T26.heap n0 (Nat.le_trans Zle K_.1) c26_6 (b_y0) (b_y1) (b_y2) (b_m0) (b_m1)) hZ (hw _ (own_m 103 rfl)) (hw _ (own_m 102 rfl)) (by decide) (by decide)) (g := (mkF m 253 (Ls58 x1 x2 x3 x4 x5 (FP.l2d y0) (FP.l2d y1) (FP.l2d y2) (FP.l2d m0) (FP.l2d m1) (FP.l2d w0) (FP.l2d w1) b1 b5 b8 b11 b12 b13 b14 b15 b17 1) [(.double (FP.l2d m1)), (.double (FP.l2d m0)), (.double (FP.l2d y2)), (.double (FP.l2d y1)), (.double (FP.l2d y0)), (.ref b13)])) rfl (by rw [hml]; rfl) (argsL := [(.ref b13), (.double (FP.l2d y0)), (.double (FP.l2d y1)), (.double (FP.l2d y2)), (.double (FP.l2d m0)), (.double (FP.l2d m1))]) (rest := []) (lenOf pd_6 rfl) rfl (own_le rfl) (hb hby at_253) (fun _ _ => ⟨rfl, rfl, (by decide : 46 + 0 ≤ _), (by decide : 137 + 0 ≤ _)⟩)
  dsimp only [Pt.U, Pt.locs, Pt.cells, Pt.slots] at X27 l27 y27 z27 st27 hQ27
  subst l27 y27 z27
  obtain ⟨rfl, Nq27, e27⟩ := hQ27
  replace N_ := Fr.app N_ Nq27
  clear Nq27
  refine own_by (T' := T27) (g' := (mkF m 256 (Ls58 x1 x2 x3 x4 x5 (FP.l2d y0) (FP.l2d y1) (FP.l2d y2) (FP.l2d m0) (FP.l2d m1) (FP.l2d w0) (FP.l2d w1) b1 b5 b8 b11 b12 b13 b14 b15 b17 1) [(.int 1)])) (fun t k => st27 _ k) ?_
  clear st27 X26
  refine oFn 259 X27 hx (hb hby at_256) ((if0 _ _).trans (feq (by decide)).1) rfl ?_
  refine oIc 260 X27 hx (hb hby at_259) 1 rfl rfl ?_
  refine oGo 264 X27 hx (hb hby at_260) (by decide) (by decide) ?_
  refine oIst 266 X27 hx (hb hby at_264) (Ls58 x1 x2 x3 x4 x5 (FP.l2d y0) (FP.l2d y1) (FP.l2d y2) (FP.l2d m0) (FP.l2d m1) (FP.l2d w0) (FP.l2d w1) b1 b5 b8 b11 b12 b13 b14 b15 b17 1) rfl rfl ?_
  refine oAl 268 X27 hx (hb hby at_266) rfl rfl ?_
  obtain ⟨cq28, kq28, q28a, q28b, q28c⟩ := isOf hZ e27 c22_1
  obtain ⟨_, _, ⟨T28, L28, k28, n28⟩, -, X28, ⟨Lc28, hQ28, l28, y28, z28⟩, st28⟩ := X27.virtualBack hx (y := (⟨"com/example/firebreak/firebreak/strategies/CountFactor", "takeReceived", "()V"⟩ : MethodName)) (z := (⟨"com/example/firebreak/firebreak/strategies/CountFactor", "takeReceived", "()V"⟩ : MethodName)) hown (mvT hZ (hw _ (own_m 110 rfl))) (mvT hZ (hw _ (own_m 111 rfl))) (notFace_of_selects (args := #[]) (mvT hZ (hw _ (own_m 113 rfl)))) (mvT hZ (hw _ (own_m 113 rfl))) (mvT hZ (hw _ (own_m 112 rfl))) (by decide) (backOf (W := 0) (rm12 l Z a0 hw [] b15 mb_16 ma_16 b1 T26.heap n0 (Nat.le_trans Zle K_.1) c22_1 g_b15 c22_2 c22_3 c22_4 c22_5) hZ (hw _ (own_m 114 rfl)) (hw _ (own_m 3 rfl)) (by decide) (by decide)) q28a q28c (g := (mkF m 268 (Ls58 x1 x2 x3 x4 x5 (FP.l2d y0) (FP.l2d y1) (FP.l2d y2) (FP.l2d m0) (FP.l2d m1) (FP.l2d w0) (FP.l2d w1) b1 b5 b8 b11 b12 b13 b14 b15 b17 1) [(.ref b15)])) rfl (by rw [hml]; rfl) (Steps.refl _) (argsL := []) (rest := []) (lenOf pd_1 rfl) rfl (own_le rfl) (hb hby at_268) (fun _ _ => ⟨rfl, e27, (by decide : 46 + 0 ≤ _), (by decide : 137 + 0 ≤ _)⟩)
  dsimp only [Pt.U, Pt.locs, Pt.cells, Pt.slots] at X28 l28 y28 z28 st28 hQ28
  subst l28 y28 z28
  obtain ⟨rfl, Nq28, c28_0, c28_1, c28_2, c28_3, c28_4, c28_5⟩ := hQ28
  replace N_ := Fr.app N_ Nq28
  clear Nq28
  replace C_ := own_incM c28_0.1 C_
  replace V_b14 := V_b14.keep c28_0 (ninS (nd (own_incN C_) 6 7) nin0)
  replace c22_1 := c22_1.keep c28_0
  replace K_ := K_.trans c28_0 (allS (Or.inl (List.mem_of_getElem? (i := 0) rfl)) all0)
  replace c19_2 := c19_2.keep c28_0 (ninS (nd (own_incN C_) 15 7) nin0)
  replace c19_3 := c19_3.keep c28_0 (ninS (nd (own_incN C_) 16 7) nin0)
  replace c19_4 := c19_4.keep c28_0 (ninS (nd (own_incN C_) 17 7) nin0)
  replace c19_5 := c19_5.keep c28_0 (ninS (nd (own_incN C_) 18 7) nin0)
  replace c19_6 := c19_6.keep c28_0 (ninS (nd (own_incN C_) 19 7) nin0)
  replace c20_6 := c20_6.keep c28_0 (ninS (nd (own_incN C_) 3 7) nin0)
  replace c23_6 := c23_6.keep c28_0 (ninS (nd (own_incN C_) 4 7) nin0)
  replace c25_2 := c25_2.keep c28_0 (ninS (nd (own_incN C_) 9 7) nin0)
  replace c25_3 := c25_3.keep c28_0 (ninS (nd (own_incN C_) 10 7) nin0)
  replace c25_4 := c25_4.keep c28_0 (ninS (nd (own_incN C_) 11 7) nin0)
  replace c25_5 := c25_5.keep c28_0 (ninS (nd (own_incN C_) 12 7) nin0)
  replace c25_6 := c25_6.keep c28_0 (ninS (nd (own_incN C_) 13 7) nin0)
  replace c25_7 := c25_7.keep c28_0 (ninS (nd (own_incN C_) 27 7) nin0)
  replace c25_8 := c25_8.keep c28_0 (ninS (nd (own_incN C_) 26 7) nin0)
  replace c26_1 := c26_1.keep c28_0 (ninS (nd (own_incN C_) 21 7) nin0)
  replace c26_2 := c26_2.keep c28_0 (ninS (nd (own_incN C_) 22 7) nin0)
  replace c26_3 := c26_3.keep c28_0 (ninS (nd (own_incN C_) 23 7) nin0)
  replace c26_4 := c26_4.keep c28_0 (ninS (nd (own_incN C_) 24 7) nin0)
  replace c26_5 := c26_5.keep c28_0 (ninS (nd (own_incN C_) 25 7) nin0)
  replace c26_6 := c26_6.keep c28_0 (ninS (nd (own_incN C_) 5 7) nin0)
  refine own_by (T' := T28) (g' := (mkF m 271 (Ls58 x1 x2 x3 x4 x5 (FP.l2d y0) (FP.l2d y1) (FP.l2d y2) (FP.l2d m0) (FP.l2d m1) (FP.l2d w0) (FP.l2d w1) b1 b5 b8 b11 b12 b13 b14 b15 b17 1) [])) (fun t k => st28.trans k) ?_
  clear st28 X27 e27
  refine oAl 273 X28 hx (hb hby at_271) rfl rfl ?_
  refine oAl 275 X28 hx (hb hby at_273) rfl rfl ?_
  refine oAl 277 X28 hx (hb hby at_275) rfl rfl ?_
  obtain ⟨cq29, kq29, q29a, q29b, q29c⟩ := isOf hZ rfl c28_1
  obtain ⟨_, _, ⟨T29, L29, k29, n29⟩, -, X29, ⟨Lc29, hQ29, l29, y29, z29⟩, st29⟩ := X28.virtualBack hx (y := (⟨"com/example/firebreak/firebreak/strategies/CountFactor", "answerAll", "([DLcom/example/firebreak/firebreak/strategies/CountFactor$Scratch;)V"⟩ : MethodName)) (z := (⟨"com/example/firebreak/firebreak/strategies/CountFactor", "answerAll", "([DLcom/example/firebreak/firebreak/strategies/CountFactor$Scratch;)V"⟩ : MethodName)) hown (mvT hZ (hw _ (own_m 85 rfl))) (mvT hZ (hw _ (own_m 86 rfl))) (notFace_of_selects (args := #[]) (mvT hZ (hw _ (own_m 88 rfl)))) (mvT hZ (hw _ (own_m 88 rfl))) (mvT hZ (hw _ (own_m 87 rfl))) (by decide) (backOf (W := 0) (rm7 l Z a0 hw [] b15 b14 b17 pp_25 qq_25 z0_25 z1_25 ma_16 sA_16 zA_16 oA_16 b1 xsu_18 xnu_18 xfu_18 xnf_18 xff_18 ksA_16 kzA_16 koA_16 k1 ksu_18 knu_18 kfu_18 knf_18 kff_18 k14 y0 y1 y2 v0_25 v1_25 esu1_26 esu2_26 enu0_26 enu1_26 enu2_26 efu0_26 efu1_26 efu2_26 enf0_26 enf1_26 enf2_26 enf3_26 eff0_26 eff1_26 eff2_26 eff3_26 (FP.l2d 0) (FP.l2d 0) T28.heap n0 (Nat.le_trans Zle K_.1) c28_4 c28_2 c28_3 (V_b1.keep K_ nin_b1) (c16_10.keep K_ nin_ma_16) (c16_12.keep K_ nin_ma_16) (c16_9.keep K_ nin_ma_16) c25_4 c25_6 c25_3 (c18_3.keep K_ nin_b17) (c18_4.keep K_ nin_b17) (c18_5.keep K_ nin_b17) (c18_6.keep K_ nin_b17) (c18_7.keep K_ nin_b17) c26_1 c26_2 c26_3 c26_4 c26_5 V_b14 g_xsu_18 g_xnu_18 g_xfu_18 g_xnf_18 g_xff_18 g_b14 (own_ndsub (own_incN C_) [7, 8, 11, 13, 10, 0, 20, 21, 22, 23, 24, 25, 6] (by decide) rfl) (b_y0) (b_y1) (b_y2) ((own_srt_bd srt227 b_w0 b_w1).1) ((own_srt_bd srt227 b_w0 b_w1).2) (own_srt_case srt227)) hZ (hw _ (own_m 89 rfl)) (hw _ (own_m 3 rfl)) (by decide) (by decide)) q29a q29c (g := (mkF m 277 (Ls58 x1 x2 x3 x4 x5 (FP.l2d y0) (FP.l2d y1) (FP.l2d y2) (FP.l2d m0) (FP.l2d m1) (FP.l2d w0) (FP.l2d w1) b1 b5 b8 b11 b12 b13 b14 b15 b17 1) [(.ref b17), (.ref b14), (.ref b15)])) rfl (by rw [hml]; rfl) (Steps.refl _) (argsL := [(.ref b14), (.ref b17)]) (rest := []) (lenOf pd_4 rfl) rfl (own_le rfl) (hb hby at_277) (fun _ _ => ⟨rfl, rfl, (by decide : 46 + 0 ≤ _), (by decide : 137 + 0 ≤ _)⟩)
  dsimp only [Pt.U, Pt.locs, Pt.cells, Pt.slots] at X29 l29 y29 z29 st29 hQ29
  subst l29 y29 z29
  obtain ⟨esu1_29, esu2_29, enu0_29, enu1_29, enu2_29, efu0_29, efu1_29, efu2_29, enf0_29, enf1_29, enf2_29, enf3_29, eff0_29, eff1_29, eff2_29, eff3_29, rfl, Nq29, c29_0, c29_1, c29_2, c29_3, c29_4, c29_5, c29_6⟩ := hQ29
  replace N_ := Fr.app N_ Nq29
  clear Nq29
  replace C_ := own_incM c29_0.1 C_
  replace c28_1 := c28_1.keep c29_0
  replace K_ := K_.trans c29_0 (allS (Or.inl (List.mem_of_getElem? (i := 15) rfl)) (allS (Or.inl (List.mem_of_getElem? (i := 16) rfl)) (allS (Or.inl (List.mem_of_getElem? (i := 17) rfl)) (allS (Or.inl (List.mem_of_getElem? (i := 18) rfl)) (allS (Or.inl (List.mem_of_getElem? (i := 19) rfl)) (allS (Or.inl (List.mem_of_getElem? (i := 4) rfl)) all0))))))
  replace c19_2 := c19_2.keep c29_0 (nn (own_incN C_) 15 [21, 22, 23, 24, 25, 6])
  replace c19_3 := c19_3.keep c29_0 (nn (own_incN C_) 16 [21, 22, 23, 24, 25, 6])
  replace c19_4 := c19_4.keep c29_0 (nn (own_incN C_) 17 [21, 22, 23, 24, 25, 6])
  replace c19_5 := c19_5.keep c29_0 (nn (own_incN C_) 18 [21, 22, 23, 24, 25, 6])
  replace c19_6 := c19_6.keep c29_0 (nn (own_incN C_) 19 [21, 22, 23, 24, 25, 6])
  replace c20_6 := c20_6.keep c29_0 (nn (own_incN C_) 3 [21, 22, 23, 24, 25, 6])
  replace c23_6 := c23_6.keep c29_0 (nn (own_incN C_) 4 [21, 22, 23, 24, 25, 6])
  replace c25_2 := c25_2.keep c29_0 (nn (own_incN C_) 9 [21, 22, 23, 24, 25, 6])
  replace c25_3 := c25_3.keep c29_0 (nn (own_incN C_) 10 [21, 22, 23, 24, 25, 6])
  replace c25_4 := c25_4.keep c29_0 (nn (own_incN C_) 11 [21, 22, 23, 24, 25, 6])
  replace c25_5 := c25_5.keep c29_0 (nn (own_incN C_) 12 [21, 22, 23, 24, 25, 6])
  replace c25_6 := c25_6.keep c29_0 (nn (own_incN C_) 13 [21, 22, 23, 24, 25, 6])
  replace c25_7 := c25_7.keep c29_0 (nn (own_incN C_) 27 [21, 22, 23, 24, 25, 6])
  replace c25_8 := c25_8.keep c29_0 (nn (own_incN C_) 26 [21, 22, 23, 24, 25, 6])
  replace c26_6 := c26_6.keep c29_0 (nn (own_incN C_) 5 [21, 22, 23, 24, 25, 6])
  replace c28_2 := c28_2.keep c29_0 (nn (own_incN C_) 7 [21, 22, 23, 24, 25, 6])
  replace c28_3 := c28_3.keep c29_0 (nn (own_incN C_) 7 [21, 22, 23, 24, 25, 6])
  replace c28_4 := c28_4.keep c29_0 (nn (own_incN C_) 7 [21, 22, 23, 24, 25, 6])
  replace c28_5 := c28_5.keep c29_0 (nn (own_incN C_) 7 [21, 22, 23, 24, 25, 6])
  refine own_by (T' := T29) (g' := (mkF m 280 (Ls58 x1 x2 x3 x4 x5 (FP.l2d y0) (FP.l2d y1) (FP.l2d y2) (FP.l2d m0) (FP.l2d m1) (FP.l2d w0) (FP.l2d w1) b1 b5 b8 b11 b12 b13 b14 b15 b17 1) [])) (fun t k => st29.trans k) ?_
  clear st29 X28
  have ho280 := own_srt_out srt227 y0 y1 y2
  rw [ho280.1, ho280.2] at c29_6
  refine oIl 282 X29 hx (hb hby at_280) rfl rfl ?_
  refine oFn 285 X29 hx (hb hby at_282) ((if0 _ _).trans (feq (by decide)).1) rfl ?_
  refine oAl 287 X29 hx (hb hby at_285) rfl rfl ?_
  refine oDl 289 X29 hx (hb hby at_287) rfl rfl ?_
  refine oDl 291 X29 hx (hb hby at_289) rfl rfl ?_
  refine oDl 293 X29 hx (hb hby at_291) rfl rfl ?_
  refine oDl 295 X29 hx (hb hby at_293) rfl rfl ?_
  refine oDl 297 X29 hx (hb hby at_295) rfl rfl ?_
  obtain ⟨_, _, ⟨T30, L30, k30, n30⟩, -, X30, ⟨Lc30, hQ30, l30, y30, z30⟩, st30⟩ := Jvm.LawKit.callS X29 hx (y := (⟨"com/example/firebreak/firebreak/strategies/CountFactorTakeReceivedPinLaw", "agrees", "([DDDDDD)Z"⟩ : MethodName)) hown (mvT hZ (hw _ (own_m 100 rfl))) (mvT hZ (hw _ (own_m 101 rfl))) (mvT hZ (hw _ (own_m 102 rfl))) (mvT hZ (hw _ (own_m 103 rfl))) (by decide) (backOf (W := 0) (rm9 l Z a0 hw [] b14 y0 y1 y2 w0 w1 k14 T29.heap n0 (Nat.le_trans Zle K_.1) c29_6 (b_y0) (b_y1) (b_y2) (b_w0) (b_w1)) hZ (hw _ (own_m 103 rfl)) (hw _ (own_m 102 rfl)) (by decide) (by decide)) (g := (mkF m 297 (Ls58 x1 x2 x3 x4 x5 (FP.l2d y0) (FP.l2d y1) (FP.l2d y2) (FP.l2d m0) (FP.l2d m1) (FP.l2d w0) (FP.l2d w1) b1 b5 b8 b11 b12 b13 b14 b15 b17 1) [(.double (FP.l2d w1)), (.double (FP.l2d w0)), (.double (FP.l2d y2)), (.double (FP.l2d y1)), (.double (FP.l2d y0)), (.ref b14)])) rfl (by rw [hml]; rfl) (argsL := [(.ref b14), (.double (FP.l2d y0)), (.double (FP.l2d y1)), (.double (FP.l2d y2)), (.double (FP.l2d w0)), (.double (FP.l2d w1))]) (rest := []) (lenOf pd_6 rfl) rfl (own_le rfl) (hb hby at_297) (fun _ _ => ⟨rfl, rfl, (by decide : 46 + 0 ≤ _), (by decide : 137 + 0 ≤ _)⟩)
  dsimp only [Pt.U, Pt.locs, Pt.cells, Pt.slots] at X30 l30 y30 z30 st30 hQ30
  subst l30 y30 z30
  obtain ⟨rfl, Nq30, e30⟩ := hQ30
  replace N_ := Fr.app N_ Nq30
  clear Nq30
  refine own_by (T' := T30) (g' := (mkF m 300 (Ls58 x1 x2 x3 x4 x5 (FP.l2d y0) (FP.l2d y1) (FP.l2d y2) (FP.l2d m0) (FP.l2d m1) (FP.l2d w0) (FP.l2d w1) b1 b5 b8 b11 b12 b13 b14 b15 b17 1) [(.int 1)])) (fun t k => st30 _ k) ?_
  clear st30 X29
  refine oFn 303 X30 hx (hb hby at_300) ((if0 _ _).trans (feq (by decide)).1) rfl ?_
  refine oIc 304 X30 hx (hb hby at_303) 1 rfl rfl ?_
  refine oGo 308 X30 hx (hb hby at_304) (by decide) (by decide) ?_
  refine oIst 310 X30 hx (hb hby at_308) (Ls58 x1 x2 x3 x4 x5 (FP.l2d y0) (FP.l2d y1) (FP.l2d y2) (FP.l2d m0) (FP.l2d m1) (FP.l2d w0) (FP.l2d w1) b1 b5 b8 b11 b12 b13 b14 b15 b17 1) rfl rfl ?_
  refine oIl 312 X30 hx (hb hby at_310) rfl rfl ?_
  exact own_retN X30 hx (t := .boolean) hlk hret (by simp) (hb hby at_312) (by decide) (by decide) (by rw [e30]; exact ⟨rfl, N_⟩)
set_option maxRecDepth 65536 in
set_option maxHeartbeats 40000000 in
theorem rm0 (l : Launch) (Z : State) (a0 : Array Value) (hw : ∀ d ∈ tables_1, d.before a0 Z = true) (ws : List Jvm.Cond) (x1 : Int32) (x2 : Int32) (x3 : Int32) (x4 : Int32) (x5 : Int32) (h0 : Heap) (n0 : Nat) (Zle : n0 ≤ h0.size) :
    MetFree l x (head1 (Jvm.Cond.code x code maxLocals ret :: ws) room_1) (fun a U => a = #[(.int x1), (.int x2), (.int x3), (.int x4), (.int x5)] ∧ Z.Warmed39 U.vm ∧ U.heap = h0) (fun _ _ _ _ _ => True) (fun _ U o U' => ∃ v L, o = .returned v ∧ Q0 Z x1 x2 x3 x4 x5 h0 n0 v U'.heap L ∧ FrameEnd U o U' L room_1.cells room_1.slots) := by
  refine MetFree.of_bodySF (plainFor_of_name pn_com_example_firebreak_firebreak_strategies_CountFactorTakeReceivedPinLaw) hisR ?_
  intro p e s m args below meth c s₁ Bd hml0 hP hK
  obtain ⟨rfl, hZ, hh⟩ := hP
  have hx := Bd.exec
  have hby := Bd.bytes
  have hml : c.maxLocals = 29 := hml0
  have hown : s.vm.findClass "com/example/firebreak/firebreak/strategies/CountFactorTakeReceivedPinLaw" = some m.cls := findClass_of_methodNamed Bd.named
  have hnm := (name_of_methodNamed Bd.named Bd.method).1
  have X0 : Stand p l e room_1 s m #[(.int x1), (.int x2), (.int x3), (.int x4), (.int x5)] below meth c s₁ [] 0 0 := Stand.of_body Bd
  have e0 : s₁.heap = h0 := by rw [← hh, Bd.state]; rfl
  have N_ := Fr.nil n0
  show own_Goes p.tables e below s (Q0 Z x1 x2 x3 x4 x5 h0 n0) room_1.cells room_1.slots s₁ (entryFrame m #[(.int x1), (.int x2), (.int x3), (.int x4), (.int x5)] maxLocals)
  refine own_by (T' := s₁) (g' := (mkF m 0 (Ls41 x1 x2 x3 x4 x5) [])) (fun t k => castTop (ef_0 m x1 x2 x3 x4 x5) k) ?_
  have C_ : own_inc h0.size h0.size [] := Nat.le_refl _
  refine oIlN 1 X0 hx (hb hby at_0) rfl rfl ?_
  refine own_by (g' := (mkF m 2 (Ls41 x1 x2 x3 x4 x5) [(.int (x1.toInt8.toInt32))])) (fun t k => XS.i2b X0.here hx rfl (hb hby at_1) rfl k) ?_
  refine own_by (g' := (mkF m 3 (Ls41 x1 x2 x3 x4 x5) [(.double (FP.l2d (x1.toInt8.toInt32).toInt64))])) (fun t k => XS.i2dS X0.here hx rfl (hb hby at_2) rfl (i2d_w _) k) ?_
  obtain ⟨y0, e_y0⟩ : ∃ z : Int64, z = (x1.toInt8.toInt32).toInt64 := ⟨_, rfl⟩
  rw [← e_y0]
  have b_y0 : own_bd 128 y0 := by rw [e_y0]; exact own_byte _
  refine oDst 5 X0 hx (hb hby at_3) (Ls42 x1 x2 x3 x4 x5 (FP.l2d y0)) rfl rfl ?_
  refine oIlN 6 X0 hx (hb hby at_5) rfl rfl ?_
  refine oBi 8 X0 hx (hb hby at_6) 8 rfl rfl ?_
  refine own_by (g' := (mkF m 9 (Ls42 x1 x2 x3 x4 x5 (FP.l2d y0)) [(.int (x1 >>> ((8 : Int32) &&& 31)))])) (fun t k => XS.ishr X0.here hx rfl (hb hby at_8) rfl k) ?_
  refine own_by (g' := (mkF m 10 (Ls42 x1 x2 x3 x4 x5 (FP.l2d y0)) [(.int ((x1 >>> ((8 : Int32) &&& 31)).toInt8.toInt32))])) (fun t k => XS.i2b X0.here hx rfl (hb hby at_9) rfl k) ?_
  refine own_by (g' := (mkF m 11 (Ls42 x1 x2 x3 x4 x5 (FP.l2d y0)) [(.double (FP.l2d ((x1 >>> ((8 : Int32) &&& 31)).toInt8.toInt32).toInt64))])) (fun t k => XS.i2dS X0.here hx rfl (hb hby at_10) rfl (i2d_w _) k) ?_
  obtain ⟨y1, e_y1⟩ : ∃ z : Int64, z = ((x1 >>> ((8 : Int32) &&& 31)).toInt8.toInt32).toInt64 := ⟨_, rfl⟩
  rw [← e_y1]
  have b_y1 : own_bd 128 y1 := by rw [e_y1]; exact own_byte _
  refine oDst 13 X0 hx (hb hby at_11) (Ls43 x1 x2 x3 x4 x5 (FP.l2d y0) (FP.l2d y1)) rfl rfl ?_
  refine oIlN 14 X0 hx (hb hby at_13) rfl rfl ?_
  refine oBi 16 X0 hx (hb hby at_14) 16 rfl rfl ?_
  refine own_by (g' := (mkF m 17 (Ls43 x1 x2 x3 x4 x5 (FP.l2d y0) (FP.l2d y1)) [(.int (x1 >>> ((16 : Int32) &&& 31)))])) (fun t k => XS.ishr X0.here hx rfl (hb hby at_16) rfl k) ?_
  refine own_by (g' := (mkF m 18 (Ls43 x1 x2 x3 x4 x5 (FP.l2d y0) (FP.l2d y1)) [(.int ((x1 >>> ((16 : Int32) &&& 31)).toInt8.toInt32))])) (fun t k => XS.i2b X0.here hx rfl (hb hby at_17) rfl k) ?_
  refine own_by (g' := (mkF m 19 (Ls43 x1 x2 x3 x4 x5 (FP.l2d y0) (FP.l2d y1)) [(.double (FP.l2d ((x1 >>> ((16 : Int32) &&& 31)).toInt8.toInt32).toInt64))])) (fun t k => XS.i2dS X0.here hx rfl (hb hby at_18) rfl (i2d_w _) k) ?_
  obtain ⟨y2, e_y2⟩ : ∃ z : Int64, z = ((x1 >>> ((16 : Int32) &&& 31)).toInt8.toInt32).toInt64 := ⟨_, rfl⟩
  rw [← e_y2]
  have b_y2 : own_bd 128 y2 := by rw [e_y2]; exact own_byte _
  refine oDst 21 X0 hx (hb hby at_19) (Ls44 x1 x2 x3 x4 x5 (FP.l2d y0) (FP.l2d y1) (FP.l2d y2)) rfl rfl ?_
  refine oIlN 22 X0 hx (hb hby at_21) rfl rfl ?_
  refine oBi 24 X0 hx (hb hby at_22) 64 rfl rfl ?_
  refine own_by (T' := s₁) (g' := (mkF m 25 (Ls44 x1 x2 x3 x4 x5 (FP.l2d y0) (FP.l2d y1) (FP.l2d y2)) [(.int (x2 % (64 : Int32)))])) (fun t k => iremM X0 hx rfl (hb hby at_24) rfl (by decide) k) ?_
  refine own_by (g' := (mkF m 26 (Ls44 x1 x2 x3 x4 x5 (FP.l2d y0) (FP.l2d y1) (FP.l2d y2)) [(.double (FP.l2d (x2 % (64 : Int32)).toInt64))])) (fun t k => XS.i2dS X0.here hx rfl (hb hby at_25) rfl (i2d_w _) k) ?_
  obtain ⟨m0, e_m0⟩ : ∃ z : Int64, z = (x2 % (64 : Int32)).toInt64 := ⟨_, rfl⟩
  rw [← e_m0]
  have b_m0 : own_bd 63 m0 := by rw [e_m0]; exact own_r64 _
  refine oDst 28 X0 hx (hb hby at_26) (Ls45 x1 x2 x3 x4 x5 (FP.l2d y0) (FP.l2d y1) (FP.l2d y2) (FP.l2d m0)) rfl rfl ?_
  refine oIlN 29 X0 hx (hb hby at_28) rfl rfl ?_
  refine oBi 31 X0 hx (hb hby at_29) 64 rfl rfl ?_
  refine own_by (T' := s₁) (g' := (mkF m 32 (Ls45 x1 x2 x3 x4 x5 (FP.l2d y0) (FP.l2d y1) (FP.l2d y2) (FP.l2d m0)) [(.int (x3 % (64 : Int32)))])) (fun t k => iremM X0 hx rfl (hb hby at_31) rfl (by decide) k) ?_
  refine own_by (g' := (mkF m 33 (Ls45 x1 x2 x3 x4 x5 (FP.l2d y0) (FP.l2d y1) (FP.l2d y2) (FP.l2d m0)) [(.double (FP.l2d (x3 % (64 : Int32)).toInt64))])) (fun t k => XS.i2dS X0.here hx rfl (hb hby at_32) rfl (i2d_w _) k) ?_
  obtain ⟨m1, e_m1⟩ : ∃ z : Int64, z = (x3 % (64 : Int32)).toInt64 := ⟨_, rfl⟩
  rw [← e_m1]
  have b_m1 : own_bd 63 m1 := by rw [e_m1]; exact own_r64 _
  refine oDst 35 X0 hx (hb hby at_33) (Ls46 x1 x2 x3 x4 x5 (FP.l2d y0) (FP.l2d y1) (FP.l2d y2) (FP.l2d m0) (FP.l2d m1)) rfl rfl ?_
  refine oIlN 36 X0 hx (hb hby at_35) rfl rfl ?_
  refine oBi 38 X0 hx (hb hby at_36) 64 rfl rfl ?_
  refine own_by (T' := s₁) (g' := (mkF m 39 (Ls46 x1 x2 x3 x4 x5 (FP.l2d y0) (FP.l2d y1) (FP.l2d y2) (FP.l2d m0) (FP.l2d m1)) [(.int (x4 % (64 : Int32)))])) (fun t k => iremM X0 hx rfl (hb hby at_38) rfl (by decide) k) ?_
  refine own_by (g' := (mkF m 40 (Ls46 x1 x2 x3 x4 x5 (FP.l2d y0) (FP.l2d y1) (FP.l2d y2) (FP.l2d m0) (FP.l2d m1)) [(.double (FP.l2d (x4 % (64 : Int32)).toInt64))])) (fun t k => XS.i2dS X0.here hx rfl (hb hby at_39) rfl (i2d_w _) k) ?_
  obtain ⟨w0, e_w0⟩ : ∃ z : Int64, z = (x4 % (64 : Int32)).toInt64 := ⟨_, rfl⟩
  rw [← e_w0]
  have b_w0 : own_bd 63 w0 := by rw [e_w0]; exact own_r64 _
  refine oDst 42 X0 hx (hb hby at_40) (Ls47 x1 x2 x3 x4 x5 (FP.l2d y0) (FP.l2d y1) (FP.l2d y2) (FP.l2d m0) (FP.l2d m1) (FP.l2d w0)) rfl rfl ?_
  refine oIl 44 X0 hx (hb hby at_42) rfl rfl ?_
  refine oBi 46 X0 hx (hb hby at_44) 64 rfl rfl ?_
  refine own_by (T' := s₁) (g' := (mkF m 47 (Ls47 x1 x2 x3 x4 x5 (FP.l2d y0) (FP.l2d y1) (FP.l2d y2) (FP.l2d m0) (FP.l2d m1) (FP.l2d w0)) [(.int (x5 % (64 : Int32)))])) (fun t k => iremM X0 hx rfl (hb hby at_46) rfl (by decide) k) ?_
  refine own_by (g' := (mkF m 48 (Ls47 x1 x2 x3 x4 x5 (FP.l2d y0) (FP.l2d y1) (FP.l2d y2) (FP.l2d m0) (FP.l2d m1) (FP.l2d w0)) [(.double (FP.l2d (x5 % (64 : Int32)).toInt64))])) (fun t k => XS.i2dS X0.here hx rfl (hb hby at_47) rfl (i2d_w _) k) ?_
  obtain ⟨w1, e_w1⟩ : ∃ z : Int64, z = (x5 % (64 : Int32)).toInt64 := ⟨_, rfl⟩
  rw [← e_w1]
  have b_w1 : own_bd 63 w1 := by rw [e_w1]; exact own_r64 _
  refine oDst 50 X0 hx (hb hby at_48) (Ls48 x1 x2 x3 x4 x5 (FP.l2d y0) (FP.l2d y1) (FP.l2d y2) (FP.l2d m0) (FP.l2d m1) (FP.l2d w0) (FP.l2d w1)) rfl rfl ?_
  refine oIc 51 X0 hx (hb hby at_50) 3 rfl rfl ?_
  obtain ⟨T1, h1, k1, X1, e1, E1, A1, st1⟩ := newP X0 hx hZ (hw _ (own_m 0 rfl)) e0 (g := (mkF m 51 (Ls48 x1 x2 x3 x4 x5 (FP.l2d y0) (FP.l2d y1) (FP.l2d y2) (FP.l2d m0) (FP.l2d m1) (FP.l2d w0) (FP.l2d w1)) [(.int 3)])) rfl (hb hby at_51) rfl (by decide) (cap := 3) (by decide) (by decide) (by decide) (by decide)
  obtain ⟨b1, g1⟩ : ∃ z, z = h0.size := ⟨_, rfl⟩
  rw [← g1] at A1 st1
  have g_b1 : n0 ≤ b1 := Nat.le_trans Zle (Nat.le_of_eq g1.symm)
  replace C_ := own_incB C_ g1 A1.lt
  replace Zle := Nat.le_trans Zle E1.1
  have V_b1 : Arv Z h1 b1 k1 .double (3 : Int32) [(.double (FP.l2d 0)), (.double (FP.l2d 0)), (.double (FP.l2d 0))] (.double (FP.l2d 0)) := (Arv.newD A1 (by decide)).pad (pad_rep [] (.double (FP.l2d 0)) 3)
  refine own_by (T' := T1) (g' := (mkF m 53 (Ls48 x1 x2 x3 x4 x5 (FP.l2d y0) (FP.l2d y1) (FP.l2d y2) (FP.l2d m0) (FP.l2d m1) (FP.l2d w0) (FP.l2d w1)) [(.ref b1)])) (fun t k => st1 t k) ?_
  clear st1 X0 e0
  refine oDup 54 X1 hx (hb hby at_53) rfl rfl ?_
  refine oIc 55 X1 hx (hb hby at_54) 0 rfl rfl ?_
  refine oDl 57 X1 hx (hb hby at_55) rfl rfl ?_
  refine oDs 58 X1 hx hZ e1 V_b1 0 [(.double (FP.l2d y0)), (.double (FP.l2d 0)), (.double (FP.l2d 0))] (hb hby at_57) (by decide) rfl (Nat.le_of_ble_eq_true rfl) rfl rfl fun T2 h2 X2 e2 W2 V_b1_ => ?_
  replace C_ := own_incM (Keep.of_wr W2).1 C_
  replace Zle := Nat.le_trans Zle (Keep.of_wr W2).1
  replace V_b1 := V_b1_
  clear V_b1_ W2
  replace N_ := Fr.snoc X2 N_ g_b1
  clear X1 e1
  refine oDup 59 X2 hx (hb hby at_58) rfl rfl ?_
  refine oIc 60 X2 hx (hb hby at_59) 1 rfl rfl ?_
  refine oDl 62 X2 hx (hb hby at_60) rfl rfl ?_
  refine oDs 63 X2 hx hZ e2 V_b1 1 [(.double (FP.l2d y0)), (.double (FP.l2d y1)), (.double (FP.l2d 0))] (hb hby at_62) (by decide) rfl (Nat.le_of_ble_eq_true rfl) rfl rfl fun T3 h3 X3 e3 W3 V_b1_ => ?_
  replace C_ := own_incM (Keep.of_wr W3).1 C_
  replace Zle := Nat.le_trans Zle (Keep.of_wr W3).1
  replace V_b1 := V_b1_
  clear V_b1_ W3
  replace N_ := Fr.snoc X3 N_ g_b1
  clear X2 e2
  refine oDup 64 X3 hx (hb hby at_63) rfl rfl ?_
  refine oIc 65 X3 hx (hb hby at_64) 2 rfl rfl ?_
  refine oDl 67 X3 hx (hb hby at_65) rfl rfl ?_
  refine oDs 68 X3 hx hZ e3 V_b1 2 [(.double (FP.l2d y0)), (.double (FP.l2d y1)), (.double (FP.l2d y2))] (hb hby at_67) (by decide) rfl (Nat.le_of_ble_eq_true rfl) rfl rfl fun T4 h4 X4 e4 W4 V_b1_ => ?_
  replace C_ := own_incM (Keep.of_wr W4).1 C_
  replace Zle := Nat.le_trans Zle (Keep.of_wr W4).1
  replace V_b1 := V_b1_
  clear V_b1_ W4
  replace N_ := Fr.snoc X4 N_ g_b1
  clear X3 e3
  refine oAst 70 X4 hx (hb hby at_68) (Ls49 x1 x2 x3 x4 x5 (FP.l2d y0) (FP.l2d y1) (FP.l2d y2) (FP.l2d m0) (FP.l2d m1) (FP.l2d w0) (FP.l2d w1) b1) rfl rfl ?_
  refine oIc 71 X4 hx (hb hby at_70) 2 rfl rfl ?_
  obtain ⟨T5, h5, k5, X5, e5, E5, A5, st5⟩ := newP X4 hx hZ (hw _ (own_m 0 rfl)) e4 (g := (mkF m 71 (Ls49 x1 x2 x3 x4 x5 (FP.l2d y0) (FP.l2d y1) (FP.l2d y2) (FP.l2d m0) (FP.l2d m1) (FP.l2d w0) (FP.l2d w1) b1) [(.int 2)])) rfl (hb hby at_71) rfl (by decide) (cap := 2) (by decide) (by decide) (by decide) (by decide)
  obtain ⟨b5, g5⟩ : ∃ z, z = h4.size := ⟨_, rfl⟩
  rw [← g5] at A5 st5
  have g_b5 : n0 ≤ b5 := Nat.le_trans Zle (Nat.le_of_eq g5.symm)
  replace C_ := own_incB C_ g5 A5.lt
  replace Zle := Nat.le_trans Zle E5.1
  replace V_b1 := V_b1.ext E5
  have V_b5 : Arv Z h5 b5 k5 .double (2 : Int32) [(.double (FP.l2d 0)), (.double (FP.l2d 0))] (.double (FP.l2d 0)) := (Arv.newD A5 (by decide)).pad (pad_rep [] (.double (FP.l2d 0)) 2)
  refine own_by (T' := T5) (g' := (mkF m 73 (Ls49 x1 x2 x3 x4 x5 (FP.l2d y0) (FP.l2d y1) (FP.l2d y2) (FP.l2d m0) (FP.l2d m1) (FP.l2d w0) (FP.l2d w1) b1) [(.ref b5)])) (fun t k => st5 t k) ?_
  clear st5 X4 e4
  refine oDup 74 X5 hx (hb hby at_73) rfl rfl ?_
  refine oIc 75 X5 hx (hb hby at_74) 0 rfl rfl ?_
  refine oDl 77 X5 hx (hb hby at_75) rfl rfl ?_
  refine oDs 78 X5 hx hZ e5 V_b5 0 [(.double (FP.l2d m0)), (.double (FP.l2d 0))] (hb hby at_77) (by decide) rfl (Nat.le_of_ble_eq_true rfl) rfl rfl fun T6 h6 X6 e6 W6 V_b5_ => ?_
  replace C_ := own_incM (Keep.of_wr W6).1 C_
  replace Zle := Nat.le_trans Zle (Keep.of_wr W6).1
  replace V_b1 := V_b1.other W6 (nd (own_incN C_) 0 1)
  replace V_b5 := V_b5_
  clear V_b5_ W6
  replace N_ := Fr.snoc X6 N_ g_b5
  clear X5 e5
  refine oDup 79 X6 hx (hb hby at_78) rfl rfl ?_
  refine oIc 80 X6 hx (hb hby at_79) 1 rfl rfl ?_
  refine oDl 82 X6 hx (hb hby at_80) rfl rfl ?_
  refine oDs 83 X6 hx hZ e6 V_b5 1 [(.double (FP.l2d m0)), (.double (FP.l2d m1))] (hb hby at_82) (by decide) rfl (Nat.le_of_ble_eq_true rfl) rfl rfl fun T7 h7 X7 e7 W7 V_b5_ => ?_
  replace C_ := own_incM (Keep.of_wr W7).1 C_
  replace Zle := Nat.le_trans Zle (Keep.of_wr W7).1
  replace V_b1 := V_b1.other W7 (nd (own_incN C_) 0 1)
  replace V_b5 := V_b5_
  clear V_b5_ W7
  replace N_ := Fr.snoc X7 N_ g_b5
  clear X6 e6
  refine oAst 85 X7 hx (hb hby at_83) (Ls50 x1 x2 x3 x4 x5 (FP.l2d y0) (FP.l2d y1) (FP.l2d y2) (FP.l2d m0) (FP.l2d m1) (FP.l2d w0) (FP.l2d w1) b1 b5) rfl rfl ?_
  refine oIc 86 X7 hx (hb hby at_85) 2 rfl rfl ?_
  obtain ⟨T8, h8, k8, X8, e8, E8, A8, st8⟩ := newP X7 hx hZ (hw _ (own_m 0 rfl)) e7 (g := (mkF m 86 (Ls50 x1 x2 x3 x4 x5 (FP.l2d y0) (FP.l2d y1) (FP.l2d y2) (FP.l2d m0) (FP.l2d m1) (FP.l2d w0) (FP.l2d w1) b1 b5) [(.int 2)])) rfl (hb hby at_86) rfl (by decide) (cap := 2) (by decide) (by decide) (by decide) (by decide)
  obtain ⟨b8, g8⟩ : ∃ z, z = h7.size := ⟨_, rfl⟩
  rw [← g8] at A8 st8
  have g_b8 : n0 ≤ b8 := Nat.le_trans Zle (Nat.le_of_eq g8.symm)
  replace C_ := own_incB C_ g8 A8.lt
  replace Zle := Nat.le_trans Zle E8.1
  replace V_b1 := V_b1.ext E8
  replace V_b5 := V_b5.ext E8
  have V_b8 : Arv Z h8 b8 k8 .double (2 : Int32) [(.double (FP.l2d 0)), (.double (FP.l2d 0))] (.double (FP.l2d 0)) := (Arv.newD A8 (by decide)).pad (pad_rep [] (.double (FP.l2d 0)) 2)
  refine own_by (T' := T8) (g' := (mkF m 88 (Ls50 x1 x2 x3 x4 x5 (FP.l2d y0) (FP.l2d y1) (FP.l2d y2) (FP.l2d m0) (FP.l2d m1) (FP.l2d w0) (FP.l2d w1) b1 b5) [(.ref b8)])) (fun t k => st8 t k) ?_
  clear st8 X7 e7
  refine oDup 89 X8 hx (hb hby at_88) rfl rfl ?_
  refine oIc 90 X8 hx (hb hby at_89) 0 rfl rfl ?_
  refine oDl 92 X8 hx (hb hby at_90) rfl rfl ?_
  refine oDs 93 X8 hx hZ e8 V_b8 0 [(.double (FP.l2d w0)), (.double (FP.l2d 0))] (hb hby at_92) (by decide) rfl (Nat.le_of_ble_eq_true rfl) rfl rfl fun T9 h9 X9 e9 W9 V_b8_ => ?_
  replace C_ := own_incM (Keep.of_wr W9).1 C_
  replace Zle := Nat.le_trans Zle (Keep.of_wr W9).1
  replace V_b1 := V_b1.other W9 (nd (own_incN C_) 0 2)
  replace V_b5 := V_b5.other W9 (nd (own_incN C_) 1 2)
  replace V_b8 := V_b8_
  clear V_b8_ W9
  replace N_ := Fr.snoc X9 N_ g_b8
  clear X8 e8
  refine oDup 94 X9 hx (hb hby at_93) rfl rfl ?_
  refine oIc 95 X9 hx (hb hby at_94) 1 rfl rfl ?_
  refine oDl 97 X9 hx (hb hby at_95) rfl rfl ?_
  refine oDs 98 X9 hx hZ e9 V_b8 1 [(.double (FP.l2d w0)), (.double (FP.l2d w1))] (hb hby at_97) (by decide) rfl (Nat.le_of_ble_eq_true rfl) rfl rfl fun T10 h10 X10 e10 W10 V_b8_ => ?_
  replace C_ := own_incM (Keep.of_wr W10).1 C_
  replace Zle := Nat.le_trans Zle (Keep.of_wr W10).1
  replace V_b1 := V_b1.other W10 (nd (own_incN C_) 0 2)
  replace V_b5 := V_b5.other W10 (nd (own_incN C_) 1 2)
  replace V_b8 := V_b8_
  clear V_b8_ W10
  replace N_ := Fr.snoc X10 N_ g_b8
  clear X9 e9
  refine oAst 100 X10 hx (hb hby at_98) (Ls51 x1 x2 x3 x4 x5 (FP.l2d y0) (FP.l2d y1) (FP.l2d y2) (FP.l2d m0) (FP.l2d m1) (FP.l2d w0) (FP.l2d w1) b1 b5 b8) rfl rfl ?_
  refine oIc 101 X10 hx (hb hby at_100) 2 rfl rfl ?_
  obtain ⟨T11, h11, k11, X11, e11, E11, A11, st11⟩ := newP X10 hx hZ (hw _ (own_m 0 rfl)) e10 (g := (mkF m 101 (Ls51 x1 x2 x3 x4 x5 (FP.l2d y0) (FP.l2d y1) (FP.l2d y2) (FP.l2d m0) (FP.l2d m1) (FP.l2d w0) (FP.l2d w1) b1 b5 b8) [(.int 2)])) rfl (hb hby at_101) rfl (by decide) (cap := 2) (by decide) (by decide) (by decide) (by decide)
  obtain ⟨b11, g11⟩ : ∃ z, z = h10.size := ⟨_, rfl⟩
  rw [← g11] at A11 st11
  have g_b11 : n0 ≤ b11 := Nat.le_trans Zle (Nat.le_of_eq g11.symm)
  replace C_ := own_incB C_ g11 A11.lt
  replace Zle := Nat.le_trans Zle E11.1
  replace V_b1 := V_b1.ext E11
  replace V_b5 := V_b5.ext E11
  replace V_b8 := V_b8.ext E11
  have V_b11 : Arv Z h11 b11 k11 .double (2 : Int32) [(.double (FP.l2d 0)), (.double (FP.l2d 0))] (.double (FP.l2d 0)) := (Arv.newD A11 (by decide)).pad (pad_rep [] (.double (FP.l2d 0)) 2)
  refine own_by (T' := T11) (g' := (mkF m 103 (Ls51 x1 x2 x3 x4 x5 (FP.l2d y0) (FP.l2d y1) (FP.l2d y2) (FP.l2d m0) (FP.l2d m1) (FP.l2d w0) (FP.l2d w1) b1 b5 b8) [(.ref b11)])) (fun t k => st11 t k) ?_
  clear st11 X10 e10
  refine oAst 105 X11 hx (hb hby at_103) (Ls52 x1 x2 x3 x4 x5 (FP.l2d y0) (FP.l2d y1) (FP.l2d y2) (FP.l2d m0) (FP.l2d m1) (FP.l2d w0) (FP.l2d w1) b1 b5 b8 b11) rfl rfl ?_
  refine oIc 106 X11 hx (hb hby at_105) 2 rfl rfl ?_
  obtain ⟨T12, h12, k12, X12, e12, E12, A12, st12⟩ := newP X11 hx hZ (hw _ (own_m 0 rfl)) e11 (g := (mkF m 106 (Ls52 x1 x2 x3 x4 x5 (FP.l2d y0) (FP.l2d y1) (FP.l2d y2) (FP.l2d m0) (FP.l2d m1) (FP.l2d w0) (FP.l2d w1) b1 b5 b8 b11) [(.int 2)])) rfl (hb hby at_106) rfl (by decide) (cap := 2) (by decide) (by decide) (by decide) (by decide)
  obtain ⟨b12, g12⟩ : ∃ z, z = h11.size := ⟨_, rfl⟩
  rw [← g12] at A12 st12
  have g_b12 : n0 ≤ b12 := Nat.le_trans Zle (Nat.le_of_eq g12.symm)
  replace C_ := own_incB C_ g12 A12.lt
  replace Zle := Nat.le_trans Zle E12.1
  replace V_b1 := V_b1.ext E12
  replace V_b5 := V_b5.ext E12
  replace V_b8 := V_b8.ext E12
  replace V_b11 := V_b11.ext E12
  have V_b12 : Arv Z h12 b12 k12 .double (2 : Int32) [(.double (FP.l2d 0)), (.double (FP.l2d 0))] (.double (FP.l2d 0)) := (Arv.newD A12 (by decide)).pad (pad_rep [] (.double (FP.l2d 0)) 2)
  refine own_by (T' := T12) (g' := (mkF m 108 (Ls52 x1 x2 x3 x4 x5 (FP.l2d y0) (FP.l2d y1) (FP.l2d y2) (FP.l2d m0) (FP.l2d m1) (FP.l2d w0) (FP.l2d w1) b1 b5 b8 b11) [(.ref b12)])) (fun t k => st12 t k) ?_
  clear st12 X11 e11
  refine oAst 110 X12 hx (hb hby at_108) (Ls53 x1 x2 x3 x4 x5 (FP.l2d y0) (FP.l2d y1) (FP.l2d y2) (FP.l2d m0) (FP.l2d m1) (FP.l2d w0) (FP.l2d w1) b1 b5 b8 b11 b12) rfl rfl ?_
  refine oIc 111 X12 hx (hb hby at_110) 2 rfl rfl ?_
  obtain ⟨T13, h13, k13, X13, e13, E13, A13, st13⟩ := newP X12 hx hZ (hw _ (own_m 0 rfl)) e12 (g := (mkF m 111 (Ls53 x1 x2 x3 x4 x5 (FP.l2d y0) (FP.l2d y1) (FP.l2d y2) (FP.l2d m0) (FP.l2d m1) (FP.l2d w0) (FP.l2d w1) b1 b5 b8 b11 b12) [(.int 2)])) rfl (hb hby at_111) rfl (by decide) (cap := 2) (by decide) (by decide) (by decide) (by decide)
  obtain ⟨b13, g13⟩ : ∃ z, z = h12.size := ⟨_, rfl⟩
  rw [← g13] at A13 st13
  have g_b13 : n0 ≤ b13 := Nat.le_trans Zle (Nat.le_of_eq g13.symm)
  replace C_ := own_incB C_ g13 A13.lt
  replace Zle := Nat.le_trans Zle E13.1
  replace V_b1 := V_b1.ext E13
  replace V_b5 := V_b5.ext E13
  replace V_b8 := V_b8.ext E13
  replace V_b11 := V_b11.ext E13
  replace V_b12 := V_b12.ext E13
  have V_b13 : Arv Z h13 b13 k13 .double (2 : Int32) [(.double (FP.l2d 0)), (.double (FP.l2d 0))] (.double (FP.l2d 0)) := (Arv.newD A13 (by decide)).pad (pad_rep [] (.double (FP.l2d 0)) 2)
  refine own_by (T' := T13) (g' := (mkF m 113 (Ls53 x1 x2 x3 x4 x5 (FP.l2d y0) (FP.l2d y1) (FP.l2d y2) (FP.l2d m0) (FP.l2d m1) (FP.l2d w0) (FP.l2d w1) b1 b5 b8 b11 b12) [(.ref b13)])) (fun t k => st13 t k) ?_
  clear st13 X12 e12
  refine oAst 115 X13 hx (hb hby at_113) (Ls54 x1 x2 x3 x4 x5 (FP.l2d y0) (FP.l2d y1) (FP.l2d y2) (FP.l2d m0) (FP.l2d m1) (FP.l2d w0) (FP.l2d w1) b1 b5 b8 b11 b12 b13) rfl rfl ?_
  refine oIc 116 X13 hx (hb hby at_115) 2 rfl rfl ?_
  obtain ⟨T14, h14, k14, X14, e14, E14, A14, st14⟩ := newP X13 hx hZ (hw _ (own_m 0 rfl)) e13 (g := (mkF m 116 (Ls54 x1 x2 x3 x4 x5 (FP.l2d y0) (FP.l2d y1) (FP.l2d y2) (FP.l2d m0) (FP.l2d m1) (FP.l2d w0) (FP.l2d w1) b1 b5 b8 b11 b12 b13) [(.int 2)])) rfl (hb hby at_116) rfl (by decide) (cap := 2) (by decide) (by decide) (by decide) (by decide)
  obtain ⟨b14, g14⟩ : ∃ z, z = h13.size := ⟨_, rfl⟩
  rw [← g14] at A14 st14
  have g_b14 : n0 ≤ b14 := Nat.le_trans Zle (Nat.le_of_eq g14.symm)
  replace C_ := own_incB C_ g14 A14.lt
  replace Zle := Nat.le_trans Zle E14.1
  replace V_b1 := V_b1.ext E14
  replace V_b5 := V_b5.ext E14
  replace V_b8 := V_b8.ext E14
  replace V_b11 := V_b11.ext E14
  replace V_b12 := V_b12.ext E14
  replace V_b13 := V_b13.ext E14
  have V_b14 : Arv Z h14 b14 k14 .double (2 : Int32) [(.double (FP.l2d 0)), (.double (FP.l2d 0))] (.double (FP.l2d 0)) := (Arv.newD A14 (by decide)).pad (pad_rep [] (.double (FP.l2d 0)) 2)
  refine own_by (T' := T14) (g' := (mkF m 118 (Ls54 x1 x2 x3 x4 x5 (FP.l2d y0) (FP.l2d y1) (FP.l2d y2) (FP.l2d m0) (FP.l2d m1) (FP.l2d w0) (FP.l2d w1) b1 b5 b8 b11 b12 b13) [(.ref b14)])) (fun t k => st14 t k) ?_
  clear st14 X13 e13
  refine oAst 120 X14 hx (hb hby at_118) (Ls55 x1 x2 x3 x4 x5 (FP.l2d y0) (FP.l2d y1) (FP.l2d y2) (FP.l2d m0) (FP.l2d m1) (FP.l2d w0) (FP.l2d w1) b1 b5 b8 b11 b12 b13 b14) rfl rfl ?_
  obtain ⟨T15, h15, X15, e15, E15, A15, D15, -, st15⟩ := newO X14 hx hZ hown (hw _ (own_m 1 rfl)) (hw _ (own_m 2 rfl)) (hw _ (own_m 3 rfl)) e14 (g := (mkF m 120 (Ls55 x1 x2 x3 x4 x5 (FP.l2d y0) (FP.l2d y1) (FP.l2d y2) (FP.l2d m0) (FP.l2d m1) (FP.l2d w0) (FP.l2d w1) b1 b5 b8 b11 b12 b13 b14) [])) rfl (hb hby at_120) (by decide) (by decide)
  obtain ⟨b15, g15⟩ : ∃ z, z = h14.size := ⟨_, rfl⟩
  rw [← g15] at A15 D15 st15
  have g_b15 : n0 ≤ b15 := Nat.le_trans Zle (Nat.le_of_eq g15.symm)
  replace C_ := own_incB C_ g15 A15.lt
  replace Zle := Nat.le_trans Zle E15.1
  replace V_b1 := V_b1.ext E15
  replace V_b5 := V_b5.ext E15
  replace V_b8 := V_b8.ext E15
  replace V_b11 := V_b11.ext E15
  replace V_b12 := V_b12.ext E15
  replace V_b13 := V_b13.ext E15
  replace V_b14 := V_b14.ext E15
  have E_b15 := A15
  have F_n_b15 : Fld Z h15 b15 "com/example/firebreak/firebreak/strategies/CountFactor" "n" "I" (.int 0) := D15 (Or.inr (hw _ (own_m 11 rfl))) (ty := .int) (by decide)
  have F_score_b15 : Fld Z h15 b15 "com/example/firebreak/firebreak/strategies/CountFactor" "score" "[D" .null := D15 (Or.inr (hw _ (own_m 13 rfl))) (ty := (.array .double)) (by decide)
  have F_bestFrom_b15 : Fld Z h15 b15 "com/example/firebreak/firebreak/strategies/CountFactor" "bestFrom" "[D" .null := D15 (Or.inr (hw _ (own_m 15 rfl))) (ty := (.array .double)) (by decide)
  have F_messages_b15 : Fld Z h15 b15 "com/example/firebreak/firebreak/strategies/CountFactor" "messages" "Lcom/example/firebreak/firebreak/strategies/CountFactor$Messages;" .null := D15 (Or.inl (hw _ (own_m 39 rfl))) (ty := (.object "com/example/firebreak/firebreak/strategies/CountFactor$Messages")) (by decide)
  have F_received_b15 : Fld Z h15 b15 "com/example/firebreak/firebreak/strategies/CountFactor" "received" "Lcom/example/firebreak/firebreak/strategies/CountFactor$Messages;" .null := D15 (Or.inl (hw _ (own_m 41 rfl))) (ty := (.object "com/example/firebreak/firebreak/strategies/CountFactor$Messages")) (by decide)
  have F_tieWeighed_b15 : Fld Z h15 b15 "com/example/firebreak/firebreak/strategies/CountFactor" "tieWeighed" "[I" .null := D15 (Or.inr (hw _ (own_m 43 rfl))) (ty := (.array .int)) (by decide)
  have F_nextTie_b15 : Fld Z h15 b15 "com/example/firebreak/firebreak/strategies/CountFactor" "nextTie" "[I" .null := D15 (Or.inr (hw _ (own_m 45 rfl))) (ty := (.array .int)) (by decide)
  have F_previousTie_b15 : Fld Z h15 b15 "com/example/firebreak/firebreak/strategies/CountFactor" "previousTie" "[I" .null := D15 (Or.inr (hw _ (own_m 47 rfl))) (ty := (.array .int)) (by decide)
  refine own_by (T' := T15) (g' := (mkF m 123 (Ls55 x1 x2 x3 x4 x5 (FP.l2d y0) (FP.l2d y1) (FP.l2d y2) (FP.l2d m0) (FP.l2d m1) (FP.l2d w0) (FP.l2d w1) b1 b5 b8 b11 b12 b13 b14) [(.ref b15)])) (fun t k => st15 t k) ?_
  clear st15 X14 e14
  refine oDup 124 X15 hx (hb hby at_123) rfl rfl ?_
  refine oAl 126 X15 hx (hb hby at_124) rfl rfl ?_
  have lt_b1_16 := V_b1.lt
  have lt_b5_16 := V_b5.lt
  have lt_b8_16 := V_b8.lt
  have lt_b11_16 := V_b11.lt
  have lt_b12_16 := V_b12.lt
  have lt_b13_16 := V_b13.lt
  have lt_b14_16 := V_b14.lt
  have lt_b15_16 := E_b15.lt
  have Zpre16 := Zle
  obtain ⟨_, _, ⟨T16, L16, k16, n16⟩, -, X16, ⟨Lc16, hQ16, l16, y16, z16⟩, st16⟩ := X15.specialBack hx (y := (⟨"com/example/firebreak/firebreak/strategies/CountFactor", "<init>", "([D)V"⟩ : MethodName)) rfl hown (mvT hZ (hw _ (own_m 4 rfl))) (mvT hZ (hw _ (own_m 5 rfl))) (mvT hZ (hw _ (own_m 6 rfl))) (by decide) (backOf (W := 1) (rm1 l Z a0 hw [] b15 b1 k1 y0 y1 y2 h15 n0 Zle E_b15 g_b15 F_n_b15 F_score_b15 F_bestFrom_b15 F_messages_b15 F_received_b15 F_tieWeighed_b15 F_nextTie_b15 F_previousTie_b15 V_b1 ((nd (own_incN C_) 0 7)) (b_y0) (b_y1) (b_y2)) hZ (hw _ (own_m 6 rfl)) (hw _ (own_m 3 rfl)) (by decide) (by decide)) (g := (mkF m 126 (Ls55 x1 x2 x3 x4 x5 (FP.l2d y0) (FP.l2d y1) (FP.l2d y2) (FP.l2d m0) (FP.l2d m1) (FP.l2d w0) (FP.l2d w1) b1 b5 b8 b11 b12 b13 b14) [(.ref b1), (.ref b15), (.ref b15)])) rfl (by rw [hml]; rfl) (Steps.refl _) (a := b15) (argsL := [(.ref b1)]) (rest := [(.ref b15)]) (lenOf pd_0 rfl) rfl (own_le rfl) (hb hby at_126) (fun _ _ => ⟨rfl, e15, (by decide : 8 + 30 ≤ _), (by decide : 28 + 80 ≤ _)⟩)
  dsimp only [Pt.U, Pt.locs, Pt.cells, Pt.slots] at X16 l16 y16 z16 st16 hQ16
  subst l16 y16 z16
  obtain ⟨ma_16, iA_16, oA_16, sA_16, tA_16, zA_16, mb_16, iB_16, oB_16, sB_16, tB_16, zB_16, kiA_16, koA_16, ksA_16, ktA_16, kzA_16, kiB_16, koB_16, ksB_16, ktB_16, kzB_16, rfl, Nq16, c16_0, c16_1, c16_2, c16_3, c16_4, c16_5, c16_6, c16_7, c16_8, c16_9, c16_10, c16_11, c16_12, c16_13, c16_14, c16_15, c16_16, c16_17, c16_18, c16_19, c16_20, c16_21, c16_22, c16_23, c16_24, c16_25, c16_26, c16_27, c16_28⟩ := hQ16
  replace N_ := Fr.app N_ Nq16
  clear Nq16
  replace C_ := own_incA C_ c16_1
  have g_ma_16 : n0 ≤ ma_16 := Nat.le_trans Zpre16 (own_incG c16_1 (List.mem_of_getElem? (i := 0) rfl))
  have g_iA_16 : n0 ≤ iA_16 := Nat.le_trans Zpre16 (own_incG c16_1 (List.mem_of_getElem? (i := 1) rfl))
  have g_oA_16 : n0 ≤ oA_16 := Nat.le_trans Zpre16 (own_incG c16_1 (List.mem_of_getElem? (i := 2) rfl))
  have g_sA_16 : n0 ≤ sA_16 := Nat.le_trans Zpre16 (own_incG c16_1 (List.mem_of_getElem? (i := 3) rfl))
  have g_tA_16 : n0 ≤ tA_16 := Nat.le_trans Zpre16 (own_incG c16_1 (List.mem_of_getElem? (i := 4) rfl))
  have g_zA_16 : n0 ≤ zA_16 := Nat.le_trans Zpre16 (own_incG c16_1 (List.mem_of_getElem? (i := 5) rfl))
  have g_mb_16 : n0 ≤ mb_16 := Nat.le_trans Zpre16 (own_incG c16_1 (List.mem_of_getElem? (i := 6) rfl))
  have g_iB_16 : n0 ≤ iB_16 := Nat.le_trans Zpre16 (own_incG c16_1 (List.mem_of_getElem? (i := 7) rfl))
  have g_oB_16 : n0 ≤ oB_16 := Nat.le_trans Zpre16 (own_incG c16_1 (List.mem_of_getElem? (i := 8) rfl))
  have g_sB_16 : n0 ≤ sB_16 := Nat.le_trans Zpre16 (own_incG c16_1 (List.mem_of_getElem? (i := 9) rfl))
  have g_tB_16 : n0 ≤ tB_16 := Nat.le_trans Zpre16 (own_incG c16_1 (List.mem_of_getElem? (i := 10) rfl))
  have g_zB_16 : n0 ≤ zB_16 := Nat.le_trans Zpre16 (own_incG c16_1 (List.mem_of_getElem? (i := 11) rfl))
  replace Zle := Nat.le_trans Zle c16_0.1
  replace V_b1 := V_b1.keep c16_0 (ninS (nd (own_incN C_) 0 7) nin0)
  replace V_b5 := V_b5.keep c16_0 (ninS (nd (own_incN C_) 1 7) nin0)
  replace V_b8 := V_b8.keep c16_0 (ninS (nd (own_incN C_) 2 7) nin0)
  replace V_b11 := V_b11.keep c16_0 (ninS (nd (own_incN C_) 3 7) nin0)
  replace V_b12 := V_b12.keep c16_0 (ninS (nd (own_incN C_) 4 7) nin0)
  replace V_b13 := V_b13.keep c16_0 (ninS (nd (own_incN C_) 5 7) nin0)
  replace V_b14 := V_b14.keep c16_0 (ninS (nd (own_incN C_) 6 7) nin0)
  replace E_b15 := E_b15.keep c16_0
  clear lt_b1_16 lt_b5_16 lt_b8_16 lt_b11_16 lt_b12_16 lt_b13_16 lt_b14_16 lt_b15_16
  refine own_by (T' := T16) (g' := (mkF m 129 (Ls55 x1 x2 x3 x4 x5 (FP.l2d y0) (FP.l2d y1) (FP.l2d y2) (FP.l2d m0) (FP.l2d m1) (FP.l2d w0) (FP.l2d w1) b1 b5 b8 b11 b12 b13 b14) [(.ref b15)])) (fun t k => st16.trans k) ?_
  clear st16 X15 e15
  refine oAst 131 X16 hx (hb hby at_129) (Ls56 x1 x2 x3 x4 x5 (FP.l2d y0) (FP.l2d y1) (FP.l2d y2) (FP.l2d m0) (FP.l2d m1) (FP.l2d w0) (FP.l2d w1) b1 b5 b8 b11 b12 b13 b14 b15) rfl rfl ?_
  obtain ⟨T17, h17, X17, e17, E17, A17, D17, -, st17⟩ := newO X16 hx hZ hown (hw _ (own_m 48 rfl)) (hw _ (own_m 49 rfl)) (hw _ (own_m 50 rfl)) rfl (g := (mkF m 131 (Ls56 x1 x2 x3 x4 x5 (FP.l2d y0) (FP.l2d y1) (FP.l2d y2) (FP.l2d m0) (FP.l2d m1) (FP.l2d w0) (FP.l2d w1) b1 b5 b8 b11 b12 b13 b14 b15) [])) rfl (hb hby at_131) (by decide) (by decide)
  obtain ⟨b17, g17⟩ : ∃ z, z = T16.heap.size := ⟨_, rfl⟩
  rw [← g17] at A17 D17 st17
  have g_b17 : n0 ≤ b17 := Nat.le_trans Zle (Nat.le_of_eq g17.symm)
  replace C_ := own_incB C_ g17 A17.lt
  replace Zle := Nat.le_trans Zle E17.1
  replace V_b1 := V_b1.ext E17
  replace V_b5 := V_b5.ext E17
  replace V_b8 := V_b8.ext E17
  replace V_b11 := V_b11.ext E17
  replace V_b12 := V_b12.ext E17
  replace V_b13 := V_b13.ext E17
  replace V_b14 := V_b14.ext E17
  replace c16_2 := c16_2.ext E17
  replace c16_3 := c16_3.ext E17
  replace c16_4 := c16_4.ext E17
  replace c16_5 := c16_5.ext E17
  replace c16_6 := c16_6.ext E17
  replace c16_7 := c16_7.ext E17
  replace c16_8 := c16_8.ext E17
  replace c16_9 := c16_9.ext E17
  replace c16_10 := c16_10.ext E17
  replace c16_11 := c16_11.ext E17
  replace c16_12 := c16_12.ext E17
  replace c16_13 := c16_13.ext E17
  replace c16_14 := c16_14.ext E17
  replace c16_15 := c16_15.ext E17
  replace c16_16 := c16_16.ext E17
  replace c16_17 := c16_17.ext E17
  replace c16_18 := c16_18.ext E17
  replace c16_19 := c16_19.ext E17
  replace c16_20 := c16_20.ext E17
  replace c16_21 := c16_21.ext E17
  replace c16_22 := c16_22.ext E17
  replace c16_23 := c16_23.ext E17
  replace c16_24 := c16_24.ext E17
  replace c16_25 := c16_25.ext E17
  replace c16_26 := c16_26.ext E17
  replace c16_27 := c16_27.ext E17
  replace c16_28 := c16_28.ext E17
  have E_b17 := A17
  have F_sums_b17 : Fld Z h17 b17 "com/example/firebreak/firebreak/strategies/CountFactor$Scratch" "sums" "[D" .null := D17 (Or.inr (hw _ (own_m 56 rfl))) (ty := (.array .double)) (by decide)
  have F_onUpTo_b17 : Fld Z h17 b17 "com/example/firebreak/firebreak/strategies/CountFactor$Scratch" "onUpTo" "[D" .null := D17 (Or.inr (hw _ (own_m 58 rfl))) (ty := (.array .double)) (by decide)
  have F_offUpTo_b17 : Fld Z h17 b17 "com/example/firebreak/firebreak/strategies/CountFactor$Scratch" "offUpTo" "[D" .null := D17 (Or.inr (hw _ (own_m 60 rfl))) (ty := (.array .double)) (by decide)
  have F_onFrom_b17 : Fld Z h17 b17 "com/example/firebreak/firebreak/strategies/CountFactor$Scratch" "onFrom" "[D" .null := D17 (Or.inr (hw _ (own_m 62 rfl))) (ty := (.array .double)) (by decide)
  have F_offFrom_b17 : Fld Z h17 b17 "com/example/firebreak/firebreak/strategies/CountFactor$Scratch" "offFrom" "[D" .null := D17 (Or.inr (hw _ (own_m 64 rfl))) (ty := (.array .double)) (by decide)
  have F_merging_b17 : Fld Z h17 b17 "com/example/firebreak/firebreak/strategies/CountFactor$Scratch" "merging" "[I" .null := D17 (Or.inr (hw _ (own_m 66 rfl))) (ty := (.array .int)) (by decide)
  have F_runStarts_b17 : Fld Z h17 b17 "com/example/firebreak/firebreak/strategies/CountFactor$Scratch" "runStarts" "[I" .null := D17 (Or.inr (hw _ (own_m 68 rfl))) (ty := (.array .int)) (by decide)
  refine own_by (T' := T17) (g' := (mkF m 134 (Ls56 x1 x2 x3 x4 x5 (FP.l2d y0) (FP.l2d y1) (FP.l2d y2) (FP.l2d m0) (FP.l2d m1) (FP.l2d w0) (FP.l2d w1) b1 b5 b8 b11 b12 b13 b14 b15) [(.ref b17)])) (fun t k => st17 t k) ?_
  clear st17 X16
  refine oDup 135 X17 hx (hb hby at_134) rfl rfl ?_
  refine oIc 136 X17 hx (hb hby at_135) 2 rfl rfl ?_
  have lt_b1_18 := V_b1.lt
  have lt_b5_18 := V_b5.lt
  have lt_b8_18 := V_b8.lt
  have lt_b11_18 := V_b11.lt
  have lt_b12_18 := V_b12.lt
  have lt_b13_18 := V_b13.lt
  have lt_b14_18 := V_b14.lt
  have lt_b15_18 := c16_2.lt
  have lt_ma_16_18 := c16_7.lt
  have lt_mb_16_18 := c16_13.lt
  have lt_iA_16_18 := c16_19.lt
  have lt_oA_16_18 := c16_20.lt
  have lt_sA_16_18 := c16_21.lt
  have lt_tA_16_18 := c16_22.lt
  have lt_zA_16_18 := c16_23.lt
  have lt_iB_16_18 := c16_24.lt
  have lt_oB_16_18 := c16_25.lt
  have lt_sB_16_18 := c16_26.lt
  have lt_tB_16_18 := c16_27.lt
  have lt_zB_16_18 := c16_28.lt
  have lt_b17_18 := E_b17.lt
  have Zpre18 := Zle
  obtain ⟨_, _, ⟨T18, L18, k18, n18⟩, -, X18, ⟨Lc18, hQ18, l18, y18, z18⟩, st18⟩ := X17.specialBack hx (y := (⟨"com/example/firebreak/firebreak/strategies/CountFactor$Scratch", "<init>", "(I)V"⟩ : MethodName)) rfl hown (mvT hZ (hw _ (own_m 51 rfl))) (mvT hZ (hw _ (own_m 52 rfl))) (mvT hZ (hw _ (own_m 53 rfl))) (by decide) (backOf (W := 1) (rm5 l Z a0 hw [] b17 h17 n0 Zle E_b17 g_b17 F_sums_b17 F_onUpTo_b17 F_offUpTo_b17 F_onFrom_b17 F_offFrom_b17 F_merging_b17 F_runStarts_b17) hZ (hw _ (own_m 53 rfl)) (hw _ (own_m 50 rfl)) (by decide) (by decide)) (g := (mkF m 136 (Ls56 x1 x2 x3 x4 x5 (FP.l2d y0) (FP.l2d y1) (FP.l2d y2) (FP.l2d m0) (FP.l2d m1) (FP.l2d w0) (FP.l2d w1) b1 b5 b8 b11 b12 b13 b14 b15) [(.int 2), (.ref b17), (.ref b17)])) rfl (by rw [hml]; rfl) (Steps.refl _) (a := b17) (argsL := [(.int 2)]) (rest := [(.ref b17)]) (lenOf pd_3 rfl) rfl (own_le rfl) (hb hby at_136) (fun _ _ => ⟨rfl, e17, (by decide : 39 + 7 ≤ _), (by decide : 115 + 22 ≤ _)⟩)
  dsimp only [Pt.U, Pt.locs, Pt.cells, Pt.slots] at X18 l18 y18 z18 st18 hQ18
  subst l18 y18 z18
  obtain ⟨xsu_18, xnu_18, xfu_18, xnf_18, xff_18, xmg_18, xrs_18, ksu_18, knu_18, kfu_18, knf_18, kff_18, kmg_18, krs_18, rfl, Nq18, c18_0, c18_1, c18_2, c18_3, c18_4, c18_5, c18_6, c18_7, c18_8, c18_9, c18_10, c18_11, c18_12, c18_13, c18_14, c18_15, c18_16⟩ := hQ18
  replace N_ := Fr.app N_ Nq18
  clear Nq18
  replace C_ := own_incA C_ c18_1
  have g_xsu_18 : n0 ≤ xsu_18 := Nat.le_trans Zpre18 (own_incG c18_1 (List.mem_of_getElem? (i := 0) rfl))
  have g_xnu_18 : n0 ≤ xnu_18 := Nat.le_trans Zpre18 (own_incG c18_1 (List.mem_of_getElem? (i := 1) rfl))
  have g_xfu_18 : n0 ≤ xfu_18 := Nat.le_trans Zpre18 (own_incG c18_1 (List.mem_of_getElem? (i := 2) rfl))
  have g_xnf_18 : n0 ≤ xnf_18 := Nat.le_trans Zpre18 (own_incG c18_1 (List.mem_of_getElem? (i := 3) rfl))
  have g_xff_18 : n0 ≤ xff_18 := Nat.le_trans Zpre18 (own_incG c18_1 (List.mem_of_getElem? (i := 4) rfl))
  have g_xmg_18 : n0 ≤ xmg_18 := Nat.le_trans Zpre18 (own_incG c18_1 (List.mem_of_getElem? (i := 5) rfl))
  have g_xrs_18 : n0 ≤ xrs_18 := Nat.le_trans Zpre18 (own_incG c18_1 (List.mem_of_getElem? (i := 6) rfl))
  replace Zle := Nat.le_trans Zle c18_0.1
  replace V_b1 := V_b1.keep c18_0 (ninS (nd (own_incN C_) 0 20) nin0)
  replace V_b5 := V_b5.keep c18_0 (ninS (nd (own_incN C_) 1 20) nin0)
  replace V_b8 := V_b8.keep c18_0 (ninS (nd (own_incN C_) 2 20) nin0)
  replace V_b11 := V_b11.keep c18_0 (ninS (nd (own_incN C_) 3 20) nin0)
  replace V_b12 := V_b12.keep c18_0 (ninS (nd (own_incN C_) 4 20) nin0)
  replace V_b13 := V_b13.keep c18_0 (ninS (nd (own_incN C_) 5 20) nin0)
  replace V_b14 := V_b14.keep c18_0 (ninS (nd (own_incN C_) 6 20) nin0)
  replace c16_2 := c16_2.keep c18_0
  replace c16_3 := c16_3.keep c18_0 (ninS (nd (own_incN C_) 7 20) nin0)
  replace c16_4 := c16_4.keep c18_0 (ninS (nd (own_incN C_) 7 20) nin0)
  replace c16_5 := c16_5.keep c18_0 (ninS (nd (own_incN C_) 7 20) nin0)
  replace c16_6 := c16_6.keep c18_0 (ninS (nd (own_incN C_) 7 20) nin0)
  replace c16_7 := c16_7.keep c18_0
  replace c16_8 := c16_8.keep c18_0 (ninS (nd (own_incN C_) 8 20) nin0)
  replace c16_9 := c16_9.keep c18_0 (ninS (nd (own_incN C_) 8 20) nin0)
  replace c16_10 := c16_10.keep c18_0 (ninS (nd (own_incN C_) 8 20) nin0)
  replace c16_11 := c16_11.keep c18_0 (ninS (nd (own_incN C_) 8 20) nin0)
  replace c16_12 := c16_12.keep c18_0 (ninS (nd (own_incN C_) 8 20) nin0)
  replace c16_13 := c16_13.keep c18_0
  replace c16_14 := c16_14.keep c18_0 (ninS (nd (own_incN C_) 14 20) nin0)
  replace c16_15 := c16_15.keep c18_0 (ninS (nd (own_incN C_) 14 20) nin0)
  replace c16_16 := c16_16.keep c18_0 (ninS (nd (own_incN C_) 14 20) nin0)
  replace c16_17 := c16_17.keep c18_0 (ninS (nd (own_incN C_) 14 20) nin0)
  replace c16_18 := c16_18.keep c18_0 (ninS (nd (own_incN C_) 14 20) nin0)
  replace c16_19 := c16_19.keep c18_0 (ninS (nd (own_incN C_) 9 20) nin0)
  replace c16_20 := c16_20.keep c18_0 (ninS (nd (own_incN C_) 10 20) nin0)
  replace c16_21 := c16_21.keep c18_0 (ninS (nd (own_incN C_) 11 20) nin0)
  replace c16_22 := c16_22.keep c18_0 (ninS (nd (own_incN C_) 12 20) nin0)
  replace c16_23 := c16_23.keep c18_0 (ninS (nd (own_incN C_) 13 20) nin0)
  replace c16_24 := c16_24.keep c18_0 (ninS (nd (own_incN C_) 15 20) nin0)
  replace c16_25 := c16_25.keep c18_0 (ninS (nd (own_incN C_) 16 20) nin0)
  replace c16_26 := c16_26.keep c18_0 (ninS (nd (own_incN C_) 17 20) nin0)
  replace c16_27 := c16_27.keep c18_0 (ninS (nd (own_incN C_) 18 20) nin0)
  replace c16_28 := c16_28.keep c18_0 (ninS (nd (own_incN C_) 19 20) nin0)
  replace E_b17 := E_b17.keep c18_0
  clear lt_b1_18 lt_b5_18 lt_b8_18 lt_b11_18 lt_b12_18 lt_b13_18 lt_b14_18 lt_b15_18 lt_ma_16_18 lt_mb_16_18 lt_iA_16_18 lt_oA_16_18 lt_sA_16_18 lt_tA_16_18 lt_zA_16_18 lt_iB_16_18 lt_oB_16_18 lt_sB_16_18 lt_tB_16_18 lt_zB_16_18 lt_b17_18
  refine own_by (T' := T18) (g' := (mkF m 139 (Ls56 x1 x2 x3 x4 x5 (FP.l2d y0) (FP.l2d y1) (FP.l2d y2) (FP.l2d m0) (FP.l2d m1) (FP.l2d w0) (FP.l2d w1) b1 b5 b8 b11 b12 b13 b14 b15) [(.ref b17)])) (fun t k => st18.trans k) ?_
  clear st18 X17 e17
  refine oAst 141 X18 hx (hb hby at_139) (Ls57 x1 x2 x3 x4 x5 (FP.l2d y0) (FP.l2d y1) (FP.l2d y2) (FP.l2d m0) (FP.l2d m1) (FP.l2d w0) (FP.l2d w1) b1 b5 b8 b11 b12 b13 b14 b15 b17) rfl rfl ?_
  exact own_law141 l Z a0 hw hx hby hml Bd.notSynchronized Bd.returns x1 x2 x3 x4 x5 h0 n0  y0 y1 y2 m0 m1 w0 w1 b1 k1 b5 k5 b8 k8 b11 k11 b12 k12 b13 k13 b14 k14 b15 ma_16 iA_16 oA_16 sA_16 tA_16 zA_16 mb_16 iB_16 oB_16 sB_16 tB_16 zB_16 kiA_16 koA_16 ksA_16 ktA_16 kzA_16 kiB_16 koB_16 ksB_16 ktB_16 kzB_16 b17 xsu_18 xnu_18 xfu_18 xnf_18 xff_18 xmg_18 xrs_18 ksu_18 knu_18 kfu_18 knf_18 kff_18 kmg_18 krs_18 hZ hown (X18) rfl Zle N_ g_b1 V_b1 g_b5 V_b5 g_b8 V_b8 g_b11 V_b11 g_b12 V_b12 g_b13 V_b13 g_b14 V_b14 g_b15 c16_2 g_ma_16 g_iA_16 g_oA_16 g_sA_16 g_tA_16 g_zA_16 g_mb_16 g_iB_16 g_oB_16 g_sB_16 g_tB_16 g_zB_16 c16_3 c16_4 c16_5 c16_6 c16_7 c16_8 c16_9 c16_10 c16_11 c16_12 c16_13 c16_14 c16_15 c16_16 c16_17 c16_18 c16_19 c16_20 c16_21 c16_22 c16_23 c16_24 c16_25 c16_26 c16_27 c16_28 g_b17 C_ c18_2 g_xsu_18 g_xnu_18 g_xfu_18 g_xnf_18 g_xff_18 g_xmg_18 g_xrs_18 c18_3 c18_4 c18_5 c18_6 c18_7 c18_8 c18_9 c18_10 c18_11 c18_12 c18_13 c18_14 c18_15 c18_16 b_y0 b_y1 b_y2 b_m0 b_m1 b_w0 b_w1

set_option maxRecDepth 65536 in
set_option maxHeartbeats 40000000 in
theorem comes_1 {Post : Tables → Env → Array Value → State → Outcome → State → Prop} (hpost : ∀ tb e args s v u, (limb_1_1.after args s (.returned v) u = true ∧ limb_1_2.after args s (.returned v) u = true ∧ True) → FrameEnd s (.returned v) u (Jvm.fieldLocs frame_1_writes args s ++ Jvm.arrayLocs frame_1_arrays args s ++ Jvm.staticLocs frame_1_statics s) 72 256 → Post tb e args s (.returned v) u) :
    ArmFor flags0 classFile x code maxLocals ret World_1 tables_1 room_1 Calls_1 rest_1 Pre_1 Post := by
  intro l hfl _ _ p e ha hc hk s m args below hf hA hF happ hP
  obtain ⟨hcalls, hrest, hpre⟩ := hP
  obtain ⟨-, -, -, hnamed, -, -, -, hat⟩ := (Spec.applies_iff hf).mp happ
  obtain ⟨hg, hn⟩ := and_e (Cond.before_iff.mp (show (Jvm.Cond.and given_1 narrow_1).before args s = true from hpre))
  obtain ⟨hcount, g0⟩ := and_e hg
  obtain ⟨a0, g1⟩ := and_e g0
  obtain ⟨a1, g2⟩ := and_e g1
  obtain ⟨a2, g3⟩ := and_e g2
  obtain ⟨a3, g4⟩ := and_e g3
  obtain ⟨w0, w1, w2, w3, w4, rfl⟩ : ∃ w0 w1 w2 w3 w4 : Value, args = #[w0, w1, w2, w3, w4] := by
    have hs : args.size = 5 := by simpa [Cond.value, given_1] using hcount
    obtain ⟨L⟩ := args
    match L, hs with
    | [w0, w1, w2, w3, w4], _ => exact ⟨w0, w1, w2, w3, w4, rfl⟩
  have hw := fun d (hd : d ∈ tables_1) => atoms_spec (ws := Jvm.Cond.code x code maxLocals ret :: tables_1) hat d (List.mem_cons_of_mem _ hd)
  have hfit : Fit s := fun {y c} hc i hi => by
    obtain ⟨ha, rfl⟩ := Array.getElem?_eq_some_iff.mp hc
    have q := List.all_eq_true.mp ((Array.all_eq_true_iff_forall_mem.mp hF) _ (Array.getElem_mem ha)) i (List.mem_range.mpr hi)
    simpa [Array.getElem?_eq_getElem hi] using q
  obtain ⟨i0, ei0⟩ := is_v a0
  obtain rfl : w0 = (.int i0) := Option.some.inj ei0
  obtain ⟨i1, ei1⟩ := is_v a1
  obtain rfl : w1 = (.int i1) := Option.some.inj ei1
  obtain ⟨i2, ei2⟩ := is_v a2
  obtain rfl : w2 = (.int i2) := Option.some.inj ei2
  obtain ⟨i3, ei3⟩ := is_v a3
  obtain rfl : w3 = (.int i3) := Option.some.inj ei3
  obtain ⟨i4, ei4⟩ := is_v g4
  obtain rfl : w4 = (.int i4) := Option.some.inj ei4
  obtain ⟨n, o, h1, h2, h3, _, L, rfl, ⟨rfl, N⟩, hq⟩ := rm0 l s _ hw tables_1 i0 i1 i2 i3 i4 s.heap s.heap.size (Nat.le_refl _)  p e ha hc hk s m _ below hf ((Spec.applies_iff_loose hf).mp happ).1 ⟨rfl, State.Warmed39.refl s, rfl⟩ trivial
  refine ⟨n, _, h1, h2, h3, hpost _ _ _ _ _ _ ⟨Cond.after_iff.mpr rfl, Cond.after_iff.mpr (eq_i res_at (Term.int_eval (1)) rfl), trivial⟩ ⟨hq.1, hq.2.1, (hq.2.2.sift fun y hy => Or.inr (N y hy)).mono (by decide) (by decide)⟩⟩
theorem main_1_1 : Claimed_1_1 := comes_1 fun _ _ _ _ _ _ h hF => ⟨h.1, hF⟩
theorem main_1_2 : Claimed_1_2 := comes_1 fun _ _ _ _ _ _ h hF => ⟨h.2.1, hF⟩

end Jvm.Pilot.@@N@@
namespace Jvm.Pilot.@@N@@
open Jvm Jvm.ClassFile Sem Op Lib Jvm.Free Jvm.Stand Jvm.Pilot.@@N@@.Jvm.D
/-! MADE BY PROGRAM (witnessworld.py) out of the Statement's table words and the real class files: 14 classes; the members and pool entries that the words name. The judged class is class 1, her method 4. -/
namespace start1
open Jvm.ClassFile
def u (s : String) : CpInfo := .utf8 (stringToUtf16 s)
/-- a pool by its gaps: so many unusable entries, then the entry; so many at the end -/
def gap : Nat → List CpInfo → List CpInfo
  | 0, r => r
  | n + 1, r => .unusable :: gap n r
def poolList (es : List (Nat × CpInfo)) (last : Nat) : List CpInfo := es.foldr (fun e r => gap e.1 (e.2 :: r)) (gap last [])
def pool (es : List (Nat × CpInfo)) (last : Nat) : Array CpInfo := ⟨poolList es last⟩
def fileOf (pool : Array CpInfo) (this : Nat) (attrs : Array Attribute := #[]) (ms : Array MethodInfo := #[]) (fl : Nat := 33) (sup : Nat := 0) (ifs : Array Nat := #[]) (fds : Array FieldInfo := #[]) : ClassFile where
  minorVersion := 0
  majorVersion := 65
  constantPool := pool
  accessFlags := fl
  thisClass := this
  superClass := sup
  interfaces := ifs
  fields := fds
  methods := ms
  attributes := attrs
def plain (name : String) (sup : Option ClassId) : Class where
  name := name
  kind := .ordinary
  loader := none
  accessFlags := 33
  super := sup
  interfaces := #[]
  cf := none
  fields := #[]
  methods := #[]
  instanceTypes := #[]
  staticTypes := #[]
  resolved := #[]
  callSites := []
  init := .initialized
  statics := none
  mirror := none

def pool0 : Array CpInfo := pool [(5, u "<init>"), (0, u "()V"), (1, .class_ 10), (1, u "java/lang/Object")] 113

def k0c0 : Code := { maxStack := 0, maxLocals := 1, code := object_method_1_code, exceptionTable := #[], attributes := #[] }
def k0m0 : Method := { name := "<init>", desc := "()V", sig := { parameters := [], returnType := none }, accessFlags := 1, code := some k0c0 }
/-- java/lang/Object -/
def k0 : Class := { plain "java/lang/Object" none with
  accessFlags := 33
  interfaces := #[]
  cf := some (fileOf pool0 8 #[] #[{ accessFlags := 1, nameIndex := 5, descriptorIndex := 6, attributes := #[] }] 33 0 #[] #[])
  fields := #[]
  methods := #[k0m0]
  instanceTypes := #[]
  staticTypes := #[]
  resolved := Array.replicate 124 none
  statics := none }

def pool1 : Array CpInfo := pool [(2, .class_ 4), (1, u "java/lang/Object"), (0, u "<init>"), (0, u "()V"), (0, .methodref 8 9), (0, .class_ 10), (0, .nameAndType 11 12), (0, u "com/example/firebreak/firebreak/strategies/CountFactorTakeReceivedPinLaw"), (0, u "best"), (0, u "(DD)D"), (0, .methodref 8 14), (0, .nameAndType 15 16), (0, u "ref"), (0, u "(DDDD)D"), (0, .class_ 18), (0, u "com/example/firebreak/firebreak/strategies/CountFactor"), (0, .methodref 17 20), (0, .nameAndType 5 21), (0, u "([D)V"), (0, .class_ 23), (0, u "com/example/firebreak/firebreak/strategies/CountFactor$Scratch"), (0, .methodref 22 25), (0, .nameAndType 5 26), (0, u "(I)V"), (0, .methodref 17 28), (0, .nameAndType 29 30), (0, u "receive"), (0, u "([DLcom/example/firebreak/firebreak/strategies/CountFactor$Scratch;)V"), (0, .methodref 17 32), (0, .nameAndType 33 30), (0, u "answerAll"), (0, .methodref 8 35), (0, .nameAndType 36 37), (0, u "agrees"), (0, u "([DDDDDD)Z"), (0, .methodref 17 39), (0, .nameAndType 40 6), (0, u "takeReceived"), (3, u "law"), (0, u "(IIIII)Z")] 6

def k1m0 : Method := { name := "<init>", desc := "()V", sig := { parameters := [], returnType := none }, accessFlags := 1, code := none }
def k1c1 : Code := { maxStack := 4, maxLocals := 4, code := method_2_code, exceptionTable := #[], attributes := #[] }
def k1m1 : Method := { name := "best", desc := "(DD)D", sig := { parameters := [.double, .double], returnType := some .double }, accessFlags := 10, code := some k1c1 }
def k1c2 : Code := { maxStack := 8, maxLocals := 8, code := method_3_code, exceptionTable := #[], attributes := #[] }
def k1m2 : Method := { name := "ref", desc := "(DDDD)D", sig := { parameters := [.double, .double, .double, .double], returnType := some .double }, accessFlags := 10, code := some k1c2 }
def k1c3 : Code := { maxStack := 10, maxLocals := 11, code := method_4_code, exceptionTable := #[], attributes := #[] }
def k1m3 : Method := { name := "agrees", desc := "([DDDDDD)Z", sig := { parameters := [(.array .double), .double, .double, .double, .double, .double], returnType := some .boolean }, accessFlags := 10, code := some k1c3 }
def k1c4 : Code := { maxStack := 11, maxLocals := 29, code := code, exceptionTable := #[], attributes := #[] }
def k1m4 : Method := { name := "law", desc := "(IIIII)Z", sig := { parameters := [.int, .int, .int, .int, .int], returnType := some .boolean }, accessFlags := 9, code := some k1c4 }
/-- com/example/firebreak/firebreak/strategies/CountFactorTakeReceivedPinLaw -/
def k1 : Class := { plain "com/example/firebreak/firebreak/strategies/CountFactorTakeReceivedPinLaw" (some 0) with
  accessFlags := 49
  interfaces := #[]
  cf := some (fileOf pool1 8 #[] #[{ accessFlags := 1, nameIndex := 5, descriptorIndex := 6, attributes := #[] }, { accessFlags := 10, nameIndex := 11, descriptorIndex := 12, attributes := #[] }, { accessFlags := 10, nameIndex := 15, descriptorIndex := 16, attributes := #[] }, { accessFlags := 10, nameIndex := 36, descriptorIndex := 37, attributes := #[] }, { accessFlags := 9, nameIndex := 44, descriptorIndex := 45, attributes := #[] }] 49 2 #[] #[])
  fields := #[]
  methods := #[k1m0, k1m1, k1m2, k1m3, k1m4]
  instanceTypes := #[]
  staticTypes := #[]
  resolved := Array.replicate 52 none
  statics := none }

def pool2 : Array CpInfo := pool [(1, .methodref 2 3), (0, .class_ 4), (0, .nameAndType 5 6), (0, u "java/lang/Object"), (0, u "<init>"), (0, u "()V"), (0, .fieldref 8 9), (0, .class_ 10), (0, .nameAndType 11 12), (0, u "com/example/firebreak/firebreak/strategies/CountFactor"), (0, u "n"), (0, u "I"), (0, .fieldref 8 14), (0, .nameAndType 15 16), (0, u "score"), (0, u "[D"), (0, .fieldref 8 18), (0, .nameAndType 19 16), (0, u "bestFrom"), (0, .methodref 21 22), (0, .class_ 23), (0, .nameAndType 24 25), (0, u "java/lang/Math"), (0, u "max"), (0, u "(DD)D"), (0, .class_ 27), (0, u "com/example/firebreak/firebreak/strategies/CountFactor$Messages"), (0, .methodref 26 29), (0, .nameAndType 5 30), (0, u "(I)V"), (0, .fieldref 8 32), (0, .nameAndType 33 34), (0, u "messages"), (0, u "Lcom/example/firebreak/firebreak/strategies/CountFactor$Messages;"), (0, .fieldref 8 36), (0, .nameAndType 37 34), (0, u "received"), (0, .fieldref 8 39), (0, .nameAndType 40 41), (0, u "tieWeighed"), (0, u "[I"), (0, .fieldref 8 43), (0, .nameAndType 44 41), (0, u "nextTie"), (0, .fieldref 8 46), (0, .nameAndType 47 41), (0, u "previousTie"), (0, .fieldref 26 49), (0, .nameAndType 50 16), (0, u "incoming"), (0, .methodref 52 53), (0, .class_ 54), (0, .nameAndType 55 56), (0, u "java/lang/System"), (0, u "arraycopy"), (0, u "(Ljava/lang/Object;ILjava/lang/Object;II)V"), (0, .fieldref 26 58), (0, .nameAndType 59 41), (0, u "order"), (0, .fieldref 61 62), (0, .class_ 63), (0, .nameAndType 64 41), (0, u "com/example/firebreak/firebreak/strategies/CountFactor$Scratch"), (0, u "runStarts"), (0, .fieldref 61 66), (0, .nameAndType 67 41), (0, u "merging"), (0, .methodref 21 69), (0, .nameAndType 70 71), (0, u "min"), (0, u "(II)I"), (0, .methodref 8 73), (0, .nameAndType 74 75), (0, u "merge"), (0, u "([D[I[IIII)V"), (0, .fieldref 26 77), (0, .nameAndType 78 16), (0, u "sorted"), (0, .fieldref 26 80), (0, .nameAndType 81 41), (0, u "tieOf"), (0, .fieldref 26 83), (0, .nameAndType 84 41), (0, u "tieSize"), (0, .fieldref 61 86), (0, .nameAndType 87 16), (0, u "sums"), (0, .fieldref 61 89), (0, .nameAndType 90 16), (0, u "onUpTo"), (0, .fieldref 61 92), (0, .nameAndType 93 16), (0, u "offUpTo"), (0, .fieldref 61 95), (0, .nameAndType 96 16), (0, u "onFrom"), (0, .fieldref 61 98), (0, .nameAndType 99 16), (0, u "offFrom"), (2, .double 18442240474082181120), (1, .methodref 105 106), (0, .class_ 107), (0, .nameAndType 108 25), (0, u "com/example/firebreak/firebreak/strategies/DoubleMax"), (0, u "of"), (2, u "firstTie"), (2, u "ones"), (2, u "answered"), (0, u "Z"), (2, u "deepestAdded"), (6, u "answer"), (0, u "D"), (0, u "END"), (2, u "([D)V"), (4, u "receive"), (0, u "([DLcom/example/firebreak/firebreak/strategies/CountFactor$Scratch;)V"), (1, u "takeReceived"), (0, u "answerAll")] 10

def k2c0 : Code := { maxStack := 7, maxLocals := 3, code := prog_42_method_1_code, exceptionTable := #[], attributes := #[] }
def k2m0 : Method := { name := "<init>", desc := "([D)V", sig := { parameters := [(.array .double)], returnType := none }, accessFlags := 0, code := some k2c0 }
def k2c1 : Code := { maxStack := 8, maxLocals := 13, code := prog_42_method_2_code, exceptionTable := #[], attributes := #[] }
def k2m1 : Method := { name := "receive", desc := "([DLcom/example/firebreak/firebreak/strategies/CountFactor$Scratch;)V", sig := { parameters := [(.array .double), (.object "com/example/firebreak/firebreak/strategies/CountFactor$Scratch")], returnType := none }, accessFlags := 0, code := some k2c1 }
def k2c2 : Code := { maxStack := 2, maxLocals := 2, code := prog_42_method_3_code, exceptionTable := #[], attributes := #[] }
def k2m2 : Method := { name := "takeReceived", desc := "()V", sig := { parameters := [], returnType := none }, accessFlags := 0, code := some k2c2 }
def k2c3 : Code := { maxStack := 5, maxLocals := 9, code := prog_42_method_4_code, exceptionTable := #[], attributes := #[] }
def k2m3 : Method := { name := "merge", desc := "([D[I[IIII)V", sig := { parameters := [(.array .double), (.array .int), (.array .int), .int, .int, .int], returnType := none }, accessFlags := 10, code := some k2c3 }
def k2c4 : Code := { maxStack := 9, maxLocals := 18, code := prog_42_method_5_code, exceptionTable := #[], attributes := #[] }
def k2m4 : Method := { name := "answerAll", desc := "([DLcom/example/firebreak/firebreak/strategies/CountFactor$Scratch;)V", sig := { parameters := [(.array .double), (.object "com/example/firebreak/firebreak/strategies/CountFactor$Scratch")], returnType := none }, accessFlags := 0, code := some k2c4 }
/-- com/example/firebreak/firebreak/strategies/CountFactor -/
def k2 : Class := { plain "com/example/firebreak/firebreak/strategies/CountFactor" (some 0) with
  accessFlags := 48
  interfaces := #[]
  cf := some (fileOf pool2 8 #[.nestMembers #[61, 26]] #[{ accessFlags := 0, nameIndex := 5, descriptorIndex := 133, attributes := #[] }, { accessFlags := 0, nameIndex := 138, descriptorIndex := 139, attributes := #[] }, { accessFlags := 0, nameIndex := 141, descriptorIndex := 6, attributes := #[] }, { accessFlags := 10, nameIndex := 74, descriptorIndex := 75, attributes := #[] }, { accessFlags := 0, nameIndex := 142, descriptorIndex := 139, attributes := #[] }] 48 2 #[] #[{ accessFlags := 26, nameIndex := 130, descriptorIndex := 12, attributes := #[] }, { accessFlags := 18, nameIndex := 11, descriptorIndex := 12, attributes := #[] }, { accessFlags := 18, nameIndex := 15, descriptorIndex := 16, attributes := #[] }, { accessFlags := 18, nameIndex := 19, descriptorIndex := 16, attributes := #[] }, { accessFlags := 2, nameIndex := 33, descriptorIndex := 34, attributes := #[] }, { accessFlags := 2, nameIndex := 37, descriptorIndex := 34, attributes := #[] }, { accessFlags := 18, nameIndex := 40, descriptorIndex := 41, attributes := #[] }, { accessFlags := 18, nameIndex := 44, descriptorIndex := 41, attributes := #[] }, { accessFlags := 18, nameIndex := 47, descriptorIndex := 41, attributes := #[] }, { accessFlags := 2, nameIndex := 111, descriptorIndex := 12, attributes := #[] }, { accessFlags := 2, nameIndex := 114, descriptorIndex := 12, attributes := #[] }, { accessFlags := 2, nameIndex := 117, descriptorIndex := 118, attributes := #[] }, { accessFlags := 2, nameIndex := 128, descriptorIndex := 129, attributes := #[] }, { accessFlags := 2, nameIndex := 121, descriptorIndex := 12, attributes := #[] }])
  fields := #[{ name := "END", type := .int, accessFlags := 26, slot := 0, constantValue := 0 }, { name := "n", type := .int, accessFlags := 18, slot := 0, constantValue := 0 }, { name := "score", type := (.array .double), accessFlags := 18, slot := 1, constantValue := 0 }, { name := "bestFrom", type := (.array .double), accessFlags := 18, slot := 2, constantValue := 0 }, { name := "messages", type := (.object "com/example/firebreak/firebreak/strategies/CountFactor$Messages"), accessFlags := 2, slot := 3, constantValue := 0 }, { name := "received", type := (.object "com/example/firebreak/firebreak/strategies/CountFactor$Messages"), accessFlags := 2, slot := 4, constantValue := 0 }, { name := "tieWeighed", type := (.array .int), accessFlags := 18, slot := 5, constantValue := 0 }, { name := "nextTie", type := (.array .int), accessFlags := 18, slot := 6, constantValue := 0 }, { name := "previousTie", type := (.array .int), accessFlags := 18, slot := 7, constantValue := 0 }, { name := "firstTie", type := .int, accessFlags := 2, slot := 8, constantValue := 0 }, { name := "ones", type := .int, accessFlags := 2, slot := 9, constantValue := 0 }, { name := "answered", type := .boolean, accessFlags := 2, slot := 10, constantValue := 0 }, { name := "answer", type := .double, accessFlags := 2, slot := 11, constantValue := 0 }, { name := "deepestAdded", type := .int, accessFlags := 2, slot := 12, constantValue := 0 }]
  methods := #[k2m0, k2m1, k2m2, k2m3, k2m4]
  instanceTypes := #[.int, (.array .double), (.array .double), (.object "com/example/firebreak/firebreak/strategies/CountFactor$Messages"), (.object "com/example/firebreak/firebreak/strategies/CountFactor$Messages"), (.array .int), (.array .int), (.array .int), .int, .int, .boolean, .double, .int]
  staticTypes := #[.int]
  resolved := ((List.range 153).map fun i => if i = 26 then some (.cls 4) else if i = 28 then some (.method ⟨4, 0⟩) else if i = 48 then some (.field 4 0) else if i = 57 then some (.field 4 1) else if i = 60 then some (.field 5 6) else if i = 65 then some (.field 5 5) else if i = 76 then some (.field 4 2) else if i = 79 then some (.field 4 3) else if i = 82 then some (.field 4 4) else if i = 85 then some (.field 5 0) else if i = 88 then some (.field 5 1) else if i = 91 then some (.field 5 2) else if i = 94 then some (.field 5 3) else if i = 97 then some (.field 5 4) else none).toArray
  statics := none }

def pool3 : Array CpInfo := pool [(1, .class_ 2), (0, u "java/lang/Math"), (1, .class_ 6), (1, u "java/lang/Object"), (0, u "<init>"), (0, u "()V"), (43, u "(DD)D"), (45, .class_ 100), (1, u "java/lang/Math$RandomNumberGeneratorHolder"), (71, u "negativeZeroFloatBits"), (0, u "J"), (2, u "negativeZeroDoubleBits"), (21, u "max"), (2, u "min"), (43, u "$assertionsDisabled"), (0, u "Z"), (88, u "(II)I"), (2, u "twoToTheDoubleScaleDown"), (0, u "D"), (4, u "twoToTheDoubleScaleUp"), (9, u "E"), (3, u "PI"), (2, u "TAU"), (2, u "DEGREES_TO_RADIANS"), (0, u "RADIANS_TO_DEGREES")] 94

def k3m0 : Method := { name := "<init>", desc := "()V", sig := { parameters := [], returnType := none }, accessFlags := 2, code := none }
def k3c1 : Code := { maxStack := 4, maxLocals := 4, code := jdk_29_method_68_code, exceptionTable := #[], attributes := #[] }
def k3m1 : Method := { name := "max", desc := "(DD)D", sig := { parameters := [.double, .double], returnType := some .double }, accessFlags := 9, code := some k3c1 }
def k3c2 : Code := { maxStack := 2, maxLocals := 2, code := jdk_29_method_69_code, exceptionTable := #[], attributes := #[] }
def k3m2 : Method := { name := "min", desc := "(II)I", sig := { parameters := [.int, .int], returnType := some .int }, accessFlags := 9, code := some k3c2 }
/-- java/lang/Math -/
def k3 : Class := { plain "java/lang/Math" (some 0) with
  accessFlags := 49
  interfaces := #[]
  cf := some (fileOf pool3 1 #[.nestMembers #[98]] #[{ accessFlags := 2, nameIndex := 7, descriptorIndex := 8, attributes := #[] }, { accessFlags := 9, nameIndex := 198, descriptorIndex := 52, attributes := #[] }, { accessFlags := 9, nameIndex := 201, descriptorIndex := 335, attributes := #[] }] 49 4 #[] #[{ accessFlags := 25, nameIndex := 354, descriptorIndex := 339, attributes := #[] }, { accessFlags := 25, nameIndex := 358, descriptorIndex := 339, attributes := #[] }, { accessFlags := 25, nameIndex := 361, descriptorIndex := 339, attributes := #[] }, { accessFlags := 26, nameIndex := 364, descriptorIndex := 339, attributes := #[] }, { accessFlags := 26, nameIndex := 365, descriptorIndex := 339, attributes := #[] }, { accessFlags := 26, nameIndex := 172, descriptorIndex := 173, attributes := #[] }, { accessFlags := 26, nameIndex := 176, descriptorIndex := 173, attributes := #[] }, { accessFlags := 8, nameIndex := 344, descriptorIndex := 339, attributes := #[] }, { accessFlags := 8, nameIndex := 338, descriptorIndex := 339, attributes := #[] }, { accessFlags := 4120, nameIndex := 245, descriptorIndex := 246, attributes := #[] }])
  fields := #[{ name := "E", type := .double, accessFlags := 25, slot := 0, constantValue := 0 }, { name := "PI", type := .double, accessFlags := 25, slot := 1, constantValue := 0 }, { name := "TAU", type := .double, accessFlags := 25, slot := 2, constantValue := 0 }, { name := "DEGREES_TO_RADIANS", type := .double, accessFlags := 26, slot := 3, constantValue := 0 }, { name := "RADIANS_TO_DEGREES", type := .double, accessFlags := 26, slot := 4, constantValue := 0 }, { name := "negativeZeroFloatBits", type := .long, accessFlags := 26, slot := 5, constantValue := 0 }, { name := "negativeZeroDoubleBits", type := .long, accessFlags := 26, slot := 6, constantValue := 0 }, { name := "twoToTheDoubleScaleUp", type := .double, accessFlags := 8, slot := 7, constantValue := 0 }, { name := "twoToTheDoubleScaleDown", type := .double, accessFlags := 8, slot := 8, constantValue := 0 }, { name := "$assertionsDisabled", type := .boolean, accessFlags := 4120, slot := 9, constantValue := 0 }]
  methods := #[k3m0, k3m1, k3m2]
  instanceTypes := #[]
  staticTypes := #[.double, .double, .double, .double, .double, .long, .long, .double, .double, .boolean]
  resolved := Array.replicate 460 none
  statics := none }

def pool4 : Array CpInfo := pool [(1, .methodref 2 3), (0, .class_ 4), (0, .nameAndType 5 6), (0, u "java/lang/Object"), (0, u "<init>"), (0, u "()V"), (0, .fieldref 8 9), (0, .class_ 10), (0, .nameAndType 11 12), (0, u "com/example/firebreak/firebreak/strategies/CountFactor$Messages"), (0, u "incoming"), (0, u "[D"), (0, .fieldref 8 14), (0, .nameAndType 15 16), (0, u "order"), (0, u "[I"), (0, .fieldref 8 18), (0, .nameAndType 19 12), (0, u "sorted"), (0, .fieldref 8 21), (0, .nameAndType 22 16), (0, u "tieOf"), (0, .fieldref 8 24), (0, .nameAndType 25 16), (0, u "tieSize"), (0, u "(I)V"), (6, .class_ 34), (0, u "com/example/firebreak/firebreak/strategies/CountFactor")] 2

def k4c0 : Code := { maxStack := 3, maxLocals := 3, code := prog_43_method_1_code, exceptionTable := #[], attributes := #[] }
def k4m0 : Method := { name := "<init>", desc := "(I)V", sig := { parameters := [.int], returnType := none }, accessFlags := 2, code := some k4c0 }
/-- com/example/firebreak/firebreak/strategies/CountFactor$Messages -/
def k4 : Class := { plain "com/example/firebreak/firebreak/strategies/CountFactor$Messages" (some 0) with
  accessFlags := 48
  interfaces := #[]
  cf := some (fileOf pool4 8 #[.nestHost 33] #[{ accessFlags := 2, nameIndex := 5, descriptorIndex := 26, attributes := #[] }] 48 2 #[] #[{ accessFlags := 18, nameIndex := 11, descriptorIndex := 12, attributes := #[] }, { accessFlags := 18, nameIndex := 15, descriptorIndex := 16, attributes := #[] }, { accessFlags := 18, nameIndex := 19, descriptorIndex := 12, attributes := #[] }, { accessFlags := 18, nameIndex := 22, descriptorIndex := 16, attributes := #[] }, { accessFlags := 18, nameIndex := 25, descriptorIndex := 16, attributes := #[] }])
  fields := #[{ name := "incoming", type := (.array .double), accessFlags := 18, slot := 0, constantValue := 0 }, { name := "order", type := (.array .int), accessFlags := 18, slot := 1, constantValue := 0 }, { name := "sorted", type := (.array .double), accessFlags := 18, slot := 2, constantValue := 0 }, { name := "tieOf", type := (.array .int), accessFlags := 18, slot := 3, constantValue := 0 }, { name := "tieSize", type := (.array .int), accessFlags := 18, slot := 4, constantValue := 0 }]
  methods := #[k4m0]
  instanceTypes := #[(.array .double), (.array .int), (.array .double), (.array .int), (.array .int)]
  staticTypes := #[]
  resolved := Array.replicate 37 none
  statics := none }

def pool5 : Array CpInfo := pool [(1, .methodref 2 3), (0, .class_ 4), (0, .nameAndType 5 6), (0, u "java/lang/Object"), (0, u "<init>"), (0, u "()V"), (0, .fieldref 8 9), (0, .class_ 10), (0, .nameAndType 11 12), (0, u "com/example/firebreak/firebreak/strategies/CountFactor$Scratch"), (0, u "sums"), (0, u "[D"), (0, .fieldref 8 14), (0, .nameAndType 15 12), (0, u "onUpTo"), (0, .fieldref 8 17), (0, .nameAndType 18 12), (0, u "offUpTo"), (0, .fieldref 8 20), (0, .nameAndType 21 12), (0, u "onFrom"), (0, .fieldref 8 23), (0, .nameAndType 24 12), (0, u "offFrom"), (0, .fieldref 8 26), (0, .nameAndType 27 28), (0, u "merging"), (0, u "[I"), (0, .fieldref 8 30), (0, .nameAndType 31 28), (0, u "runStarts"), (0, u "(I)V"), (5, .class_ 39), (0, u "com/example/firebreak/firebreak/strategies/CountFactor")] 2

def k5c0 : Code := { maxStack := 3, maxLocals := 2, code := prog_44_method_1_code, exceptionTable := #[], attributes := #[] }
def k5m0 : Method := { name := "<init>", desc := "(I)V", sig := { parameters := [.int], returnType := none }, accessFlags := 0, code := some k5c0 }
/-- com/example/firebreak/firebreak/strategies/CountFactor$Scratch -/
def k5 : Class := { plain "com/example/firebreak/firebreak/strategies/CountFactor$Scratch" (some 0) with
  accessFlags := 48
  interfaces := #[]
  cf := some (fileOf pool5 8 #[.nestHost 38] #[{ accessFlags := 0, nameIndex := 5, descriptorIndex := 32, attributes := #[] }] 48 2 #[] #[{ accessFlags := 18, nameIndex := 11, descriptorIndex := 12, attributes := #[] }, { accessFlags := 18, nameIndex := 15, descriptorIndex := 12, attributes := #[] }, { accessFlags := 18, nameIndex := 18, descriptorIndex := 12, attributes := #[] }, { accessFlags := 18, nameIndex := 21, descriptorIndex := 12, attributes := #[] }, { accessFlags := 18, nameIndex := 24, descriptorIndex := 12, attributes := #[] }, { accessFlags := 18, nameIndex := 27, descriptorIndex := 28, attributes := #[] }, { accessFlags := 18, nameIndex := 31, descriptorIndex := 28, attributes := #[] }])
  fields := #[{ name := "sums", type := (.array .double), accessFlags := 18, slot := 0, constantValue := 0 }, { name := "onUpTo", type := (.array .double), accessFlags := 18, slot := 1, constantValue := 0 }, { name := "offUpTo", type := (.array .double), accessFlags := 18, slot := 2, constantValue := 0 }, { name := "onFrom", type := (.array .double), accessFlags := 18, slot := 3, constantValue := 0 }, { name := "offFrom", type := (.array .double), accessFlags := 18, slot := 4, constantValue := 0 }, { name := "merging", type := (.array .int), accessFlags := 18, slot := 5, constantValue := 0 }, { name := "runStarts", type := (.array .int), accessFlags := 18, slot := 6, constantValue := 0 }]
  methods := #[k5m0]
  instanceTypes := #[(.array .double), (.array .double), (.array .double), (.array .double), (.array .double), (.array .int), (.array .int)]
  staticTypes := #[]
  resolved := Array.replicate 42 none
  statics := none }

def pool6 : Array CpInfo := pool [(2, .class_ 4), (1, u "java/lang/Object"), (0, u "<init>"), (0, u "()V"), (1, .class_ 10), (1, u "java/lang/System"), (0, u "allowSecurityManager"), (0, u "I"), (16, u "cons"), (0, u "Ljava/io/Console;"), (77, .class_ 110), (1, u "java/lang/System$CallersHolder"), (43, u "initialErrStream"), (0, u "Ljava/io/PrintStream;"), (19, u "security"), (0, u "Ljava/lang/SecurityManager;"), (31, .class_ 209), (0, u "java/lang/System$1"), (7, u "props"), (0, u "Ljava/util/Properties;"), (2, u "lineSeparator"), (0, u "Ljava/lang/String;"), (96, .class_ 321), (1, u "java/lang/System$LoggerFinder"), (5, .class_ 328), (0, u "java/lang/System$Logger"), (67, u "err"), (2, u "out"), (91, u "notSupportedJnuEncoding"), (15, u "in"), (17, u "initialIn"), (0, u "Ljava/io/InputStream;"), (35, u "bootLayer"), (0, u "Ljava/lang/ModuleLayer;"), (99, .class_ 664), (0, u "java/lang/System$2"), (9, u "NEVER"), (2, u "MAYBE"), (49, u "arraycopy"), (0, u "(Ljava/lang/Object;ILjava/lang/Object;II)V"), (72, .class_ 802), (0, u "java/lang/System$Logger$Level")] 31

def k6m0 : Method := { name := "<init>", desc := "()V", sig := { parameters := [], returnType := none }, accessFlags := 2, code := none }
def k6m1 : Method := { name := "arraycopy", desc := "(Ljava/lang/Object;ILjava/lang/Object;II)V", sig := { parameters := [(.object "java/lang/Object"), .int, (.object "java/lang/Object"), .int, .int], returnType := none }, accessFlags := 265, code := none }
/-- java/lang/System -/
def k6 : Class := { plain "java/lang/System" (some 0) with
  accessFlags := 49
  interfaces := #[]
  cf := some (fileOf pool6 8 #[.nestMembers #[319, 327, 801, 108, 663, 208]] #[{ accessFlags := 2, nameIndex := 5, descriptorIndex := 6, attributes := #[] }, { accessFlags := 265, nameIndex := 727, descriptorIndex := 728, attributes := #[] }] 49 2 #[] #[{ accessFlags := 25, nameIndex := 507, descriptorIndex := 526, attributes := #[] }, { accessFlags := 25, nameIndex := 399, descriptorIndex := 155, attributes := #[] }, { accessFlags := 25, nameIndex := 396, descriptorIndex := 155, attributes := #[] }, { accessFlags := 10, nameIndex := 525, descriptorIndex := 526, attributes := #[] }, { accessFlags := 26, nameIndex := 674, descriptorIndex := 12, attributes := #[] }, { accessFlags := 26, nameIndex := 677, descriptorIndex := 12, attributes := #[] }, { accessFlags := 10, nameIndex := 11, descriptorIndex := 12, attributes := #[] }, { accessFlags := 74, nameIndex := 175, descriptorIndex := 176, attributes := #[] }, { accessFlags := 10, nameIndex := 491, descriptorIndex := 222, attributes := #[] }, { accessFlags := 74, nameIndex := 29, descriptorIndex := 30, attributes := #[] }, { accessFlags := 74, nameIndex := 154, descriptorIndex := 155, attributes := #[] }, { accessFlags := 10, nameIndex := 217, descriptorIndex := 218, attributes := #[] }, { accessFlags := 10, nameIndex := 221, descriptorIndex := 222, attributes := #[] }, { accessFlags := 8, nameIndex := 562, descriptorIndex := 563, attributes := #[] }])
  fields := #[{ name := "in", type := (.object "java/io/InputStream"), accessFlags := 25, slot := 0, constantValue := 0 }, { name := "out", type := (.object "java/io/PrintStream"), accessFlags := 25, slot := 1, constantValue := 0 }, { name := "err", type := (.object "java/io/PrintStream"), accessFlags := 25, slot := 2, constantValue := 0 }, { name := "initialIn", type := (.object "java/io/InputStream"), accessFlags := 10, slot := 3, constantValue := 0 }, { name := "NEVER", type := .int, accessFlags := 26, slot := 4, constantValue := 0 }, { name := "MAYBE", type := .int, accessFlags := 26, slot := 5, constantValue := 0 }, { name := "allowSecurityManager", type := .int, accessFlags := 10, slot := 6, constantValue := 0 }, { name := "security", type := (.object "java/lang/SecurityManager"), accessFlags := 74, slot := 7, constantValue := 0 }, { name := "notSupportedJnuEncoding", type := (.object "java/lang/String"), accessFlags := 10, slot := 8, constantValue := 0 }, { name := "cons", type := (.object "java/io/Console"), accessFlags := 74, slot := 9, constantValue := 0 }, { name := "initialErrStream", type := (.object "java/io/PrintStream"), accessFlags := 74, slot := 10, constantValue := 0 }, { name := "props", type := (.object "java/util/Properties"), accessFlags := 10, slot := 11, constantValue := 0 }, { name := "lineSeparator", type := (.object "java/lang/String"), accessFlags := 10, slot := 12, constantValue := 0 }, { name := "bootLayer", type := (.object "java/lang/ModuleLayer"), accessFlags := 8, slot := 13, constantValue := 0 }]
  methods := #[k6m0, k6m1]
  instanceTypes := #[]
  staticTypes := #[(.object "java/io/InputStream"), (.object "java/io/PrintStream"), (.object "java/io/PrintStream"), (.object "java/io/InputStream"), .int, .int, .int, (.object "java/lang/SecurityManager"), (.object "java/lang/String"), (.object "java/io/Console"), (.object "java/io/PrintStream"), (.object "java/util/Properties"), (.object "java/lang/String"), (.object "java/lang/ModuleLayer")]
  resolved := Array.replicate 834 none
  statics := none }

def pool7 : Array CpInfo := pool [(2, .class_ 4), (1, u "java/lang/Object"), (0, u "<init>"), (0, u "()V"), (0, .class_ 8), (0, u "com/example/firebreak/firebreak/strategies/DoubleMax"), (2, u "of"), (0, u "(DD)D")] 3

def k7m0 : Method := { name := "<init>", desc := "()V", sig := { parameters := [], returnType := none }, accessFlags := 2, code := none }
def k7c1 : Code := { maxStack := 4, maxLocals := 4, code := prog_46_method_2_code, exceptionTable := #[], attributes := #[] }
def k7m1 : Method := { name := "of", desc := "(DD)D", sig := { parameters := [.double, .double], returnType := some .double }, accessFlags := 8, code := some k7c1 }
/-- com/example/firebreak/firebreak/strategies/DoubleMax -/
def k7 : Class := { plain "com/example/firebreak/firebreak/strategies/DoubleMax" (some 0) with
  accessFlags := 48
  interfaces := #[]
  cf := some (fileOf pool7 7 #[] #[{ accessFlags := 2, nameIndex := 5, descriptorIndex := 6, attributes := #[] }, { accessFlags := 8, nameIndex := 11, descriptorIndex := 12, attributes := #[] }] 48 2 #[] #[])
  fields := #[]
  methods := #[k7m0, k7m1]
  instanceTypes := #[]
  staticTypes := #[]
  resolved := Array.replicate 16 none
  statics := none }

def pool8 : Array CpInfo := pool [(1, u "java/lang/Cloneable"), (0, .class_ 1), (0, u "java/lang/Object"), (0, .class_ 3)] 3

/-- java/lang/Cloneable -/
def k8 : Class := { plain "java/lang/Cloneable" (some 0) with
  accessFlags := 1537
  interfaces := #[]
  cf := some (fileOf pool8 2 #[] #[] 1537 4 #[] #[])
  fields := #[]
  methods := #[]
  instanceTypes := #[]
  staticTypes := #[]
  resolved := Array.replicate 8 none
  statics := none }

def pool9 : Array CpInfo := pool [(1, u "java/io/Serializable"), (0, .class_ 1), (0, u "java/lang/Object"), (0, .class_ 3)] 3

/-- java/io/Serializable -/
def k9 : Class := { plain "java/io/Serializable" (some 0) with
  accessFlags := 1537
  interfaces := #[]
  cf := some (fileOf pool9 2 #[] #[] 1537 4 #[] #[])
  fields := #[]
  methods := #[]
  instanceTypes := #[]
  staticTypes := #[]
  resolved := Array.replicate 8 none
  statics := none }

/-- the primitive byte -/
def k10 : Class := { plain "byte" none with kind := .primitive 'B', accessFlags := 0x411 }
/-- [B -/
def k11 : Class := { plain "[B" (some 0) with kind := .array 10 .byte, interfaces := #[8, 9], accessFlags := 1041 }

/-- the primitive int -/
def k12 : Class := { plain "int" none with kind := .primitive 'I', accessFlags := 0x411 }
/-- [I -/
def k13 : Class := { plain "[I" (some 0) with kind := .array 12 .int, interfaces := #[8, 9], accessFlags := 1041 }

/-- the primitive double -/
def k14 : Class := { plain "double" none with kind := .primitive 'D', accessFlags := 0x411 }
/-- [D -/
def k15 : Class := { plain "[D" (some 0) with kind := .array 14 .double, interfaces := #[8, 9], accessFlags := 1041 }

def heap : Heap := #[]
def classes : Array Class := #[k0, k1, k2, k3, k4, k5, k6, k7, k8, k9, k10, k11, k12, k13, k14, k15]
def interned : List (Array UInt16 × Addr) := []
def slotsUsed : Nat := 0
def theMethod : MethodId := ⟨1, 4⟩
def args0 : Array Value := #[.int 5, .int 6, .int 7, .int 8, .int 9]
def aboutOver (below : List Frame) : State where
  vm := { classes := classes, interned := interned.toArray }
  heap := heap
  slotsUsed := slotsUsed
  threads := #[{ frames := .invoking theMethod args0 :: below }]
def below0 : List Frame := [.native { method := ⟨0, 0⟩, args := #[] }]
def about1 : State := aboutOver below0
def p0 : Program := .bare "" "" ""
def e0 : Env := launch0.env 0 0 0
theorem w_frames : about1.frames = Frame.invoking theMethod args0 :: below0 := rfl
set_option maxRecDepth 65536 in
theorem w_args : argsFit about1.vm theMethod args0 = true := by decide +kernel
set_option maxRecDepth 65536 in
theorem w_heap : heapFits about1 = true := by decide +kernel
set_option maxRecDepth 65536 in
theorem w_runnable : about1.curStatus? = some .runnable := by decide +kernel
set_option maxRecDepth 65536 in
theorem w_alone : about1.alone = true := by decide +kernel
set_option maxRecDepth 65536 in
theorem w_named : about1.methodNamed? x = some theMethod := by decide +kernel
set_option maxRecDepth 65536 in
theorem w_hears : about1.hears theMethod below0 = true := by decide +kernel
set_option maxRecDepth 65536 in
theorem w_ripe : about1.ripe theMethod args0 below0 = true := by decide +kernel
theorem w_running : about1.status = .running := rfl
set_option maxRecDepth 65536 in
theorem w_room : about1.hasRoom e0.platform room_1 = true :=
  launch0.hasRoom_least _ room_1 (by decide +kernel) (by decide +kernel) (by decide +kernel) (by decide +kernel) (by decide +kernel) (by decide +kernel)
theorem allAtoms_all (ts : List Jvm.Cond) (a : Array Jvm.Value) (st : Jvm.State) : (allAtoms ts).before a st = ts.all (fun c => c.before a st) := by
  induction ts with
  | nil => rfl
  | cons c t ih =>
    show (Jvm.Cond.and c (allAtoms t)).before a st = _
    rw [Jvm.Cond.before_and, ih, List.all_cons]
def words1 : List Jvm.Cond := Jvm.Cond.code x code maxLocals ret :: tables_1
/-- a 'code' word, met by the world's own term for the bytes: nothing is compared byte by byte -/
theorem code_word {y : MethodName} {bytes : ByteArray} {mx : Nat} {rt : Option FieldType} {a : Array Value} {s : State} {m : MethodId} {meth : Method} {c : Code} (h1 : s.methodNamed? y = some m) (h2 : s.vm.method? m = some meth) (h3 : meth.code = some c) (h4 : c.code = bytes)
    (h5 : (c.maxLocals == mx && c.exceptionTable.isEmpty && decide (c.maxStack ≤ mostOperands) && decide (meth.sig.returnType = rt) && !meth.locks && decide (parseMethodDescriptor y.desc = some meth.sig)) = true) : (Jvm.Cond.code y bytes mx rt).before a s = true := by
  simp only [Bool.and_eq_true, beq_iff_eq, Bool.not_eq_true', decide_eq_true_eq] at h5
  obtain ⟨⟨⟨⟨⟨g1, g2⟩, g3⟩, g4⟩, g5⟩, g6⟩ := h5
  simp [Cond.before, Cond.holds, Cond.value, h1, h2, h3, h4, g1, g2, g3, g4, g5, g6]
def isCode : Jvm.Cond → Bool
  | .code _ _ _ _ => true
  | _ => false
theorem all_split {L : List Jvm.Cond} {P : Jvm.Cond → Bool} (h1 : L.all (fun c => isCode c || P c) = true) (h2 : ∀ c ∈ L.filter isCode, P c = true) : L.all P = true := by
  refine List.all_eq_true.mpr fun c hc => ?_
  have h := List.all_eq_true.mp h1 c hc
  rcases Bool.eq_false_or_eq_true (isCode c) with hi | hi
  · exact h2 c (List.mem_filter.mpr ⟨hc, hi⟩)
  · simpa [hi] using h
set_option maxRecDepth 65536 in
theorem w_c0 : (Jvm.Cond.code x code maxLocals ret).before args0 about1 = true := code_word (m := ⟨1, 4⟩) (meth := k1m4) (c := k1c4) (by decide +kernel) rfl rfl rfl (by decide +kernel)
set_option maxRecDepth 65536 in
theorem w_c1 : (Jvm.Cond.code ({ cls := "com/example/firebreak/firebreak/strategies/CountFactor", name := "<init>", desc := "([D)V" } : Jvm.MethodName) prog_42_method_1_code (3 : Nat) (Option.none : Option Jvm.ClassFile.FieldType)).before args0 about1 = true := code_word (m := ⟨2, 0⟩) (meth := k2m0) (c := k2c0) (by decide +kernel) rfl rfl rfl (by decide +kernel)
set_option maxRecDepth 65536 in
theorem w_c2 : (Jvm.Cond.code ({ cls := "java/lang/Object", name := "<init>", desc := "()V" } : Jvm.MethodName) object_method_1_code (1 : Nat) (Option.none : Option Jvm.ClassFile.FieldType)).before args0 about1 = true := code_word (m := ⟨0, 0⟩) (meth := k0m0) (c := k0c0) (by decide +kernel) rfl rfl rfl (by decide +kernel)
set_option maxRecDepth 65536 in
theorem w_c3 : (Jvm.Cond.code ({ cls := "java/lang/Math", name := "max", desc := "(DD)D" } : Jvm.MethodName) jdk_29_method_68_code (4 : Nat) (Option.some Jvm.ClassFile.FieldType.double)).before args0 about1 = true := code_word (m := ⟨3, 1⟩) (meth := k3m1) (c := k3c1) (by decide +kernel) rfl rfl rfl (by decide +kernel)
set_option maxRecDepth 65536 in
theorem w_c4 : (Jvm.Cond.code ({ cls := "com/example/firebreak/firebreak/strategies/CountFactor$Messages", name := "<init>", desc := "(I)V" } : Jvm.MethodName) prog_43_method_1_code (3 : Nat) (Option.none : Option Jvm.ClassFile.FieldType)).before args0 about1 = true := code_word (m := ⟨4, 0⟩) (meth := k4m0) (c := k4c0) (by decide +kernel) rfl rfl rfl (by decide +kernel)
set_option maxRecDepth 65536 in
theorem w_c5 : (Jvm.Cond.code ({ cls := "com/example/firebreak/firebreak/strategies/CountFactor$Scratch", name := "<init>", desc := "(I)V" } : Jvm.MethodName) prog_44_method_1_code (2 : Nat) (Option.none : Option Jvm.ClassFile.FieldType)).before args0 about1 = true := code_word (m := ⟨5, 0⟩) (meth := k5m0) (c := k5c0) (by decide +kernel) rfl rfl rfl (by decide +kernel)
set_option maxRecDepth 65536 in
theorem w_c6 : (Jvm.Cond.code ({ cls := "com/example/firebreak/firebreak/strategies/CountFactor", name := "receive", desc := "([DLcom/example/firebreak/firebreak/strategies/CountFactor$Scratch;)V" } : Jvm.MethodName) prog_42_method_2_code (13 : Nat) (Option.none : Option Jvm.ClassFile.FieldType)).before args0 about1 = true := code_word (m := ⟨2, 1⟩) (meth := k2m1) (c := k2c1) (by decide +kernel) rfl rfl rfl (by decide +kernel)
set_option maxRecDepth 65536 in
theorem w_c7 : (Jvm.Cond.code ({ cls := "com/example/firebreak/firebreak/strategies/CountFactor", name := "answerAll", desc := "([DLcom/example/firebreak/firebreak/strategies/CountFactor$Scratch;)V" } : Jvm.MethodName) prog_42_method_5_code (18 : Nat) (Option.none : Option Jvm.ClassFile.FieldType)).before args0 about1 = true := code_word (m := ⟨2, 4⟩) (meth := k2m4) (c := k2c4) (by decide +kernel) rfl rfl rfl (by decide +kernel)
set_option maxRecDepth 65536 in
theorem w_c8 : (Jvm.Cond.code ({ cls := "com/example/firebreak/firebreak/strategies/DoubleMax", name := "of", desc := "(DD)D" } : Jvm.MethodName) prog_46_method_2_code (4 : Nat) (Option.some Jvm.ClassFile.FieldType.double)).before args0 about1 = true := code_word (m := ⟨7, 1⟩) (meth := k7m1) (c := k7c1) (by decide +kernel) rfl rfl rfl (by decide +kernel)
set_option maxRecDepth 65536 in
theorem w_c9 : (Jvm.Cond.code ({ cls := "com/example/firebreak/firebreak/strategies/CountFactorTakeReceivedPinLaw", name := "agrees", desc := "([DDDDDD)Z" } : Jvm.MethodName) method_4_code (11 : Nat) (Option.some Jvm.ClassFile.FieldType.boolean)).before args0 about1 = true := code_word (m := ⟨1, 3⟩) (meth := k1m3) (c := k1c3) (by decide +kernel) rfl rfl rfl (by decide +kernel)
set_option maxRecDepth 65536 in
theorem w_c10 : (Jvm.Cond.code ({ cls := "com/example/firebreak/firebreak/strategies/CountFactorTakeReceivedPinLaw", name := "ref", desc := "(DDDD)D" } : Jvm.MethodName) method_3_code (8 : Nat) (Option.some Jvm.ClassFile.FieldType.double)).before args0 about1 = true := code_word (m := ⟨1, 2⟩) (meth := k1m2) (c := k1c2) (by decide +kernel) rfl rfl rfl (by decide +kernel)
set_option maxRecDepth 65536 in
theorem w_c11 : (Jvm.Cond.code ({ cls := "com/example/firebreak/firebreak/strategies/CountFactorTakeReceivedPinLaw", name := "best", desc := "(DD)D" } : Jvm.MethodName) method_2_code (4 : Nat) (Option.some Jvm.ClassFile.FieldType.double)).before args0 about1 = true := code_word (m := ⟨1, 1⟩) (meth := k1m1) (c := k1c1) (by decide +kernel) rfl rfl rfl (by decide +kernel)
set_option maxRecDepth 65536 in
theorem w_c12 : (Jvm.Cond.code ({ cls := "com/example/firebreak/firebreak/strategies/CountFactor", name := "takeReceived", desc := "()V" } : Jvm.MethodName) prog_42_method_3_code (2 : Nat) (Option.none : Option Jvm.ClassFile.FieldType)).before args0 about1 = true := code_word (m := ⟨2, 2⟩) (meth := k2m2) (c := k2c2) (by decide +kernel) rfl rfl rfl (by decide +kernel)
set_option maxRecDepth 65536 in
theorem w_c13 : (Jvm.Cond.code ({ cls := "java/lang/Math", name := "min", desc := "(II)I" } : Jvm.MethodName) jdk_29_method_69_code (2 : Nat) (Option.some Jvm.ClassFile.FieldType.int)).before args0 about1 = true := code_word (m := ⟨3, 2⟩) (meth := k3m2) (c := k3c2) (by decide +kernel) rfl rfl rfl (by decide +kernel)
set_option maxRecDepth 65536 in
theorem w_c14 : (Jvm.Cond.code ({ cls := "com/example/firebreak/firebreak/strategies/CountFactor", name := "merge", desc := "([D[I[IIII)V" } : Jvm.MethodName) prog_42_method_4_code (9 : Nat) (Option.none : Option Jvm.ClassFile.FieldType)).before args0 about1 = true := code_word (m := ⟨2, 3⟩) (meth := k2m3) (c := k2c3) (by decide +kernel) rfl rfl rfl (by decide +kernel)
def codes1 : List Jvm.Cond := [Jvm.Cond.code x code maxLocals ret, Jvm.Cond.code ({ cls := "com/example/firebreak/firebreak/strategies/CountFactor", name := "<init>", desc := "([D)V" } : Jvm.MethodName) prog_42_method_1_code (3 : Nat) (Option.none : Option Jvm.ClassFile.FieldType), Jvm.Cond.code ({ cls := "java/lang/Object", name := "<init>", desc := "()V" } : Jvm.MethodName) object_method_1_code (1 : Nat) (Option.none : Option Jvm.ClassFile.FieldType), Jvm.Cond.code ({ cls := "java/lang/Math", name := "max", desc := "(DD)D" } : Jvm.MethodName) jdk_29_method_68_code (4 : Nat) (Option.some Jvm.ClassFile.FieldType.double), Jvm.Cond.code ({ cls := "com/example/firebreak/firebreak/strategies/CountFactor$Messages", name := "<init>", desc := "(I)V" } : Jvm.MethodName) prog_43_method_1_code (3 : Nat) (Option.none : Option Jvm.ClassFile.FieldType), Jvm.Cond.code ({ cls := "com/example/firebreak/firebreak/strategies/CountFactor$Scratch", name := "<init>", desc := "(I)V" } : Jvm.MethodName) prog_44_method_1_code (2 : Nat) (Option.none : Option Jvm.ClassFile.FieldType), Jvm.Cond.code ({ cls := "com/example/firebreak/firebreak/strategies/CountFactor", name := "receive", desc := "([DLcom/example/firebreak/firebreak/strategies/CountFactor$Scratch;)V" } : Jvm.MethodName) prog_42_method_2_code (13 : Nat) (Option.none : Option Jvm.ClassFile.FieldType), Jvm.Cond.code ({ cls := "com/example/firebreak/firebreak/strategies/CountFactor", name := "answerAll", desc := "([DLcom/example/firebreak/firebreak/strategies/CountFactor$Scratch;)V" } : Jvm.MethodName) prog_42_method_5_code (18 : Nat) (Option.none : Option Jvm.ClassFile.FieldType), Jvm.Cond.code ({ cls := "com/example/firebreak/firebreak/strategies/DoubleMax", name := "of", desc := "(DD)D" } : Jvm.MethodName) prog_46_method_2_code (4 : Nat) (Option.some Jvm.ClassFile.FieldType.double), Jvm.Cond.code ({ cls := "com/example/firebreak/firebreak/strategies/CountFactorTakeReceivedPinLaw", name := "agrees", desc := "([DDDDDD)Z" } : Jvm.MethodName) method_4_code (11 : Nat) (Option.some Jvm.ClassFile.FieldType.boolean), Jvm.Cond.code ({ cls := "com/example/firebreak/firebreak/strategies/CountFactorTakeReceivedPinLaw", name := "ref", desc := "(DDDD)D" } : Jvm.MethodName) method_3_code (8 : Nat) (Option.some Jvm.ClassFile.FieldType.double), Jvm.Cond.code ({ cls := "com/example/firebreak/firebreak/strategies/CountFactorTakeReceivedPinLaw", name := "best", desc := "(DD)D" } : Jvm.MethodName) method_2_code (4 : Nat) (Option.some Jvm.ClassFile.FieldType.double), Jvm.Cond.code ({ cls := "com/example/firebreak/firebreak/strategies/CountFactor", name := "takeReceived", desc := "()V" } : Jvm.MethodName) prog_42_method_3_code (2 : Nat) (Option.none : Option Jvm.ClassFile.FieldType), Jvm.Cond.code ({ cls := "java/lang/Math", name := "min", desc := "(II)I" } : Jvm.MethodName) jdk_29_method_69_code (2 : Nat) (Option.some Jvm.ClassFile.FieldType.int), Jvm.Cond.code ({ cls := "com/example/firebreak/firebreak/strategies/CountFactor", name := "merge", desc := "([D[I[IIII)V" } : Jvm.MethodName) prog_42_method_4_code (9 : Nat) (Option.none : Option Jvm.ClassFile.FieldType)]
set_option maxRecDepth 65536 in
theorem codes_eq : words1.filter isCode = codes1 := rfl
theorem w_codes : ∀ c ∈ words1.filter isCode, c.before args0 about1 = true := by
  rw [codes_eq]
  intro c hc
  simp only [codes1, List.mem_cons, List.not_mem_nil, or_false] at hc
  rcases hc with rfl | rfl | rfl | rfl | rfl | rfl | rfl | rfl | rfl | rfl | rfl | rfl | rfl | rfl | rfl
  · exact w_c0
  · exact w_c1
  · exact w_c2
  · exact w_c3
  · exact w_c4
  · exact w_c5
  · exact w_c6
  · exact w_c7
  · exact w_c8
  · exact w_c9
  · exact w_c10
  · exact w_c11
  · exact w_c12
  · exact w_c13
  · exact w_c14
set_option maxRecDepth 65536 in
theorem w_t1 : (words1.take 24).all (fun c => isCode c || c.before args0 about1) = true := by decide +kernel
set_option maxRecDepth 65536 in
theorem w_t2 : ((words1.drop 24).take 24).all (fun c => isCode c || c.before args0 about1) = true := by decide +kernel
set_option maxRecDepth 65536 in
theorem w_t3 : (((words1.drop 24).drop 24).take 24).all (fun c => isCode c || c.before args0 about1) = true := by decide +kernel
set_option maxRecDepth 65536 in
theorem w_t4 : ((((words1.drop 24).drop 24).drop 24).take 24).all (fun c => isCode c || c.before args0 about1) = true := by decide +kernel
set_option maxRecDepth 65536 in
theorem w_t5 : (((((words1.drop 24).drop 24).drop 24).drop 24).take 24).all (fun c => isCode c || c.before args0 about1) = true := by decide +kernel
set_option maxRecDepth 65536 in
theorem w_t6 : (((((words1.drop 24).drop 24).drop 24).drop 24).drop 24).all (fun c => isCode c || c.before args0 about1) = true := by decide +kernel
theorem w_tables : (allAtoms (Jvm.Cond.code x code maxLocals ret :: tables_1)).before args0 about1 = true := by
  rw [allAtoms_all]
  show words1.all (fun c => c.before args0 about1) = true
  refine all_split ?_ w_codes
  rw [← List.take_append_drop 24 words1, List.all_append, w_t1, ← List.take_append_drop 24 (words1.drop 24), List.all_append, w_t2, ← List.take_append_drop 24 ((words1.drop 24).drop 24), List.all_append, w_t3, ← List.take_append_drop 24 (((words1.drop 24).drop 24).drop 24), List.all_append, w_t4, ← List.take_append_drop 24 ((((words1.drop 24).drop 24).drop 24).drop 24), List.all_append, w_t5, w_t6]
  rfl
set_option maxRecDepth 65536 in
theorem w_case : (Jvm.Cond.and given_1 narrow_1).before args0 about1 = true := by decide +kernel
theorem w_applies : (headSpec (Jvm.Cond.code x code maxLocals ret :: tables_1) room_1).applies x e0.platform about1 = true :=
  (Spec.applies_iff w_frames).mpr ⟨w_running, w_runnable, w_alone, w_named, w_hears, w_ripe, w_room, w_tables⟩
theorem atStart : AtStart classFile x code maxLocals ret World_1 tables_1 room_1 Calls_1 rest_1 Pre_1 launch0 p0 e0 about1 theMethod args0 below0 :=
  ⟨lists_1, trivial, launch0.admits_env _ _ _, launch0.least_env, fairChoices_fair.cas, fairChoices_fair.clock, w_frames, w_args, w_heap, w_applies, trivial, trivial, w_case⟩
end start1
theorem witness_1 : WitnessClaimed_1 := ⟨start1.p0, start1.e0, start1.about1, start1.theMethod, start1.args0, start1.below0, start1.atStart⟩
end Jvm.Pilot.@@N@@
