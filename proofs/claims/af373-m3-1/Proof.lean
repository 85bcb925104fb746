import JvmDerived
import JvmDerived.Pilot.@@N@@Statement
import JvmDerived.Pilot.@@N@@Code
set_option linter.unusedVariables false
set_option linter.unusedSimpArgs false
namespace Jvm.RoadKit
open Sem ClassFile Op Lib Jvm.Stand Jvm.Free Jvm.LawKit
section New
variable {p : Program} {l : Launch} {e : Env} {R : Room} {s : State} {m : MethodId} {args : Array Value} {below : List Frame} {meth : Method} {c : Code} {T : State} {locs : List Loc} {cells slots : Nat}
theorem retI (X : Stand p l e R s m args below meth c T locs cells slots) (hx : p.tables.exec = Jvm.exec) {pc : Nat} {Ls : Array Slot} {z : Int32} {rest : List Value} (hret : meth.sig.returnType = some .int) (hd : decode c.code pc = .ok (.ireturn, 1)) {fs : List Frame}
    (hl : ∀ (f : JFrame) (acts : List Action), f.method = m → f.locked = none → f.entered = [] → (doReturn e (T.setTop f) acts (some (.int z))).1 = T.setFrames fs) : Steps p.tables e below (T.setTop (mkF m pc Ls (.int z :: rest))) (T.setFrames fs) := by
  have hm' : T.vm.method? m = some meth := X.method'
  have hn : narrow .int (.int z) = .int z := rfl
  show Steps p.tables e below (T.setTop { method := m, pc := pc, locals := Ls, stack := _ :: rest, locked := none }) _
  jvm_step X.here [X.here.top, hx, hd, hm', hret, hn]
  first | (intro acts; rw [hl _ acts rfl rfl rfl]) | rw [hl _ _ rfl rfl rfl]
  exact Steps.refl _
end New
end Jvm.RoadKit
namespace Jvm.Pilot.@@N@@
open Jvm Jvm.ClassFile Sem Op Lib Jvm.Free Jvm.Stand Jvm.LawKit Jvm.RoadKit Bundle Jvm.Pilot.@@N@@.Jvm.D
theorem own_le {a b : Nat} (h : a = b) : 2 * 0 + a ≤ b := by omega
theorem own_m (i : Nat) {d : Jvm.Cond} (h : tables_1[i]? = some d) : d ∈ tables_1 := List.mem_of_getElem? h
/-- from the state T at the frame g the method comes to its return, with Q of what it returns -/
def own_Goes (tb : Tables) (e : Env) (below : List Frame) (s : State) (Q : Option Value → Heap → List Loc → Prop) (rc rs : Nat) (T : State) (g : JFrame) : Prop :=
  ∃ s₂ o, Steps tb e below (T.setTop g) s₂ ∧ s₂.status = .running ∧ Ended s₂ below o ∧ ∃ v L, o = .returned v ∧ Q v s₂.heap L ∧ FrameEnd s o s₂ L rc rs
theorem own_by {tb : Tables} {e : Env} {below : List Frame} {s : State} {Q : Option Value → Heap → List Loc → Prop} {rc rs : Nat} {T T' : State} {g g' : JFrame} (h : ∀ t, Steps tb e below (T'.setTop g') t → Steps tb e below (T.setTop g) t) (k : own_Goes tb e below s Q rc rs T' g') : own_Goes tb e below s Q rc rs T g := by
  obtain ⟨s₂, o, h1, h2⟩ := k
  exact ⟨s₂, o, h _ h1, h2⟩
section OwnRet
variable {p : Program} {l : Launch} {e : Env} {R : Room} {s : State} {m : MethodId} {args : Array Value} {below : List Frame} {meth : Method} {c : Code} {T : State} {locs : List Loc} {cells slots : Nat} {Q : Option Value → Heap → List Loc → Prop} {rc rs : Nat} {pc : Nat} {Ls : Array Slot} {rest : List Value}
theorem own_retI (X : Stand p l e R s m args below meth c T locs cells slots) (hx : p.tables.exec = Jvm.exec) {z : Int32} (hlk : meth.locks = false) (hret : meth.sig.returnType = some .int) (hd : decode c.code pc = .ok (.ireturn, 1)) (hc : cells ≤ rc) (hs : slots ≤ rs)
    (hQ : Q (some (.int z)) T.heap locs) : own_Goes p.tables e below s Q rc rs T (mkF m pc Ls (.int z :: rest)) := by
  obtain ⟨fs, hr, hrun, hended, hW, hsame⟩ := X.leave (v := some (.int z)) (fun h => by rw [hret] at h; cases h)
  exact ⟨_, _, retI X hx hret hd hr, hrun, hended, _, _, rfl, hQ, ⟨_, rfl⟩, hW, hsame.mono hc hs⟩
theorem own_retN (X : Stand p l e R s m args below meth c T locs cells slots) (hx : p.tables.exec = Jvm.exec) {z : Int32} {t : FieldType} (hlk : meth.locks = false) (hret : meth.sig.returnType = some t) (ht : t = .boolean ∨ t = .byte ∨ t = .char ∨ t = .short) (hd : decode c.code pc = .ok (.ireturn, 1)) (hc : cells ≤ rc) (hs : slots ≤ rs)
    (hQ : Q (some (.int (nar t z))) T.heap locs) : own_Goes p.tables e below s Q rc rs T (mkF m pc Ls (.int z :: rest)) := by
  obtain ⟨fs, hr, hrun, hended, hW, hsame⟩ := X.leave (v := some (.int (nar t z))) (fun h => by rw [hret] at h; cases h)
  exact ⟨_, _, retN X hx hret ht hd hr, hrun, hended, _, _, rfl, hQ, ⟨_, rfl⟩, hW, hsame.mono hc hs⟩
theorem own_retV (X : Stand p l e R s m args below meth c T locs cells slots) (hx : p.tables.exec = Jvm.exec) (hlk : meth.locks = false) (hret : meth.sig.returnType = none) (hd : decode c.code pc = .ok (.return_, 1)) (hc : cells ≤ rc) (hs : slots ≤ rs)
    (hQ : Q none T.heap locs) : own_Goes p.tables e below s Q rc rs T (mkF m pc Ls []) := by
  obtain ⟨fs, hr, hrun, hended, hW, hsame⟩ := X.leave (v := none) (fun _ => rfl)
  exact ⟨_, _, X.returnOut hx hret hd hr, hrun, hended, _, _, rfl, hQ, ⟨_, rfl⟩, hW, hsame.mono hc hs⟩
theorem own_retJ (X : Stand p l e R s m args below meth c T locs cells slots) (hx : p.tables.exec = Jvm.exec) {z : Int64} (hlk : meth.locks = false) (hret : meth.sig.returnType = some .long) (hd : decode c.code pc = .ok (.lreturn, 1)) (hc : cells ≤ rc) (hs : slots ≤ rs)
    (hQ : Q (some (.long z)) T.heap locs) : own_Goes p.tables e below s Q rc rs T (mkF m pc Ls (.long z :: rest)) := by
  obtain ⟨fs, hr, hrun, hended, hW, hsame⟩ := X.leave (v := some (.long z)) (fun h => by rw [hret] at h; cases h)
  exact ⟨_, _, retOut X hx hret rfl (Or.inr (Or.inl ⟨rfl, rfl, _, rfl⟩)) hd hr, hrun, hended, _, _, rfl, hQ, ⟨_, rfl⟩, hW, hsame.mono hc hs⟩
theorem own_retA (X : Stand p l e R s m args below meth c T locs cells slots) (hx : p.tables.exec = Jvm.exec) {w : Value} {t : FieldType} (hlk : meth.locks = false) (hret : meth.sig.returnType = some t) (ht : t.isReference = true) (hw : w.isRef = true) (hn : narrow t w = w) (hd : decode c.code pc = .ok (.areturn, 1)) (hc : cells ≤ rc) (hs : slots ≤ rs)
    (hQ : Q (some w) T.heap locs) : own_Goes p.tables e below s Q rc rs T (mkF m pc Ls (w :: rest)) := by
  obtain ⟨fs, hr, hrun, hended, hW, hsame⟩ := X.leave (v := some w) (fun h => by rw [hret] at h; cases h)
  exact ⟨_, _, retOut X hx hret hn (Or.inr (Or.inr (Or.inr (Or.inr ⟨rfl, ht, hw⟩)))) hd hr, hrun, hended, _, _, rfl, hQ, ⟨_, rfl⟩, hW, hsame.mono hc hs⟩
end OwnRet
theorem own_nsE {Z : State} {h : Heap} {a : Addr} {C : String} (E : Exa Z h a C) : ∃ c : Cell, h[a]? = some c ∧ c.vm.isStatics = false := by
  obtain ⟨c, k, h1, -, -, h4, -⟩ := E
  exact ⟨c, h1, h4⟩
theorem own_nsV {Z : State} {h : Heap} {a : Addr} {k : ClassId} {ty : FieldType} {n : Int32} {vs : List Value} {d : Value} (F : Arv Z h a k ty n vs d) : ∃ c : Cell, h[a]? = some c ∧ c.vm.isStatics = false := by
  obtain ⟨c, A, -⟩ := F
  exact ⟨c, A.1, A.plain⟩
theorem own_staKeep {Z : State} {h h' : Heap} {C n d : String} {v : Value} {ws : List Addr} (S : Sta Z h C n d v) (K : Keep h h' ws) (q : ∀ x ∈ ws, ∃ c : Cell, h[x]? = some c ∧ c.vm.isStatics = false) : Sta Z h' C n d v := by
  obtain ⟨cf, i, k, f, st, cell, h1, h2, h3, h4, h5, h6, h7⟩ := S
  refine ⟨cf, i, k, f, st, cell, h1, h2, h3, h4, K.2.1 st cell h5 (fun hin => ?_), h6, h7⟩
  obtain ⟨c, hc, hs⟩ := q st hin
  rw [h5] at hc
  cases hc
  rw [h6] at hs
  cases hs
theorem own_arrKeep {Z : State} {h h' : Heap} {a : Addr} {c : Cell} {ty : FieldType} {ws : List Addr} (A : Arr Z h a c ty) (K : Keep h h' ws) (q : a ∉ ws) : Arr Z h' a c ty := ⟨K.2.1 a c A.1 q, A.2⟩
def own_B (cl : Cell) : Prop := cl.slots.size = 128 ∧ ∀ i, i < 128 → ∃ y : Int32, cl.slots[i]? = some (.int y) ∧ fits .byte (.int y) = true
def own_rs (i off en y r : Int32) : Int32 := if i < off then r else if i < en then (if y < 0 then i else r) else r
def own_R (off en o0 o1 o2 o3 : Int32) : Int32 := own_rs 0 off en o0 (own_rs 1 off en o1 (own_rs 2 off en o2 (own_rs 3 off en o3 en)))
def own_tx (i off r y : Int32) (ct : Cell) : Int32 := if i < off then y else if i < r then nar .byte (atv ct y) else y
def own_xp (i off r y : Int32) (ct : Cell) : Int32 := if i < off then nar .byte y else if i < r then nar .byte (atv ct y) else nar .byte y
theorem own_B_new (k : ClassId) : own_B (newA k .byte 128) := by
  have h : (128 : Int32).toNatClampNeg = 128 := by decide
  refine ⟨by rw [sz_new, h], fun i hi => ⟨0, ?_, by decide⟩⟩
  simp [newA, h, hi, defaultValue]
theorem own_B_set {cl : Cell} (B : own_B cl) {j y : Int32} (hj : ¬ (j < 0 ∨ cl.slots.size ≤ j.toNatClampNeg)) : own_B (cl.setSlot j.toNatClampNeg (.int (nar .byte y))) := by
  refine ⟨by rw [sz_set]; exact B.1, fun i hi => ?_⟩
  by_cases q : j.toNatClampNeg = i
  · refine ⟨nar .byte y, ?_, fits_nar_byte y⟩
    subst q
    simp [Cell.setSlot, Nat.lt_of_not_le fun z => hj (Or.inr z)]
  · obtain ⟨w, h1, h2⟩ := B.2 i hi
    exact ⟨w, by rw [← h1]; exact Array.getElem?_setIfInBounds_ne q, h2⟩
theorem own_inb {cl : Cell} {j : Int32} (B : own_B cl) (h0 : ¬ j < 0) (h1 : j < 128) : ¬ (j < 0 ∨ cl.slots.size ≤ j.toNatClampNeg) := by
  rw [B.1]
  rintro (q | q)
  · exact h0 q
  · rw [Int32.lt_iff_toInt_lt] at h0 h1
    simp only [Int32.toNatClampNeg] at q
    have : (128 : Int32).toInt = 128 := by decide
    omega
theorem own_at {cl : Cell} {j : Int32} (B : own_B cl) (h0 : ¬ j < 0) (h1 : j < 128) : cl.slots[j.toNatClampNeg]? = some (.int (atv cl j)) := by
  have h := own_inb B h0 h1
  obtain ⟨y, e, -⟩ := B.2 j.toNatClampNeg (by have := B.1; have := fun z => h (Or.inr z); omega)
  rw [atv_of e]
  exact e
theorem own_fitC {Z : State} {h : Heap} {a : Addr} {cl : Cell} (A : Arr Z h a cl .byte) (B : own_B cl) : FitC Z cl := fitC_of A fun i hi v hv => by
  obtain ⟨y, e, f⟩ := B.2 i (by have := B.1; omega)
  rw [e] at hv
  cases hv
  exact f
theorem own_nb {y : Int32} (x : Int32) (h : y = x.toInt8.toInt32) : nar .byte y = y ∧ y < 128 := by
  have h0 : nar .byte y = y.toInt8.toInt32 := rfl
  have h1 := c_i2b x
  have h2 := c_i2b y
  refine ⟨?_, ?_⟩
  · rw [h0]
    apply Int32.toInt_inj.mp
    rw [h] at h2 ⊢
    omega
  · rw [Int32.lt_iff_toInt_lt, h]
    have : (128 : Int32).toInt = 128 := by decide
    omega
theorem own_txp {i off r y : Int32} {ct : Cell} (h : nar .byte y = y) : own_tx i off r y ct = own_xp i off r y ct := by
  unfold own_tx own_xp
  rw [h]
theorem own_xpc {i off r y : Int32} {ct : Cell} : own_xp i off r y (cloneOf ct) = own_xp i off r y ct := rfl
theorem own_rem5 (x : Int32) : (x &&& (2147483647 : Int32)) % (5 : Int32) = 0 ∨ (x &&& (2147483647 : Int32)) % (5 : Int32) = 1 ∨ (x &&& (2147483647 : Int32)) % (5 : Int32) = 2 ∨ (x &&& (2147483647 : Int32)) % (5 : Int32) = 3 ∨ (x &&& (2147483647 : Int32)) % (5 : Int32) = 4 := by
  have h1 := c_mask x 2147483647 31 (by decide) (by decide)
  have h2 := (c_irem (x &&& (2147483647 : Int32)) 5 5 (by decide)).1 (by omega)
  generalize (x &&& (2147483647 : Int32)) % (5 : Int32) = k at *
  have h3 : k.toInt = 0 ∨ k.toInt = 1 ∨ k.toInt = 2 ∨ k.toInt = 3 ∨ k.toInt = 4 := by omega
  rcases h3 with h | h | h | h | h
  · have h4 : k = 0 := Int32.toInt_inj.mp h
    simp [h4]
  · have h4 : k = 1 := Int32.toInt_inj.mp h
    simp [h4]
  · have h4 : k = 2 := Int32.toInt_inj.mp h
    simp [h4]
  · have h4 : k = 3 := Int32.toInt_inj.mp h
    simp [h4]
  · have h4 : k = 4 := Int32.toInt_inj.mp h
    simp [h4]
theorem own_nz5 {off : Int32} (h : off = 0 ∨ off = 1 ∨ off = 2 ∨ off = 3 ∨ off = 4) : ¬ (5 : Int32) - off = 0 := by
  rcases h with rfl | rfl | rfl | rfl | rfl <;> decide
theorem own_ln (y off : Int32) (h0 : 0 ≤ y.toInt) (h : off = 0 ∨ off = 1 ∨ off = 2 ∨ off = 3 ∨ off = 4) : (off = 0 ∧ off + y % ((5 : Int32) - off) = 0) ∨ (off = 0 ∧ off + y % ((5 : Int32) - off) = 1) ∨ (off = 0 ∧ off + y % ((5 : Int32) - off) = 2) ∨ (off = 0 ∧ off + y % ((5 : Int32) - off) = 3) ∨ (off = 0 ∧ off + y % ((5 : Int32) - off) = 4) ∨ (off = 1 ∧ off + y % ((5 : Int32) - off) = 1) ∨ (off = 1 ∧ off + y % ((5 : Int32) - off) = 2) ∨ (off = 1 ∧ off + y % ((5 : Int32) - off) = 3) ∨ (off = 1 ∧ off + y % ((5 : Int32) - off) = 4) ∨ (off = 2 ∧ off + y % ((5 : Int32) - off) = 2) ∨ (off = 2 ∧ off + y % ((5 : Int32) - off) = 3) ∨ (off = 2 ∧ off + y % ((5 : Int32) - off) = 4) ∨ (off = 3 ∧ off + y % ((5 : Int32) - off) = 3) ∨ (off = 3 ∧ off + y % ((5 : Int32) - off) = 4) ∨ (off = 4 ∧ off + y % ((5 : Int32) - off) = 4) := by
  rcases h with rfl | rfl | rfl | rfl | rfl
  · have e : (5 : Int32) - (0 : Int32) = 5 := by decide
    rw [e]
    have h2 := (c_irem y 5 5 (by decide)).1 h0
    generalize y % (5 : Int32) = k at *
    have h3 : k.toInt = 0 ∨ k.toInt = 1 ∨ k.toInt = 2 ∨ k.toInt = 3 ∨ k.toInt = 4 := by omega
    rcases h3 with h | h | h | h | h
    · have h4 : k = 0 := Int32.toInt_inj.mp h
      subst h4
      decide
    · have h4 : k = 1 := Int32.toInt_inj.mp h
      subst h4
      decide
    · have h4 : k = 2 := Int32.toInt_inj.mp h
      subst h4
      decide
    · have h4 : k = 3 := Int32.toInt_inj.mp h
      subst h4
      decide
    · have h4 : k = 4 := Int32.toInt_inj.mp h
      subst h4
      decide
  · have e : (5 : Int32) - (1 : Int32) = 4 := by decide
    rw [e]
    have h2 := (c_irem y 4 4 (by decide)).1 h0
    generalize y % (4 : Int32) = k at *
    have h3 : k.toInt = 0 ∨ k.toInt = 1 ∨ k.toInt = 2 ∨ k.toInt = 3 := by omega
    rcases h3 with h | h | h | h
    · have h4 : k = 0 := Int32.toInt_inj.mp h
      subst h4
      decide
    · have h4 : k = 1 := Int32.toInt_inj.mp h
      subst h4
      decide
    · have h4 : k = 2 := Int32.toInt_inj.mp h
      subst h4
      decide
    · have h4 : k = 3 := Int32.toInt_inj.mp h
      subst h4
      decide
  · have e : (5 : Int32) - (2 : Int32) = 3 := by decide
    rw [e]
    have h2 := (c_irem y 3 3 (by decide)).1 h0
    generalize y % (3 : Int32) = k at *
    have h3 : k.toInt = 0 ∨ k.toInt = 1 ∨ k.toInt = 2 := by omega
    rcases h3 with h | h | h
    · have h4 : k = 0 := Int32.toInt_inj.mp h
      subst h4
      decide
    · have h4 : k = 1 := Int32.toInt_inj.mp h
      subst h4
      decide
    · have h4 : k = 2 := Int32.toInt_inj.mp h
      subst h4
      decide
  · have e : (5 : Int32) - (3 : Int32) = 2 := by decide
    rw [e]
    have h2 := (c_irem y 2 2 (by decide)).1 h0
    generalize y % (2 : Int32) = k at *
    have h3 : k.toInt = 0 ∨ k.toInt = 1 := by omega
    rcases h3 with h | h
    · have h4 : k = 0 := Int32.toInt_inj.mp h
      subst h4
      decide
    · have h4 : k = 1 := Int32.toInt_inj.mp h
      subst h4
      decide
  · have e : (5 : Int32) - (4 : Int32) = 1 := by decide
    rw [e]
    have h2 := (c_irem y 1 1 (by decide)).1 h0
    generalize y % (1 : Int32) = k at *
    have h3 : k.toInt = 0 := by omega
    have h := h3
    · have h4 : k = 0 := Int32.toInt_inj.mp h
      subst h4
      decide
theorem own_pos {off en : Int32} (o0 o1 o2 o3 : Int32) (hoe : (off = 0 ∧ en = 0) ∨ (off = 0 ∧ en = 1) ∨ (off = 0 ∧ en = 2) ∨ (off = 0 ∧ en = 3) ∨ (off = 0 ∧ en = 4) ∨ (off = 1 ∧ en = 1) ∨ (off = 1 ∧ en = 2) ∨ (off = 1 ∧ en = 3) ∨ (off = 1 ∧ en = 4) ∨ (off = 2 ∧ en = 2) ∨ (off = 2 ∧ en = 3) ∨ (off = 2 ∧ en = 4) ∨ (off = 3 ∧ en = 3) ∨ (off = 3 ∧ en = 4) ∨ (off = 4 ∧ en = 4)) : (¬ (0 : Int32) < off → (0 : Int32) < own_R off en o0 o1 o2 o3 → ¬ o0 < 0) ∧ (¬ (1 : Int32) < off → (1 : Int32) < own_R off en o0 o1 o2 o3 → ¬ o1 < 0) ∧ (¬ (2 : Int32) < off → (2 : Int32) < own_R off en o0 o1 o2 o3 → ¬ o2 < 0) ∧ (¬ (3 : Int32) < off → (3 : Int32) < own_R off en o0 o1 o2 o3 → ¬ o3 < 0) := by
  rcases hoe with ⟨rfl, rfl⟩ | ⟨rfl, rfl⟩ | ⟨rfl, rfl⟩ | ⟨rfl, rfl⟩ | ⟨rfl, rfl⟩ | ⟨rfl, rfl⟩ | ⟨rfl, rfl⟩ | ⟨rfl, rfl⟩ | ⟨rfl, rfl⟩ | ⟨rfl, rfl⟩ | ⟨rfl, rfl⟩ | ⟨rfl, rfl⟩ | ⟨rfl, rfl⟩ | ⟨rfl, rfl⟩ | ⟨rfl, rfl⟩ <;> simp only [own_R, own_rs] <;> by_cases a0 : o0 < 0 <;> by_cases a1 : o1 < 0 <;> by_cases a2 : o2 < 0 <;> by_cases a3 : o3 < 0 <;> simp [a0, a1, a2, a3]
theorem own_chk {off len : Int32} (hoe : (off = 0 ∧ off + len = 0) ∨ (off = 0 ∧ off + len = 1) ∨ (off = 0 ∧ off + len = 2) ∨ (off = 0 ∧ off + len = 3) ∨ (off = 0 ∧ off + len = 4) ∨ (off = 1 ∧ off + len = 1) ∨ (off = 1 ∧ off + len = 2) ∨ (off = 1 ∧ off + len = 3) ∨ (off = 1 ∧ off + len = 4) ∨ (off = 2 ∧ off + len = 2) ∨ (off = 2 ∧ off + len = 3) ∨ (off = 2 ∧ off + len = 4) ∨ (off = 3 ∧ off + len = 3) ∨ (off = 3 ∧ off + len = 4) ∨ (off = 4 ∧ off + len = 4)) : (¬ (((4 : Int32) ||| off) ||| len) < 0) ∧ ¬ ((4 : Int32) - off) < len := by
  have key : ∀ off len : Int32, ((off = 0 ∧ len = 0) ∨ (off = 0 ∧ len = 1) ∨ (off = 0 ∧ len = 2) ∨ (off = 0 ∧ len = 3) ∨ (off = 0 ∧ len = 4) ∨ (off = 1 ∧ len = 0) ∨ (off = 1 ∧ len = 1) ∨ (off = 1 ∧ len = 2) ∨ (off = 1 ∧ len = 3) ∨ (off = 2 ∧ len = 0) ∨ (off = 2 ∧ len = 1) ∨ (off = 2 ∧ len = 2) ∨ (off = 3 ∧ len = 0) ∨ (off = 3 ∧ len = 1) ∨ (off = 4 ∧ len = 0)) → (¬ (((4 : Int32) ||| off) ||| len) < 0) ∧ ¬ ((4 : Int32) - off) < len := by
    intro off len h
    rcases h with ⟨rfl, rfl⟩ | ⟨rfl, rfl⟩ | ⟨rfl, rfl⟩ | ⟨rfl, rfl⟩ | ⟨rfl, rfl⟩ | ⟨rfl, rfl⟩ | ⟨rfl, rfl⟩ | ⟨rfl, rfl⟩ | ⟨rfl, rfl⟩ | ⟨rfl, rfl⟩ | ⟨rfl, rfl⟩ | ⟨rfl, rfl⟩ | ⟨rfl, rfl⟩ | ⟨rfl, rfl⟩ | ⟨rfl, rfl⟩ <;> decide
  apply key
  have e : len = (off + len) - off := by rw [Int32.add_comm, Int32.add_sub_cancel]
  rcases hoe with ⟨h1, h2⟩ | ⟨h1, h2⟩ | ⟨h1, h2⟩ | ⟨h1, h2⟩ | ⟨h1, h2⟩ | ⟨h1, h2⟩ | ⟨h1, h2⟩ | ⟨h1, h2⟩ | ⟨h1, h2⟩ | ⟨h1, h2⟩ | ⟨h1, h2⟩ | ⟨h1, h2⟩ | ⟨h1, h2⟩ | ⟨h1, h2⟩ | ⟨h1, h2⟩
  · rw [h2, h1] at e
    have e2 : len = 0 := by rw [e]; decide
    simp [h1, e2]
  · rw [h2, h1] at e
    have e2 : len = 1 := by rw [e]; decide
    simp [h1, e2]
  · rw [h2, h1] at e
    have e2 : len = 2 := by rw [e]; decide
    simp [h1, e2]
  · rw [h2, h1] at e
    have e2 : len = 3 := by rw [e]; decide
    simp [h1, e2]
  · rw [h2, h1] at e
    have e2 : len = 4 := by rw [e]; decide
    simp [h1, e2]
  · rw [h2, h1] at e
    have e2 : len = 0 := by rw [e]; decide
    simp [h1, e2]
  · rw [h2, h1] at e
    have e2 : len = 1 := by rw [e]; decide
    simp [h1, e2]
  · rw [h2, h1] at e
    have e2 : len = 2 := by rw [e]; decide
    simp [h1, e2]
  · rw [h2, h1] at e
    have e2 : len = 3 := by rw [e]; decide
    simp [h1, e2]
  · rw [h2, h1] at e
    have e2 : len = 0 := by rw [e]; decide
    simp [h1, e2]
  · rw [h2, h1] at e
    have e2 : len = 1 := by rw [e]; decide
    simp [h1, e2]
  · rw [h2, h1] at e
    have e2 : len = 2 := by rw [e]; decide
    simp [h1, e2]
  · rw [h2, h1] at e
    have e2 : len = 0 := by rw [e]; decide
    simp [h1, e2]
  · rw [h2, h1] at e
    have e2 : len = 1 := by rw [e]; decide
    simp [h1, e2]
  · rw [h2, h1] at e
    have e2 : len = 0 := by rw [e]; decide
    simp [h1, e2]

theorem pn_com_example_cipherloom_cipherloom_core_AsciiTable : plainName "com/example/cipherloom/cipherloom/core/AsciiTable" = true := by first | (simp [plainName, overriddenIn]; done) | decide +kernel
theorem ef_1 (m : MethodId) (ob : Addr) (ta : Addr) : entryFrame m #[(.ref ob), (.ref ta)] 2 = mkF m 0 #[.val (.ref ob), .val (.ref ta)] [] := by first | (simp [entryFrame, mkF, argsToLocals, Value.category]; done) | rfl
theorem d1_0 : decode prog_32_method_1_code 0 = .ok (.aload_n 0, 1) := by decide +kernel
theorem d1_1 : decode prog_32_method_1_code 1 = .ok (.invokespecial 1, 3) := by decide +kernel
theorem d1_4 : decode prog_32_method_1_code 4 = .ok (.aload_n 0, 1) := by decide +kernel
theorem d1_5 : decode prog_32_method_1_code 5 = .ok (.aload_n 1, 1) := by decide +kernel
theorem d1_6 : decode prog_32_method_1_code 6 = .ok (.invokevirtual 7, 3) := by decide +kernel
theorem d1_9 : decode prog_32_method_1_code 9 = .ok (.checkcast 8, 3) := by decide +kernel
theorem d1_12 : decode prog_32_method_1_code 12 = .ok (.putfield 13, 3) := by decide +kernel
theorem d1_15 : decode prog_32_method_1_code 15 = .ok (.return_, 1) := by decide +kernel
def Q1 (Z : State) (ob : Addr) (ta : Addr) (cl : Cell) (h0 : Heap) (n0 : Nat) (v : Option Value) (h : Heap) (L : List Loc) : Prop := ∃ t2 : Addr, v = none ∧ Fr n0 L ∧ Keep h0 h [ob] ∧ Exa Z h ob "com/example/cipherloom/cipherloom/core/AsciiTable" ∧ h0.size ≤ t2 ∧ Fld Z h ob "com/example/cipherloom/cipherloom/core/AsciiTable" "bytes" "[B" (.ref t2) ∧ Arr Z h t2 (cloneOf cl) .byte
set_option maxRecDepth 65536 in
set_option maxHeartbeats 40000000 in
theorem rm1 (l : Launch) (Z : State) (a0 : Array Value) (hw : ∀ d ∈ tables_1, d.before a0 Z = true) (ws : List Jvm.Cond) (ob : Addr) (ta : Addr) (cl : Cell) (h0 : Heap) (n0 : Nat) (Zle : n0 ≤ h0.size) (E_ob : Exa Z h0 ob "com/example/cipherloom/cipherloom/core/AsciiTable") (g_ob : n0 ≤ ob) (F_bytes_ob : Fld Z h0 ob "com/example/cipherloom/cipherloom/core/AsciiTable" "bytes" "[B" .null) (A_ta : Arr Z h0 ta cl .byte) (E_ta : Exa Z h0 ta "[B") (ne_ta_ob : ta ≠ ob) (hB : own_B cl) :
    MetFree l (⟨"com/example/cipherloom/cipherloom/core/AsciiTable", "<init>", "([B)V"⟩ : MethodName) (head1 (Jvm.Cond.code (⟨"com/example/cipherloom/cipherloom/core/AsciiTable", "<init>", "([B)V"⟩ : MethodName) prog_32_method_1_code 2 none :: ws) ({ frames := 1, cells := 1, slots := 128, locals := 16 } : Room)) (fun a U => a = #[(.ref ob), (.ref ta)] ∧ Z.Warmed39 U.vm ∧ U.heap = h0) (fun _ _ _ _ _ => True) (fun _ U o U' => ∃ v L, o = .returned v ∧ Q1 Z ob ta cl h0 n0 v U'.heap L ∧ FrameEnd U o U' L ({ frames := 1, cells := 1, slots := 128, locals := 16 } : Room).cells ({ frames := 1, cells := 1, slots := 128, locals := 16 } : Room).slots) := by
  refine MetFree.of_bodySF (plainFor_of_name pn_com_example_cipherloom_cipherloom_core_AsciiTable) hisR ?_
  intro p e s m args below meth c s₁ Bd hml0 hP hK
  obtain ⟨rfl, hZ, hh⟩ := hP
  have hx := Bd.exec
  have hby := Bd.bytes
  have hml : c.maxLocals = 2 := hml0
  have hown : s.vm.findClass "com/example/cipherloom/cipherloom/core/AsciiTable" = some m.cls := findClass_of_methodNamed Bd.named
  have hnm := (name_of_methodNamed Bd.named Bd.method).1
  have X0 : Stand p l e ({ frames := 1, cells := 1, slots := 128, locals := 16 } : Room) s m #[(.ref ob), (.ref ta)] below meth c s₁ [] 0 0 := Stand.of_body Bd
  have e0 : s₁.heap = h0 := by rw [← hh, Bd.state]; rfl
  have N_ := Fr.nil n0
  have K_ := Keep.refl h0 [ob]
  show own_Goes p.tables e below s (Q1 Z ob ta cl h0 n0) ({ frames := 1, cells := 1, slots := 128, locals := 16 } : Room).cells ({ frames := 1, cells := 1, slots := 128, locals := 16 } : Room).slots s₁ (entryFrame m #[(.ref ob), (.ref ta)] 2)
  refine own_by (T' := s₁) (g' := (mkF m 0 #[.val (.ref ob), .val (.ref ta)] [])) (fun t k => castTop (ef_1 m ob ta) k) ?_
  refine own_by (T' := s₁) (g' := (mkF m 1 #[.val (.ref ob), .val (.ref ta)] [(.ref ob)])) (fun t k => XS.aloadN X0.here hx rfl (hb hby d1_0) rfl rfl k) ?_
  obtain ⟨T1, X1, e1, st1⟩ := initO X0 hx hZ hown (hw _ (own_m 7 rfl)) (hw _ (own_m 8 rfl)) (hw _ (own_m 9 rfl)) e0 (g := (mkF m 1 #[.val (.ref ob), .val (.ref ta)] [(.ref ob)])) rfl (by rw [hml]; rfl) rfl (hb hby d1_1) (by decide) (W := 0) (own_le rfl) (by decide)
  refine own_by (T' := T1) (g' := (mkF m 4 #[.val (.ref ob), .val (.ref ta)] [])) (fun t k => st1 t k) ?_
  refine own_by (T' := T1) (g' := (mkF m 5 #[.val (.ref ob), .val (.ref ta)] [(.ref ob)])) (fun t k => XS.aloadN X1.here hx rfl (hb hby d1_4) rfl rfl k) ?_
  refine own_by (T' := T1) (g' := (mkF m 6 #[.val (.ref ob), .val (.ref ta)] [(.ref ta), (.ref ob)])) (fun t k => XS.aloadN X1.here hx rfl (hb hby d1_5) rfl rfl k) ?_
  obtain ⟨T2, h2, X2, e2, E2, AA2, AE2, st2⟩ := cloneA X1 hx hZ hown (hw _ (own_m 10 rfl)) (hw _ (own_m 11 rfl)) (hw _ (own_m 15 rfl)) (hw _ (own_m 13 rfl)) (hw _ (own_m 14 rfl)) (hw _ (own_m 16 rfl)) e1 A_ta E_ta (own_fitC A_ta hB) (g := (mkF m 6 #[.val (.ref ob), .val (.ref ta)] [(.ref ta), (.ref ob)])) rfl (by rw [hml]; rfl) rfl (hb hby d1_6) (by decide) (W := 1) (cap := 128) (own_le rfl) (by decide) (by rw [hB.1]; decide) (by decide) (by decide)
  obtain ⟨b2, g2⟩ : ∃ z, z = h0.size := ⟨_, rfl⟩
  rw [← g2] at AA2 AE2 st2
  have ne_ob_b2 : ob ≠ b2 := Nat.ne_of_lt (Nat.lt_of_lt_of_eq E_ob.lt g2.symm)
  have ne_ta_b2 : ta ≠ b2 := Nat.ne_of_lt (Nat.lt_of_lt_of_eq A_ta.lt g2.symm)
  have g_b2 : n0 ≤ b2 := Nat.le_trans Zle (Nat.le_of_eq g2.symm)
  have sz_b2 : h0.size ≤ b2 := Nat.le_trans K_.1 (Nat.le_of_eq g2.symm)
  have E_ob := E_ob.ext E2
  have F_bytes_ob := F_bytes_ob.ext E2
  have A_ta := A_ta.ext E2
  have E_ta := E_ta.ext E2
  have Zle := Nat.le_trans Zle E2.1
  have K_ := K_.ext E2
  have E_b2 := AE2
  have A_b2 := AA2
  refine own_by (T' := T2) (g' := (mkF m 9 #[.val (.ref ob), .val (.ref ta)] [(.ref b2), (.ref ob)])) (fun t k => st2 t k) ?_
  obtain ⟨T3, X3, e3, st3⟩ := castY X2 hx hZ hown (hw _ (own_m 17 rfl)) e2 (Ins.self E_b2) (g := (mkF m 9 #[.val (.ref ob), .val (.ref ta)] [(.ref b2), (.ref ob)])) rfl rfl (hb hby d1_9)
  refine own_by (T' := T3) (g' := (mkF m 12 #[.val (.ref ob), .val (.ref ta)] [(.ref b2), (.ref ob)])) (fun t k => st3 t k) ?_
  obtain ⟨T4, h4, X4, e4, W4, st4⟩ := putF X3 hx hZ hown (host := "") (Or.inl (hw _ (own_m 19 rfl))) Via.refl e3 F_bytes_ob E_ob (Or.inr ⟨(hw _ (own_m 20 rfl)), rfl, hnm⟩) (hw _ (own_m 2 rfl)) (ty := (.array .byte)) (by decide) rfl rfl (g := (mkF m 12 #[.val (.ref ob), .val (.ref ta)] [(.ref b2), (.ref ob)])) rfl rfl (hb hby d1_12)
  have F_bytes_ob_ := F_bytes_ob.same W4
  have E_ob := E_ob.wr W4
  have A_ta := A_ta.other W4 ne_ta_ob
  have E_ta := E_ta.wr W4
  have Zle := Nat.le_trans Zle (Keep.of_wr W4).1
  have K_ := K_.wr W4 (Or.inl (List.mem_of_getElem? (i := 0) rfl))
  have E_b2 := E_b2.wr W4
  have A_b2 := A_b2.other W4 ne_ob_b2.symm
  have F_bytes_ob := F_bytes_ob_
  have N_ := Fr.snoc X4 N_ g_ob
  refine own_by (T' := T4) (g' := (mkF m 15 #[.val (.ref ob), .val (.ref ta)] [])) (fun t k => st4 t k) ?_
  exact own_retV X4 hx Bd.notSynchronized Bd.returns (hb hby d1_15) (by decide) (by decide) (by rw [e4]; exact ⟨b2, rfl, N_, K_, E_ob, sz_b2, F_bytes_ob, A_b2⟩)

theorem pn_jdk_internal_util_Preconditions : plainName "jdk/internal/util/Preconditions" = true := by first | (simp [plainName, overriddenIn]; done) | decide +kernel
theorem ef_5 (m : MethodId) (off : Int32) (len : Int32) : entryFrame m #[(.int off), (.int len), (.int 4), .null] 4 = mkF m 0 #[.val (.int off), .val (.int len), .val (.int 4), .val .null] [] := by first | (simp [entryFrame, mkF, argsToLocals, Value.category]; done) | rfl
theorem d5_0 : decode jdk_41_method_13_code 0 = .ok (.iload_n 2, 1) := by decide +kernel
theorem d5_1 : decode jdk_41_method_13_code 1 = .ok (.iload_n 0, 1) := by decide +kernel
theorem d5_2 : decode jdk_41_method_13_code 2 = .ok (.ior, 1) := by decide +kernel
theorem d5_3 : decode jdk_41_method_13_code 3 = .ok (.iload_n 1, 1) := by decide +kernel
theorem d5_4 : decode jdk_41_method_13_code 4 = .ok (.ior, 1) := by decide +kernel
theorem d5_5 : decode jdk_41_method_13_code 5 = .ok (.ifCond .lt 10, 3) := by decide +kernel
theorem d5_8 : decode jdk_41_method_13_code 8 = .ok (.iload_n 1, 1) := by decide +kernel
theorem d5_9 : decode jdk_41_method_13_code 9 = .ok (.iload_n 2, 1) := by decide +kernel
theorem d5_10 : decode jdk_41_method_13_code 10 = .ok (.iload_n 0, 1) := by decide +kernel
theorem d5_11 : decode jdk_41_method_13_code 11 = .ok (.isub, 1) := by decide +kernel
theorem d5_12 : decode jdk_41_method_13_code 12 = .ok (.if_icmp .le 11, 3) := by decide +kernel
theorem d5_23 : decode jdk_41_method_13_code 23 = .ok (.iload_n 0, 1) := by decide +kernel
theorem d5_24 : decode jdk_41_method_13_code 24 = .ok (.ireturn, 1) := by decide +kernel
def Q5 (Z : State) (off : Int32) (len : Int32) (h0 : Heap) (n0 : Nat) (v : Option Value) (h : Heap) (L : List Loc) : Prop := v = some (.int off) ∧ Fr n0 L ∧ h = h0
set_option maxRecDepth 65536 in
set_option maxHeartbeats 40000000 in
theorem rm5 (l : Launch) (Z : State) (a0 : Array Value) (hw : ∀ d ∈ tables_1, d.before a0 Z = true) (ws : List Jvm.Cond) (off : Int32) (len : Int32) (h0 : Heap) (n0 : Nat) (Zle : n0 ≤ h0.size) (hc : (¬ (((4 : Int32) ||| off) ||| len) < 0) ∧ ¬ ((4 : Int32) - off) < len) :
    MetFree l (⟨"jdk/internal/util/Preconditions", "checkFromIndexSize", "(IIILjava/util/function/BiFunction;)I"⟩ : MethodName) (head1 (Jvm.Cond.code (⟨"jdk/internal/util/Preconditions", "checkFromIndexSize", "(IIILjava/util/function/BiFunction;)I"⟩ : MethodName) jdk_41_method_13_code 4 (some .int) :: ws) ({ frames := 0, cells := 0, slots := 0, locals := 0 } : Room)) (fun a U => a = #[(.int off), (.int len), (.int 4), .null] ∧ Z.Warmed39 U.vm ∧ U.heap = h0) (fun _ _ _ _ _ => True) (fun _ U o U' => ∃ v L, o = .returned v ∧ Q5 Z off len h0 n0 v U'.heap L ∧ FrameEnd U o U' L ({ frames := 0, cells := 0, slots := 0, locals := 0 } : Room).cells ({ frames := 0, cells := 0, slots := 0, locals := 0 } : Room).slots) := by
  refine MetFree.of_bodySF (plainFor_of_name pn_jdk_internal_util_Preconditions) hisR ?_
  intro p e s m args below meth c s₁ Bd hml0 hP hK
  obtain ⟨rfl, hZ, hh⟩ := hP
  have hx := Bd.exec
  have hby := Bd.bytes
  have hml : c.maxLocals = 4 := hml0
  have hown : s.vm.findClass "jdk/internal/util/Preconditions" = some m.cls := findClass_of_methodNamed Bd.named
  have hnm := (name_of_methodNamed Bd.named Bd.method).1
  have X0 : Stand p l e ({ frames := 0, cells := 0, slots := 0, locals := 0 } : Room) s m #[(.int off), (.int len), (.int 4), .null] below meth c s₁ [] 0 0 := Stand.of_body Bd
  have e0 : s₁.heap = h0 := by rw [← hh, Bd.state]; rfl
  have N_ := Fr.nil n0
  show own_Goes p.tables e below s (Q5 Z off len h0 n0) ({ frames := 0, cells := 0, slots := 0, locals := 0 } : Room).cells ({ frames := 0, cells := 0, slots := 0, locals := 0 } : Room).slots s₁ (entryFrame m #[(.int off), (.int len), (.int 4), .null] 4)
  refine own_by (T' := s₁) (g' := (mkF m 0 #[.val (.int off), .val (.int len), .val (.int 4), .val .null] [])) (fun t k => castTop (ef_5 m off len) k) ?_
  refine own_by (T' := s₁) (g' := (mkF m 1 #[.val (.int off), .val (.int len), .val (.int 4), .val .null] [(.int 4)])) (fun t k => XS.iloadN X0.here hx rfl (hb hby d5_0) rfl k) ?_
  refine own_by (T' := s₁) (g' := (mkF m 2 #[.val (.int off), .val (.int len), .val (.int 4), .val .null] [(.int off), (.int 4)])) (fun t k => XS.iloadN X0.here hx rfl (hb hby d5_1) rfl k) ?_
  refine own_by (T' := s₁) (g' := (mkF m 3 #[.val (.int off), .val (.int len), .val (.int 4), .val .null] [(.int ((4 : Int32) ||| off))])) (fun t k => XS.ior X0.here hx rfl (hb hby d5_2) rfl k) ?_
  refine own_by (T' := s₁) (g' := (mkF m 4 #[.val (.int off), .val (.int len), .val (.int 4), .val .null] [(.int len), (.int ((4 : Int32) ||| off))])) (fun t k => XS.iloadN X0.here hx rfl (hb hby d5_3) rfl k) ?_
  refine own_by (T' := s₁) (g' := (mkF m 5 #[.val (.int off), .val (.int len), .val (.int 4), .val .null] [(.int (((4 : Int32) ||| off) ||| len))])) (fun t k => XS.ior X0.here hx rfl (hb hby d5_4) rfl k) ?_
  refine own_by (T' := s₁) (g' := (mkF m 8 #[.val (.int off), .val (.int len), .val (.int 4), .val .null] [])) (fun t k => XS.ifNo X0.here hx rfl (hb hby d5_5) rfl ((if0 _ _).trans (flt hc.1).1) k) ?_
  refine own_by (T' := s₁) (g' := (mkF m 9 #[.val (.int off), .val (.int len), .val (.int 4), .val .null] [(.int len)])) (fun t k => XS.iloadN X0.here hx rfl (hb hby d5_8) rfl k) ?_
  refine own_by (T' := s₁) (g' := (mkF m 10 #[.val (.int off), .val (.int len), .val (.int 4), .val .null] [(.int 4), (.int len)])) (fun t k => XS.iloadN X0.here hx rfl (hb hby d5_9) rfl k) ?_
  refine own_by (T' := s₁) (g' := (mkF m 11 #[.val (.int off), .val (.int len), .val (.int 4), .val .null] [(.int off), (.int 4), (.int len)])) (fun t k => XS.iloadN X0.here hx rfl (hb hby d5_10) rfl k) ?_
  refine own_by (T' := s₁) (g' := (mkF m 12 #[.val (.int off), .val (.int len), .val (.int 4), .val .null] [(.int ((4 : Int32) - off)), (.int len)])) (fun t k => XS.isub X0.here hx rfl (hb hby d5_11) rfl k) ?_
  refine own_by (T' := s₁) (g' := (mkF m 23 #[.val (.int off), .val (.int len), .val (.int 4), .val .null] [])) (fun t k => XS.icmpYes X0.here hx rfl (pc0 := 12) (pc' := 23) rfl (hb hby d5_12) rfl (flt hc.2).2.2.2 (by decide) (by decide) k) ?_
  refine own_by (T' := s₁) (g' := (mkF m 24 #[.val (.int off), .val (.int len), .val (.int 4), .val .null] [(.int off)])) (fun t k => XS.iloadN X0.here hx rfl (hb hby d5_23) rfl k) ?_
  exact own_retI X0 hx Bd.notSynchronized Bd.returns (hb hby d5_24) (by decide) (by decide) (by rw [e0]; exact ⟨rfl, N_, rfl⟩)

theorem pn_java_util_Objects : plainName "java/util/Objects" = true := by first | (simp [plainName, overriddenIn]; done) | decide +kernel
theorem ef_4 (m : MethodId) (off : Int32) (len : Int32) : entryFrame m #[(.int off), (.int len), (.int 4)] 3 = mkF m 0 #[.val (.int off), .val (.int len), .val (.int 4)] [] := by first | (simp [entryFrame, mkF, argsToLocals, Value.category]; done) | rfl
theorem d4_0 : decode jdk_31_method_19_code 0 = .ok (.iload_n 0, 1) := by decide +kernel
theorem d4_1 : decode jdk_31_method_19_code 1 = .ok (.iload_n 1, 1) := by decide +kernel
theorem d4_2 : decode jdk_31_method_19_code 2 = .ok (.iload_n 2, 1) := by decide +kernel
theorem d4_3 : decode jdk_31_method_19_code 3 = .ok (.aconst_null, 1) := by decide +kernel
theorem d4_4 : decode jdk_31_method_19_code 4 = .ok (.invokestatic 115, 3) := by decide +kernel
theorem pd_5 : parseMethodDescriptor "(IIILjava/util/function/BiFunction;)I" = some ⟨[.int, .int, .int, (.object "java/util/function/BiFunction")], some .int⟩ := by decide +kernel
theorem d4_7 : decode jdk_31_method_19_code 7 = .ok (.ireturn, 1) := by decide +kernel
def Q4 (Z : State) (off : Int32) (len : Int32) (h0 : Heap) (n0 : Nat) (v : Option Value) (h : Heap) (L : List Loc) : Prop := v = some (.int off) ∧ Fr n0 L ∧ h = h0
set_option maxRecDepth 65536 in
set_option maxHeartbeats 40000000 in
theorem rm4 (l : Launch) (Z : State) (a0 : Array Value) (hw : ∀ d ∈ tables_1, d.before a0 Z = true) (ws : List Jvm.Cond) (off : Int32) (len : Int32) (h0 : Heap) (n0 : Nat) (Zle : n0 ≤ h0.size) (hc : (¬ (((4 : Int32) ||| off) ||| len) < 0) ∧ ¬ ((4 : Int32) - off) < len) :
    MetFree l (⟨"java/util/Objects", "checkFromIndexSize", "(III)I"⟩ : MethodName) (head1 (Jvm.Cond.code (⟨"java/util/Objects", "checkFromIndexSize", "(III)I"⟩ : MethodName) jdk_31_method_19_code 3 (some .int) :: ws) ({ frames := 1, cells := 0, slots := 0, locals := 15 } : Room)) (fun a U => a = #[(.int off), (.int len), (.int 4)] ∧ Z.Warmed39 U.vm ∧ U.heap = h0) (fun _ _ _ _ _ => True) (fun _ U o U' => ∃ v L, o = .returned v ∧ Q4 Z off len h0 n0 v U'.heap L ∧ FrameEnd U o U' L ({ frames := 1, cells := 0, slots := 0, locals := 15 } : Room).cells ({ frames := 1, cells := 0, slots := 0, locals := 15 } : Room).slots) := by
  refine MetFree.of_bodySF (plainFor_of_name pn_java_util_Objects) hisR ?_
  intro p e s m args below meth c s₁ Bd hml0 hP hK
  obtain ⟨rfl, hZ, hh⟩ := hP
  have hx := Bd.exec
  have hby := Bd.bytes
  have hml : c.maxLocals = 3 := hml0
  have hown : s.vm.findClass "java/util/Objects" = some m.cls := findClass_of_methodNamed Bd.named
  have hnm := (name_of_methodNamed Bd.named Bd.method).1
  have X0 : Stand p l e ({ frames := 1, cells := 0, slots := 0, locals := 15 } : Room) s m #[(.int off), (.int len), (.int 4)] below meth c s₁ [] 0 0 := Stand.of_body Bd
  have e0 : s₁.heap = h0 := by rw [← hh, Bd.state]; rfl
  have N_ := Fr.nil n0
  show own_Goes p.tables e below s (Q4 Z off len h0 n0) ({ frames := 1, cells := 0, slots := 0, locals := 15 } : Room).cells ({ frames := 1, cells := 0, slots := 0, locals := 15 } : Room).slots s₁ (entryFrame m #[(.int off), (.int len), (.int 4)] 3)
  refine own_by (T' := s₁) (g' := (mkF m 0 #[.val (.int off), .val (.int len), .val (.int 4)] [])) (fun t k => castTop (ef_4 m off len) k) ?_
  refine own_by (T' := s₁) (g' := (mkF m 1 #[.val (.int off), .val (.int len), .val (.int 4)] [(.int off)])) (fun t k => XS.iloadN X0.here hx rfl (hb hby d4_0) rfl k) ?_
  refine own_by (T' := s₁) (g' := (mkF m 2 #[.val (.int off), .val (.int len), .val (.int 4)] [(.int len), (.int off)])) (fun t k => XS.iloadN X0.here hx rfl (hb hby d4_1) rfl k) ?_
  refine own_by (T' := s₁) (g' := (mkF m 3 #[.val (.int off), .val (.int len), .val (.int 4)] [(.int 4), (.int len), (.int off)])) (fun t k => XS.iloadN X0.here hx rfl (hb hby d4_2) rfl k) ?_
  refine own_by (T' := s₁) (g' := (mkF m 4 #[.val (.int off), .val (.int len), .val (.int 4)] [.null, (.int 4), (.int len), (.int off)])) (fun t k => XS.aconstNull X0.here hx rfl (hb hby d4_3) k) ?_
  obtain ⟨_, _, ⟨T1, L1, k1, n1⟩, -, X1, ⟨Lc1, hQ1, l1, y1, z1⟩, st1⟩ := Jvm.LawKit.callS X0 hx (y := (⟨"jdk/internal/util/Preconditions", "checkFromIndexSize", "(IIILjava/util/function/BiFunction;)I"⟩ : MethodName)) hown (mvT hZ (hw _ (own_m 31 rfl))) (mvT hZ (hw _ (own_m 32 rfl))) (mvT hZ (hw _ (own_m 33 rfl))) (mvT hZ (hw _ (own_m 34 rfl))) (by decide) (backOf (W := 0) (rm5 l Z a0 hw [] off len h0 n0 Zle (hc)) hZ (hw _ (own_m 34 rfl)) (hw _ (own_m 33 rfl)) (by decide) (by decide)) (g := (mkF m 4 #[.val (.int off), .val (.int len), .val (.int 4)] [.null, (.int 4), (.int len), (.int off)])) rfl (by rw [hml]; rfl) (argsL := [(.int off), (.int len), (.int 4), .null]) (rest := []) (lenOf pd_5 rfl) rfl (own_le rfl) (hb hby d4_4) (fun _ _ => ⟨rfl, e0, (by decide : 0 + 0 ≤ _), (by decide : 0 + 0 ≤ _)⟩)
  dsimp only [Pt.U, Pt.locs, Pt.cells, Pt.slots] at X1 l1 y1 z1 st1 hQ1
  subst l1 y1 z1
  obtain ⟨rfl, Nq1, e1⟩ := hQ1
  have N_ := Fr.app N_ Nq1
  refine own_by (T' := T1) (g' := (mkF m 7 #[.val (.int off), .val (.int len), .val (.int 4)] [(.int off)])) (fun t k => st1 _ k) ?_
  exact own_retI X1 hx Bd.notSynchronized Bd.returns (hb hby d4_7) (by decide) (by decide) (by rw [e1]; exact ⟨rfl, N_, rfl⟩)

theorem ef_6 (m : MethodId) (tb : Addr) (tx : Addr) (off : Int32) (en : Int32) : entryFrame m #[(.ref tb), (.ref tx), (.int off), (.int en)] 6 = mkF m 0 #[.val (.ref tb), .val (.ref tx), .val (.int off), .val (.int en), .unset, .unset] [] := by first | (simp [entryFrame, mkF, argsToLocals, Value.category]; done) | rfl
theorem d6_0 : decode prog_32_method_3_code 0 = .ok (.iload_n 2, 1) := by decide +kernel
theorem d6_1 : decode prog_32_method_3_code 1 = .ok (.istore 4, 2) := by decide +kernel
theorem d6_3 : decode prog_32_method_3_code 3 = .ok (.iload 4, 2) := by decide +kernel
theorem d6_5 : decode prog_32_method_3_code 5 = .ok (.iload_n 3, 1) := by decide +kernel
theorem d6_6 : decode prog_32_method_3_code 6 = .ok (.if_icmp .ge 31, 3) := by decide +kernel
theorem d6_37 : decode prog_32_method_3_code 37 = .ok (.iload 4, 2) := by decide +kernel
theorem d6_39 : decode prog_32_method_3_code 39 = .ok (.ireturn, 1) := by decide +kernel
theorem d6_9 : decode prog_32_method_3_code 9 = .ok (.aload_n 1, 1) := by decide +kernel
theorem d6_10 : decode prog_32_method_3_code 10 = .ok (.iload 4, 2) := by decide +kernel
theorem d6_12 : decode prog_32_method_3_code 12 = .ok (.baload, 1) := by decide +kernel
theorem d6_13 : decode prog_32_method_3_code 13 = .ok (.istore 5, 2) := by decide +kernel
theorem d6_15 : decode prog_32_method_3_code 15 = .ok (.iload 5, 2) := by decide +kernel
theorem d6_17 : decode prog_32_method_3_code 17 = .ok (.ifCond .ge 6, 3) := by decide +kernel
theorem d6_20 : decode prog_32_method_3_code 20 = .ok (.goto 17, 3) := by decide +kernel
theorem d6_23 : decode prog_32_method_3_code 23 = .ok (.aload_n 1, 1) := by decide +kernel
theorem d6_24 : decode prog_32_method_3_code 24 = .ok (.iload 4, 2) := by decide +kernel
theorem d6_26 : decode prog_32_method_3_code 26 = .ok (.aload_n 0, 1) := by decide +kernel
theorem d6_27 : decode prog_32_method_3_code 27 = .ok (.iload 5, 2) := by decide +kernel
theorem d6_29 : decode prog_32_method_3_code 29 = .ok (.baload, 1) := by decide +kernel
theorem d6_30 : decode prog_32_method_3_code 30 = .ok (.bastore, 1) := by decide +kernel
theorem d6_31 : decode prog_32_method_3_code 31 = .ok (.iinc 4 1, 3) := by decide +kernel
theorem d6_34 : decode prog_32_method_3_code 34 = .ok (.goto (-31), 3) := by decide +kernel
def Q6 (Z : State) (tb : Addr) (tx : Addr) (off : Int32) (en : Int32) (ct : Cell) (kt : ClassId) (o0 : Int32) (o1 : Int32) (o2 : Int32) (o3 : Int32) (h0 : Heap) (n0 : Nat) (v : Option Value) (h : Heap) (L : List Loc) : Prop := v = some (.int (own_R off en o0 o1 o2 o3)) ∧ Fr n0 L ∧ Keep h0 h [tx] ∧ Arv Z h tx kt .byte (4 : Int32) [(.int (own_tx (0 : Int32) off (own_R off en o0 o1 o2 o3) o0 ct)), (.int (own_tx (1 : Int32) off (own_R off en o0 o1 o2 o3) o1 ct)), (.int (own_tx (2 : Int32) off (own_R off en o0 o1 o2 o3) o2 ct)), (.int (own_tx (3 : Int32) off (own_R off en o0 o1 o2 o3) o3 ct))] (.int 0)
set_option maxRecDepth 65536 in
set_option maxHeartbeats 40000000 in
theorem rm6 (l : Launch) (Z : State) (a0 : Array Value) (hw : ∀ d ∈ tables_1, d.before a0 Z = true) (ws : List Jvm.Cond) (tb : Addr) (tx : Addr) (off : Int32) (en : Int32) (ct : Cell) (kt : ClassId) (o0 : Int32) (o1 : Int32) (o2 : Int32) (o3 : Int32) (h0 : Heap) (n0 : Nat) (Zle : n0 ≤ h0.size) (A_tb : Arr Z h0 tb ct .byte) (V_tx : Arv Z h0 tx kt .byte (4 : Int32) [(.int o0), (.int o1), (.int o2), (.int o3)] (.int 0)) (g_tx : n0 ≤ tx) (ne_tb_tx : tb ≠ tx) (hB : own_B ct) (hoe : (off = 0 ∧ en = 0) ∨ (off = 0 ∧ en = 1) ∨ (off = 0 ∧ en = 2) ∨ (off = 0 ∧ en = 3) ∨ (off = 0 ∧ en = 4) ∨ (off = 1 ∧ en = 1) ∨ (off = 1 ∧ en = 2) ∨ (off = 1 ∧ en = 3) ∨ (off = 1 ∧ en = 4) ∨ (off = 2 ∧ en = 2) ∨ (off = 2 ∧ en = 3) ∨ (off = 2 ∧ en = 4) ∨ (off = 3 ∧ en = 3) ∨ (off = 3 ∧ en = 4) ∨ (off = 4 ∧ en = 4)) (hby0 : o0 < 128) (hby1 : o1 < 128) (hby2 : o2 < 128) (hby3 : o3 < 128) :
    MetFree l (⟨"com/example/cipherloom/cipherloom/core/AsciiTable", "transform", "([B[BII)I"⟩ : MethodName) (head1 (Jvm.Cond.code (⟨"com/example/cipherloom/cipherloom/core/AsciiTable", "transform", "([B[BII)I"⟩ : MethodName) prog_32_method_3_code 6 (some .int) :: ws) ({ frames := 0, cells := 0, slots := 0, locals := 0 } : Room)) (fun a U => a = #[(.ref tb), (.ref tx), (.int off), (.int en)] ∧ Z.Warmed39 U.vm ∧ U.heap = h0) (fun _ _ _ _ _ => True) (fun _ U o U' => ∃ v L, o = .returned v ∧ Q6 Z tb tx off en ct kt o0 o1 o2 o3 h0 n0 v U'.heap L ∧ FrameEnd U o U' L ({ frames := 0, cells := 0, slots := 0, locals := 0 } : Room).cells ({ frames := 0, cells := 0, slots := 0, locals := 0 } : Room).slots) := by
  refine MetFree.of_bodySF (plainFor_of_name pn_com_example_cipherloom_cipherloom_core_AsciiTable) hisR ?_
  intro p e s m args below meth c s₁ Bd hml0 hP hK
  obtain ⟨rfl, hZ, hh⟩ := hP
  have hx := Bd.exec
  have hby := Bd.bytes
  have hml : c.maxLocals = 6 := hml0
  have hown : s.vm.findClass "com/example/cipherloom/cipherloom/core/AsciiTable" = some m.cls := findClass_of_methodNamed Bd.named
  have hnm := (name_of_methodNamed Bd.named Bd.method).1
  have X0 : Stand p l e ({ frames := 0, cells := 0, slots := 0, locals := 0 } : Room) s m #[(.ref tb), (.ref tx), (.int off), (.int en)] below meth c s₁ [] 0 0 := Stand.of_body Bd
  have e0 : s₁.heap = h0 := by rw [← hh, Bd.state]; rfl
  have N_ := Fr.nil n0
  have K_ := Keep.refl h0 [tx]
  show own_Goes p.tables e below s (Q6 Z tb tx off en ct kt o0 o1 o2 o3 h0 n0) ({ frames := 0, cells := 0, slots := 0, locals := 0 } : Room).cells ({ frames := 0, cells := 0, slots := 0, locals := 0 } : Room).slots s₁ (entryFrame m #[(.ref tb), (.ref tx), (.int off), (.int en)] 6)
  refine own_by (T' := s₁) (g' := (mkF m 0 #[.val (.ref tb), .val (.ref tx), .val (.int off), .val (.int en), .unset, .unset] [])) (fun t k => castTop (ef_6 m tb tx off en) k) ?_
  rcases hoe with ⟨rfl, rfl⟩ | ⟨rfl, rfl⟩ | ⟨rfl, rfl⟩ | ⟨rfl, rfl⟩ | ⟨rfl, rfl⟩ | ⟨rfl, rfl⟩ | ⟨rfl, rfl⟩ | ⟨rfl, rfl⟩ | ⟨rfl, rfl⟩ | ⟨rfl, rfl⟩ | ⟨rfl, rfl⟩ | ⟨rfl, rfl⟩ | ⟨rfl, rfl⟩ | ⟨rfl, rfl⟩ | ⟨rfl, rfl⟩
  · refine own_by (T' := s₁) (g' := (mkF m 1 #[.val (.ref tb), .val (.ref tx), .val (.int 0), .val (.int 0), .unset, .unset] [(.int 0)])) (fun t k => XS.iloadN X0.here hx rfl (hb hby d6_0) rfl k) ?_
    refine own_by (T' := s₁) (g' := (mkF m 3 #[.val (.ref tb), .val (.ref tx), .val (.int 0), .val (.int 0), .val (.int 0), .unset] [])) (fun t k => XS.istore X0.here hx rfl (hb hby d6_1) rfl (l' := #[.val (.ref tb), .val (.ref tx), .val (.int 0), .val (.int 0), .val (.int 0), .unset]) rfl k) ?_
    refine own_by (T' := s₁) (g' := (mkF m 5 #[.val (.ref tb), .val (.ref tx), .val (.int 0), .val (.int 0), .val (.int 0), .unset] [(.int 0)])) (fun t k => XS.iload X0.here hx rfl (hb hby d6_3) rfl k) ?_
    refine own_by (T' := s₁) (g' := (mkF m 6 #[.val (.ref tb), .val (.ref tx), .val (.int 0), .val (.int 0), .val (.int 0), .unset] [(.int 0), (.int 0)])) (fun t k => XS.iloadN X0.here hx rfl (hb hby d6_5) rfl k) ?_
    refine own_by (T' := s₁) (g' := (mkF m 37 #[.val (.ref tb), .val (.ref tx), .val (.int 0), .val (.int 0), .val (.int 0), .unset] [])) (fun t k => XS.icmpYes X0.here hx rfl (pc0 := 6) (pc' := 37) rfl (hb hby d6_6) rfl (flt (by decide)).2.1 (by decide) (by decide) k) ?_
    refine own_by (T' := s₁) (g' := (mkF m 39 #[.val (.ref tb), .val (.ref tx), .val (.int 0), .val (.int 0), .val (.int 0), .unset] [(.int 0)])) (fun t k => XS.iload X0.here hx rfl (hb hby d6_37) rfl k) ?_
    have hR : own_R (0 : Int32) (0 : Int32) o0 o1 o2 o3 = (0 : Int32) := by simp [own_R, own_rs]
    exact own_retI X0 hx Bd.notSynchronized Bd.returns (hb hby d6_39) (by decide) (by decide) (by rw [e0]; exact ⟨by rw [hR], N_, K_, by rw [hR]; exact V_tx⟩)
  · refine own_by (T' := s₁) (g' := (mkF m 1 #[.val (.ref tb), .val (.ref tx), .val (.int 0), .val (.int 1), .unset, .unset] [(.int 0)])) (fun t k => XS.iloadN X0.here hx rfl (hb hby d6_0) rfl k) ?_
    refine own_by (T' := s₁) (g' := (mkF m 3 #[.val (.ref tb), .val (.ref tx), .val (.int 0), .val (.int 1), .val (.int 0), .unset] [])) (fun t k => XS.istore X0.here hx rfl (hb hby d6_1) rfl (l' := #[.val (.ref tb), .val (.ref tx), .val (.int 0), .val (.int 1), .val (.int 0), .unset]) rfl k) ?_
    refine own_by (T' := s₁) (g' := (mkF m 5 #[.val (.ref tb), .val (.ref tx), .val (.int 0), .val (.int 1), .val (.int 0), .unset] [(.int 0)])) (fun t k => XS.iload X0.here hx rfl (hb hby d6_3) rfl k) ?_
    refine own_by (T' := s₁) (g' := (mkF m 6 #[.val (.ref tb), .val (.ref tx), .val (.int 0), .val (.int 1), .val (.int 0), .unset] [(.int 1), (.int 0)])) (fun t k => XS.iloadN X0.here hx rfl (hb hby d6_5) rfl k) ?_
    refine own_by (T' := s₁) (g' := (mkF m 9 #[.val (.ref tb), .val (.ref tx), .val (.int 0), .val (.int 1), .val (.int 0), .unset] [])) (fun t k => XS.icmpNo X0.here hx rfl (hb hby d6_6) rfl (tlt (by decide)).2.1 k) ?_
    refine own_by (T' := s₁) (g' := (mkF m 10 #[.val (.ref tb), .val (.ref tx), .val (.int 0), .val (.int 1), .val (.int 0), .unset] [(.ref tx)])) (fun t k => XS.aloadN X0.here hx rfl (hb hby d6_9) rfl rfl k) ?_
    refine own_by (T' := s₁) (g' := (mkF m 12 #[.val (.ref tb), .val (.ref tx), .val (.int 0), .val (.int 1), .val (.int 0), .unset] [(.int 0), (.ref tx)])) (fun t k => XS.iload X0.here hx rfl (hb hby d6_10) rfl k) ?_
    obtain ⟨cl1, Ar1, q1, S1, N1, Hs1, G1⟩ := id V_tx
    have hin1 : ¬ ((0 : Int32) < 0 ∨ cl1.slots.size ≤ ((0 : Int32)).toNatClampNeg) := inb_of S1 ⟨by decide, by decide⟩
    have hat1 : cl1.slots[((0 : Int32)).toNatClampNeg]? = some (.int o0) := Hs1.at hin1 rfl
    refine own_by (T' := s₁) (g' := (mkF m 13 #[.val (.ref tb), .val (.ref tx), .val (.int 0), .val (.int 1), .val (.int 0), .unset] [(.int o0)])) (fun t k => X0.baloadBytes hx (j := (0 : Int32)) (v := (.int o0)) (by rw [e0]; exact Ar1.1) (State.isArrayOf_alike hZ.alike Ar1.2.1) Ar1.2.2 hin1 hat1 (g := (mkF m 12 #[.val (.ref tb), .val (.ref tx), .val (.int 0), .val (.int 1), .val (.int 0), .unset] [(.int 0), (.ref tx)])) rfl rfl (hb hby d6_12) _ k) ?_
    refine own_by (T' := s₁) (g' := (mkF m 15 #[.val (.ref tb), .val (.ref tx), .val (.int 0), .val (.int 1), .val (.int 0), .val (.int o0)] [])) (fun t k => XS.istore X0.here hx rfl (hb hby d6_13) rfl (l' := #[.val (.ref tb), .val (.ref tx), .val (.int 0), .val (.int 1), .val (.int 0), .val (.int o0)]) rfl k) ?_
    refine own_by (T' := s₁) (g' := (mkF m 17 #[.val (.ref tb), .val (.ref tx), .val (.int 0), .val (.int 1), .val (.int 0), .val (.int o0)] [(.int o0)])) (fun t k => XS.iload X0.here hx rfl (hb hby d6_15) rfl k) ?_
    by_cases hc17_2 : o0 < (0 : Int32)
    · refine own_by (T' := s₁) (g' := (mkF m 20 #[.val (.ref tb), .val (.ref tx), .val (.int 0), .val (.int 1), .val (.int 0), .val (.int o0)] [])) (fun t k => XS.ifNo X0.here hx rfl (hb hby d6_17) rfl ((if0 _ _).trans (tlt hc17_2).2.1) k) ?_
      refine own_by (T' := s₁) (g' := (mkF m 37 #[.val (.ref tb), .val (.ref tx), .val (.int 0), .val (.int 1), .val (.int 0), .val (.int o0)] [])) (fun t k => XS.goto X0.here hx rfl (pc0 := 20) (pc' := 37) rfl (hb hby d6_20) (by decide) (by decide) k) ?_
      refine own_by (T' := s₁) (g' := (mkF m 39 #[.val (.ref tb), .val (.ref tx), .val (.int 0), .val (.int 1), .val (.int 0), .val (.int o0)] [(.int 0)])) (fun t k => XS.iload X0.here hx rfl (hb hby d6_37) rfl k) ?_
      have hR : own_R (0 : Int32) (1 : Int32) o0 o1 o2 o3 = (0 : Int32) := by simp [own_R, own_rs, hc17_2]
      exact own_retI X0 hx Bd.notSynchronized Bd.returns (hb hby d6_39) (by decide) (by decide) (by rw [e0]; exact ⟨by rw [hR], N_, K_, by rw [hR]; exact V_tx⟩)
    · refine own_by (T' := s₁) (g' := (mkF m 23 #[.val (.ref tb), .val (.ref tx), .val (.int 0), .val (.int 1), .val (.int 0), .val (.int o0)] [])) (fun t k => XS.ifYes X0.here hx rfl (pc0 := 17) (pc' := 23) rfl (hb hby d6_17) rfl ((if0 _ _).trans (flt hc17_2).2.1) (by decide) (by decide) k) ?_
      refine own_by (T' := s₁) (g' := (mkF m 24 #[.val (.ref tb), .val (.ref tx), .val (.int 0), .val (.int 1), .val (.int 0), .val (.int o0)] [(.ref tx)])) (fun t k => XS.aloadN X0.here hx rfl (hb hby d6_23) rfl rfl k) ?_
      refine own_by (T' := s₁) (g' := (mkF m 26 #[.val (.ref tb), .val (.ref tx), .val (.int 0), .val (.int 1), .val (.int 0), .val (.int o0)] [(.int 0), (.ref tx)])) (fun t k => XS.iload X0.here hx rfl (hb hby d6_24) rfl k) ?_
      refine own_by (T' := s₁) (g' := (mkF m 27 #[.val (.ref tb), .val (.ref tx), .val (.int 0), .val (.int 1), .val (.int 0), .val (.int o0)] [(.ref tb), (.int 0), (.ref tx)])) (fun t k => XS.aloadN X0.here hx rfl (hb hby d6_26) rfl rfl k) ?_
      refine own_by (T' := s₁) (g' := (mkF m 29 #[.val (.ref tb), .val (.ref tx), .val (.int 0), .val (.int 1), .val (.int 0), .val (.int o0)] [(.int o0), (.ref tb), (.int 0), (.ref tx)])) (fun t k => XS.iload X0.here hx rfl (hb hby d6_27) rfl k) ?_
      refine own_by (T' := s₁) (g' := (mkF m 30 #[.val (.ref tb), .val (.ref tx), .val (.int 0), .val (.int 1), .val (.int 0), .val (.int o0)] [(.int (atv ct o0)), (.int 0), (.ref tx)])) (fun t k => X0.baloadBytes hx (j := o0) (v := (.int (atv ct o0))) (by rw [e0]; exact A_tb.1) (State.isArrayOf_alike hZ.alike A_tb.2.1) A_tb.2.2 (own_inb hB hc17_2 hby0) (own_at hB hc17_2 hby0) (g := (mkF m 29 #[.val (.ref tb), .val (.ref tx), .val (.int 0), .val (.int 1), .val (.int 0), .val (.int o0)] [(.int o0), (.ref tb), (.int 0), (.ref tx)])) rfl rfl (hb hby d6_29) _ k) ?_
      obtain ⟨cl3, Ar3, q3, S3, N3, Hs3, G3⟩ := id V_tx
      have hin3 : ¬ ((0 : Int32) < 0 ∨ cl3.slots.size ≤ ((0 : Int32)).toNatClampNeg) := inb_of S3 ⟨by decide, by decide⟩
      obtain ⟨T3, h3, X3, e3, W3, st3⟩ := stB X0 hx hZ e0 Ar3 (j := (0 : Int32)) hin3 (g := (mkF m 30 #[.val (.ref tb), .val (.ref tx), .val (.int 0), .val (.int 1), .val (.int 0), .val (.int o0)] [(.int (atv ct o0)), (.int 0), (.ref tx)])) rfl rfl (hb hby d6_30)
      have V_tx_ : Arv Z h3 tx kt .byte (4 : Int32) [(.int (nar .byte (atv ct o0))), (.int o1), (.int o2), (.int o3)] (.int 0) := Arv.set Ar3 q3 S3 N3 Hs3 G3 (fits_nar_byte _) W3 0 rfl (Nat.le_of_ble_eq_true rfl)
      have A_tb := A_tb.other W3 ne_tb_tx
      have Zle := Nat.le_trans Zle (Keep.of_wr W3).1
      have K_ := K_.wr W3 (Or.inl (List.mem_of_getElem? (i := 0) rfl))
      have V_tx := V_tx_
      have N_ := Fr.snoc X3 N_ g_tx
      refine own_by (T' := T3) (g' := (mkF m 31 #[.val (.ref tb), .val (.ref tx), .val (.int 0), .val (.int 1), .val (.int 0), .val (.int o0)] [])) (fun t k => st3 t k) ?_
      refine own_by (T' := T3) (g' := (mkF m 34 #[.val (.ref tb), .val (.ref tx), .val (.int 0), .val (.int 1), .val (.int 1), .val (.int o0)] [])) (fun t k => XS.iinc X3.here hx rfl (hb hby d6_31) rfl (l' := #[.val (.ref tb), .val (.ref tx), .val (.int 0), .val (.int 1), .val (.int 1), .val (.int o0)]) rfl k) ?_
      refine own_by (T' := T3) (g' := (mkF m 3 #[.val (.ref tb), .val (.ref tx), .val (.int 0), .val (.int 1), .val (.int 1), .val (.int o0)] [])) (fun t k => XS.goto X3.here hx rfl (pc0 := 34) (pc' := 3) rfl (hb hby d6_34) (by decide) (by decide) k) ?_
      refine own_by (T' := T3) (g' := (mkF m 5 #[.val (.ref tb), .val (.ref tx), .val (.int 0), .val (.int 1), .val (.int 1), .val (.int o0)] [(.int 1)])) (fun t k => XS.iload X3.here hx rfl (hb hby d6_3) rfl k) ?_
      refine own_by (T' := T3) (g' := (mkF m 6 #[.val (.ref tb), .val (.ref tx), .val (.int 0), .val (.int 1), .val (.int 1), .val (.int o0)] [(.int 1), (.int 1)])) (fun t k => XS.iloadN X3.here hx rfl (hb hby d6_5) rfl k) ?_
      refine own_by (T' := T3) (g' := (mkF m 37 #[.val (.ref tb), .val (.ref tx), .val (.int 0), .val (.int 1), .val (.int 1), .val (.int o0)] [])) (fun t k => XS.icmpYes X3.here hx rfl (pc0 := 6) (pc' := 37) rfl (hb hby d6_6) rfl (flt (by decide)).2.1 (by decide) (by decide) k) ?_
      refine own_by (T' := T3) (g' := (mkF m 39 #[.val (.ref tb), .val (.ref tx), .val (.int 0), .val (.int 1), .val (.int 1), .val (.int o0)] [(.int 1)])) (fun t k => XS.iload X3.here hx rfl (hb hby d6_37) rfl k) ?_
      have hR : own_R (0 : Int32) (1 : Int32) o0 o1 o2 o3 = (1 : Int32) := by simp [own_R, own_rs, hc17_2]
      exact own_retI X3 hx Bd.notSynchronized Bd.returns (hb hby d6_39) (by decide) (by decide) (by rw [e3]; exact ⟨by rw [hR], N_, K_, by rw [hR]; exact V_tx⟩)
  · refine own_by (T' := s₁) (g' := (mkF m 1 #[.val (.ref tb), .val (.ref tx), .val (.int 0), .val (.int 2), .unset, .unset] [(.int 0)])) (fun t k => XS.iloadN X0.here hx rfl (hb hby d6_0) rfl k) ?_
    refine own_by (T' := s₁) (g' := (mkF m 3 #[.val (.ref tb), .val (.ref tx), .val (.int 0), .val (.int 2), .val (.int 0), .unset] [])) (fun t k => XS.istore X0.here hx rfl (hb hby d6_1) rfl (l' := #[.val (.ref tb), .val (.ref tx), .val (.int 0), .val (.int 2), .val (.int 0), .unset]) rfl k) ?_
    refine own_by (T' := s₁) (g' := (mkF m 5 #[.val (.ref tb), .val (.ref tx), .val (.int 0), .val (.int 2), .val (.int 0), .unset] [(.int 0)])) (fun t k => XS.iload X0.here hx rfl (hb hby d6_3) rfl k) ?_
    refine own_by (T' := s₁) (g' := (mkF m 6 #[.val (.ref tb), .val (.ref tx), .val (.int 0), .val (.int 2), .val (.int 0), .unset] [(.int 2), (.int 0)])) (fun t k => XS.iloadN X0.here hx rfl (hb hby d6_5) rfl k) ?_
    refine own_by (T' := s₁) (g' := (mkF m 9 #[.val (.ref tb), .val (.ref tx), .val (.int 0), .val (.int 2), .val (.int 0), .unset] [])) (fun t k => XS.icmpNo X0.here hx rfl (hb hby d6_6) rfl (tlt (by decide)).2.1 k) ?_
    refine own_by (T' := s₁) (g' := (mkF m 10 #[.val (.ref tb), .val (.ref tx), .val (.int 0), .val (.int 2), .val (.int 0), .unset] [(.ref tx)])) (fun t k => XS.aloadN X0.here hx rfl (hb hby d6_9) rfl rfl k) ?_
    refine own_by (T' := s₁) (g' := (mkF m 12 #[.val (.ref tb), .val (.ref tx), .val (.int 0), .val (.int 2), .val (.int 0), .unset] [(.int 0), (.ref tx)])) (fun t k => XS.iload X0.here hx rfl (hb hby d6_10) rfl k) ?_
    obtain ⟨cl4, Ar4, q4, S4, N4, Hs4, G4⟩ := id V_tx
    have hin4 : ¬ ((0 : Int32) < 0 ∨ cl4.slots.size ≤ ((0 : Int32)).toNatClampNeg) := inb_of S4 ⟨by decide, by decide⟩
    have hat4 : cl4.slots[((0 : Int32)).toNatClampNeg]? = some (.int o0) := Hs4.at hin4 rfl
    refine own_by (T' := s₁) (g' := (mkF m 13 #[.val (.ref tb), .val (.ref tx), .val (.int 0), .val (.int 2), .val (.int 0), .unset] [(.int o0)])) (fun t k => X0.baloadBytes hx (j := (0 : Int32)) (v := (.int o0)) (by rw [e0]; exact Ar4.1) (State.isArrayOf_alike hZ.alike Ar4.2.1) Ar4.2.2 hin4 hat4 (g := (mkF m 12 #[.val (.ref tb), .val (.ref tx), .val (.int 0), .val (.int 2), .val (.int 0), .unset] [(.int 0), (.ref tx)])) rfl rfl (hb hby d6_12) _ k) ?_
    refine own_by (T' := s₁) (g' := (mkF m 15 #[.val (.ref tb), .val (.ref tx), .val (.int 0), .val (.int 2), .val (.int 0), .val (.int o0)] [])) (fun t k => XS.istore X0.here hx rfl (hb hby d6_13) rfl (l' := #[.val (.ref tb), .val (.ref tx), .val (.int 0), .val (.int 2), .val (.int 0), .val (.int o0)]) rfl k) ?_
    refine own_by (T' := s₁) (g' := (mkF m 17 #[.val (.ref tb), .val (.ref tx), .val (.int 0), .val (.int 2), .val (.int 0), .val (.int o0)] [(.int o0)])) (fun t k => XS.iload X0.here hx rfl (hb hby d6_15) rfl k) ?_
    by_cases hc17_5 : o0 < (0 : Int32)
    · refine own_by (T' := s₁) (g' := (mkF m 20 #[.val (.ref tb), .val (.ref tx), .val (.int 0), .val (.int 2), .val (.int 0), .val (.int o0)] [])) (fun t k => XS.ifNo X0.here hx rfl (hb hby d6_17) rfl ((if0 _ _).trans (tlt hc17_5).2.1) k) ?_
      refine own_by (T' := s₁) (g' := (mkF m 37 #[.val (.ref tb), .val (.ref tx), .val (.int 0), .val (.int 2), .val (.int 0), .val (.int o0)] [])) (fun t k => XS.goto X0.here hx rfl (pc0 := 20) (pc' := 37) rfl (hb hby d6_20) (by decide) (by decide) k) ?_
      refine own_by (T' := s₁) (g' := (mkF m 39 #[.val (.ref tb), .val (.ref tx), .val (.int 0), .val (.int 2), .val (.int 0), .val (.int o0)] [(.int 0)])) (fun t k => XS.iload X0.here hx rfl (hb hby d6_37) rfl k) ?_
      have hR : own_R (0 : Int32) (2 : Int32) o0 o1 o2 o3 = (0 : Int32) := by simp [own_R, own_rs, hc17_5]
      exact own_retI X0 hx Bd.notSynchronized Bd.returns (hb hby d6_39) (by decide) (by decide) (by rw [e0]; exact ⟨by rw [hR], N_, K_, by rw [hR]; exact V_tx⟩)
    · refine own_by (T' := s₁) (g' := (mkF m 23 #[.val (.ref tb), .val (.ref tx), .val (.int 0), .val (.int 2), .val (.int 0), .val (.int o0)] [])) (fun t k => XS.ifYes X0.here hx rfl (pc0 := 17) (pc' := 23) rfl (hb hby d6_17) rfl ((if0 _ _).trans (flt hc17_5).2.1) (by decide) (by decide) k) ?_
      refine own_by (T' := s₁) (g' := (mkF m 24 #[.val (.ref tb), .val (.ref tx), .val (.int 0), .val (.int 2), .val (.int 0), .val (.int o0)] [(.ref tx)])) (fun t k => XS.aloadN X0.here hx rfl (hb hby d6_23) rfl rfl k) ?_
      refine own_by (T' := s₁) (g' := (mkF m 26 #[.val (.ref tb), .val (.ref tx), .val (.int 0), .val (.int 2), .val (.int 0), .val (.int o0)] [(.int 0), (.ref tx)])) (fun t k => XS.iload X0.here hx rfl (hb hby d6_24) rfl k) ?_
      refine own_by (T' := s₁) (g' := (mkF m 27 #[.val (.ref tb), .val (.ref tx), .val (.int 0), .val (.int 2), .val (.int 0), .val (.int o0)] [(.ref tb), (.int 0), (.ref tx)])) (fun t k => XS.aloadN X0.here hx rfl (hb hby d6_26) rfl rfl k) ?_
      refine own_by (T' := s₁) (g' := (mkF m 29 #[.val (.ref tb), .val (.ref tx), .val (.int 0), .val (.int 2), .val (.int 0), .val (.int o0)] [(.int o0), (.ref tb), (.int 0), (.ref tx)])) (fun t k => XS.iload X0.here hx rfl (hb hby d6_27) rfl k) ?_
      refine own_by (T' := s₁) (g' := (mkF m 30 #[.val (.ref tb), .val (.ref tx), .val (.int 0), .val (.int 2), .val (.int 0), .val (.int o0)] [(.int (atv ct o0)), (.int 0), (.ref tx)])) (fun t k => X0.baloadBytes hx (j := o0) (v := (.int (atv ct o0))) (by rw [e0]; exact A_tb.1) (State.isArrayOf_alike hZ.alike A_tb.2.1) A_tb.2.2 (own_inb hB hc17_5 hby0) (own_at hB hc17_5 hby0) (g := (mkF m 29 #[.val (.ref tb), .val (.ref tx), .val (.int 0), .val (.int 2), .val (.int 0), .val (.int o0)] [(.int o0), (.ref tb), (.int 0), (.ref tx)])) rfl rfl (hb hby d6_29) _ k) ?_
      obtain ⟨cl6, Ar6, q6, S6, N6, Hs6, G6⟩ := id V_tx
      have hin6 : ¬ ((0 : Int32) < 0 ∨ cl6.slots.size ≤ ((0 : Int32)).toNatClampNeg) := inb_of S6 ⟨by decide, by decide⟩
      obtain ⟨T6, h6, X6, e6, W6, st6⟩ := stB X0 hx hZ e0 Ar6 (j := (0 : Int32)) hin6 (g := (mkF m 30 #[.val (.ref tb), .val (.ref tx), .val (.int 0), .val (.int 2), .val (.int 0), .val (.int o0)] [(.int (atv ct o0)), (.int 0), (.ref tx)])) rfl rfl (hb hby d6_30)
      have V_tx_ : Arv Z h6 tx kt .byte (4 : Int32) [(.int (nar .byte (atv ct o0))), (.int o1), (.int o2), (.int o3)] (.int 0) := Arv.set Ar6 q6 S6 N6 Hs6 G6 (fits_nar_byte _) W6 0 rfl (Nat.le_of_ble_eq_true rfl)
      have A_tb := A_tb.other W6 ne_tb_tx
      have Zle := Nat.le_trans Zle (Keep.of_wr W6).1
      have K_ := K_.wr W6 (Or.inl (List.mem_of_getElem? (i := 0) rfl))
      have V_tx := V_tx_
      have N_ := Fr.snoc X6 N_ g_tx
      refine own_by (T' := T6) (g' := (mkF m 31 #[.val (.ref tb), .val (.ref tx), .val (.int 0), .val (.int 2), .val (.int 0), .val (.int o0)] [])) (fun t k => st6 t k) ?_
      refine own_by (T' := T6) (g' := (mkF m 34 #[.val (.ref tb), .val (.ref tx), .val (.int 0), .val (.int 2), .val (.int 1), .val (.int o0)] [])) (fun t k => XS.iinc X6.here hx rfl (hb hby d6_31) rfl (l' := #[.val (.ref tb), .val (.ref tx), .val (.int 0), .val (.int 2), .val (.int 1), .val (.int o0)]) rfl k) ?_
      refine own_by (T' := T6) (g' := (mkF m 3 #[.val (.ref tb), .val (.ref tx), .val (.int 0), .val (.int 2), .val (.int 1), .val (.int o0)] [])) (fun t k => XS.goto X6.here hx rfl (pc0 := 34) (pc' := 3) rfl (hb hby d6_34) (by decide) (by decide) k) ?_
      refine own_by (T' := T6) (g' := (mkF m 5 #[.val (.ref tb), .val (.ref tx), .val (.int 0), .val (.int 2), .val (.int 1), .val (.int o0)] [(.int 1)])) (fun t k => XS.iload X6.here hx rfl (hb hby d6_3) rfl k) ?_
      refine own_by (T' := T6) (g' := (mkF m 6 #[.val (.ref tb), .val (.ref tx), .val (.int 0), .val (.int 2), .val (.int 1), .val (.int o0)] [(.int 2), (.int 1)])) (fun t k => XS.iloadN X6.here hx rfl (hb hby d6_5) rfl k) ?_
      refine own_by (T' := T6) (g' := (mkF m 9 #[.val (.ref tb), .val (.ref tx), .val (.int 0), .val (.int 2), .val (.int 1), .val (.int o0)] [])) (fun t k => XS.icmpNo X6.here hx rfl (hb hby d6_6) rfl (tlt (by decide)).2.1 k) ?_
      refine own_by (T' := T6) (g' := (mkF m 10 #[.val (.ref tb), .val (.ref tx), .val (.int 0), .val (.int 2), .val (.int 1), .val (.int o0)] [(.ref tx)])) (fun t k => XS.aloadN X6.here hx rfl (hb hby d6_9) rfl rfl k) ?_
      refine own_by (T' := T6) (g' := (mkF m 12 #[.val (.ref tb), .val (.ref tx), .val (.int 0), .val (.int 2), .val (.int 1), .val (.int o0)] [(.int 1), (.ref tx)])) (fun t k => XS.iload X6.here hx rfl (hb hby d6_10) rfl k) ?_
      obtain ⟨cl7, Ar7, q7, S7, N7, Hs7, G7⟩ := id V_tx
      have hin7 : ¬ ((1 : Int32) < 0 ∨ cl7.slots.size ≤ ((1 : Int32)).toNatClampNeg) := inb_of S7 ⟨by decide, by decide⟩
      have hat7 : cl7.slots[((1 : Int32)).toNatClampNeg]? = some (.int o1) := Hs7.at hin7 rfl
      refine own_by (T' := T6) (g' := (mkF m 13 #[.val (.ref tb), .val (.ref tx), .val (.int 0), .val (.int 2), .val (.int 1), .val (.int o0)] [(.int o1)])) (fun t k => X6.baloadBytes hx (j := (1 : Int32)) (v := (.int o1)) (by rw [e6]; exact Ar7.1) (State.isArrayOf_alike hZ.alike Ar7.2.1) Ar7.2.2 hin7 hat7 (g := (mkF m 12 #[.val (.ref tb), .val (.ref tx), .val (.int 0), .val (.int 2), .val (.int 1), .val (.int o0)] [(.int 1), (.ref tx)])) rfl rfl (hb hby d6_12) _ k) ?_
      refine own_by (T' := T6) (g' := (mkF m 15 #[.val (.ref tb), .val (.ref tx), .val (.int 0), .val (.int 2), .val (.int 1), .val (.int o1)] [])) (fun t k => XS.istore X6.here hx rfl (hb hby d6_13) rfl (l' := #[.val (.ref tb), .val (.ref tx), .val (.int 0), .val (.int 2), .val (.int 1), .val (.int o1)]) rfl k) ?_
      refine own_by (T' := T6) (g' := (mkF m 17 #[.val (.ref tb), .val (.ref tx), .val (.int 0), .val (.int 2), .val (.int 1), .val (.int o1)] [(.int o1)])) (fun t k => XS.iload X6.here hx rfl (hb hby d6_15) rfl k) ?_
      by_cases hc17_8 : o1 < (0 : Int32)
      · refine own_by (T' := T6) (g' := (mkF m 20 #[.val (.ref tb), .val (.ref tx), .val (.int 0), .val (.int 2), .val (.int 1), .val (.int o1)] [])) (fun t k => XS.ifNo X6.here hx rfl (hb hby d6_17) rfl ((if0 _ _).trans (tlt hc17_8).2.1) k) ?_
        refine own_by (T' := T6) (g' := (mkF m 37 #[.val (.ref tb), .val (.ref tx), .val (.int 0), .val (.int 2), .val (.int 1), .val (.int o1)] [])) (fun t k => XS.goto X6.here hx rfl (pc0 := 20) (pc' := 37) rfl (hb hby d6_20) (by decide) (by decide) k) ?_
        refine own_by (T' := T6) (g' := (mkF m 39 #[.val (.ref tb), .val (.ref tx), .val (.int 0), .val (.int 2), .val (.int 1), .val (.int o1)] [(.int 1)])) (fun t k => XS.iload X6.here hx rfl (hb hby d6_37) rfl k) ?_
        have hR : own_R (0 : Int32) (2 : Int32) o0 o1 o2 o3 = (1 : Int32) := by simp [own_R, own_rs, hc17_5, hc17_8]
        exact own_retI X6 hx Bd.notSynchronized Bd.returns (hb hby d6_39) (by decide) (by decide) (by rw [e6]; exact ⟨by rw [hR], N_, K_, by rw [hR]; exact V_tx⟩)
      · refine own_by (T' := T6) (g' := (mkF m 23 #[.val (.ref tb), .val (.ref tx), .val (.int 0), .val (.int 2), .val (.int 1), .val (.int o1)] [])) (fun t k => XS.ifYes X6.here hx rfl (pc0 := 17) (pc' := 23) rfl (hb hby d6_17) rfl ((if0 _ _).trans (flt hc17_8).2.1) (by decide) (by decide) k) ?_
        refine own_by (T' := T6) (g' := (mkF m 24 #[.val (.ref tb), .val (.ref tx), .val (.int 0), .val (.int 2), .val (.int 1), .val (.int o1)] [(.ref tx)])) (fun t k => XS.aloadN X6.here hx rfl (hb hby d6_23) rfl rfl k) ?_
        refine own_by (T' := T6) (g' := (mkF m 26 #[.val (.ref tb), .val (.ref tx), .val (.int 0), .val (.int 2), .val (.int 1), .val (.int o1)] [(.int 1), (.ref tx)])) (fun t k => XS.iload X6.here hx rfl (hb hby d6_24) rfl k) ?_
        refine own_by (T' := T6) (g' := (mkF m 27 #[.val (.ref tb), .val (.ref tx), .val (.int 0), .val (.int 2), .val (.int 1), .val (.int o1)] [(.ref tb), (.int 1), (.ref tx)])) (fun t k => XS.aloadN X6.here hx rfl (hb hby d6_26) rfl rfl k) ?_
        refine own_by (T' := T6) (g' := (mkF m 29 #[.val (.ref tb), .val (.ref tx), .val (.int 0), .val (.int 2), .val (.int 1), .val (.int o1)] [(.int o1), (.ref tb), (.int 1), (.ref tx)])) (fun t k => XS.iload X6.here hx rfl (hb hby d6_27) rfl k) ?_
        refine own_by (T' := T6) (g' := (mkF m 30 #[.val (.ref tb), .val (.ref tx), .val (.int 0), .val (.int 2), .val (.int 1), .val (.int o1)] [(.int (atv ct o1)), (.int 1), (.ref tx)])) (fun t k => X6.baloadBytes hx (j := o1) (v := (.int (atv ct o1))) (by rw [e6]; exact A_tb.1) (State.isArrayOf_alike hZ.alike A_tb.2.1) A_tb.2.2 (own_inb hB hc17_8 hby1) (own_at hB hc17_8 hby1) (g := (mkF m 29 #[.val (.ref tb), .val (.ref tx), .val (.int 0), .val (.int 2), .val (.int 1), .val (.int o1)] [(.int o1), (.ref tb), (.int 1), (.ref tx)])) rfl rfl (hb hby d6_29) _ k) ?_
        obtain ⟨cl9, Ar9, q9, S9, N9, Hs9, G9⟩ := id V_tx
        have hin9 : ¬ ((1 : Int32) < 0 ∨ cl9.slots.size ≤ ((1 : Int32)).toNatClampNeg) := inb_of S9 ⟨by decide, by decide⟩
        obtain ⟨T9, h9, X9, e9, W9, st9⟩ := stB X6 hx hZ e6 Ar9 (j := (1 : Int32)) hin9 (g := (mkF m 30 #[.val (.ref tb), .val (.ref tx), .val (.int 0), .val (.int 2), .val (.int 1), .val (.int o1)] [(.int (atv ct o1)), (.int 1), (.ref tx)])) rfl rfl (hb hby d6_30)
        have V_tx_ : Arv Z h9 tx kt .byte (4 : Int32) [(.int (nar .byte (atv ct o0))), (.int (nar .byte (atv ct o1))), (.int o2), (.int o3)] (.int 0) := Arv.set Ar9 q9 S9 N9 Hs9 G9 (fits_nar_byte _) W9 1 rfl (Nat.le_of_ble_eq_true rfl)
        have A_tb := A_tb.other W9 ne_tb_tx
        have Zle := Nat.le_trans Zle (Keep.of_wr W9).1
        have K_ := K_.wr W9 (Or.inl (List.mem_of_getElem? (i := 0) rfl))
        have V_tx := V_tx_
        have N_ := Fr.snoc X9 N_ g_tx
        refine own_by (T' := T9) (g' := (mkF m 31 #[.val (.ref tb), .val (.ref tx), .val (.int 0), .val (.int 2), .val (.int 1), .val (.int o1)] [])) (fun t k => st9 t k) ?_
        refine own_by (T' := T9) (g' := (mkF m 34 #[.val (.ref tb), .val (.ref tx), .val (.int 0), .val (.int 2), .val (.int 2), .val (.int o1)] [])) (fun t k => XS.iinc X9.here hx rfl (hb hby d6_31) rfl (l' := #[.val (.ref tb), .val (.ref tx), .val (.int 0), .val (.int 2), .val (.int 2), .val (.int o1)]) rfl k) ?_
        refine own_by (T' := T9) (g' := (mkF m 3 #[.val (.ref tb), .val (.ref tx), .val (.int 0), .val (.int 2), .val (.int 2), .val (.int o1)] [])) (fun t k => XS.goto X9.here hx rfl (pc0 := 34) (pc' := 3) rfl (hb hby d6_34) (by decide) (by decide) k) ?_
        refine own_by (T' := T9) (g' := (mkF m 5 #[.val (.ref tb), .val (.ref tx), .val (.int 0), .val (.int 2), .val (.int 2), .val (.int o1)] [(.int 2)])) (fun t k => XS.iload X9.here hx rfl (hb hby d6_3) rfl k) ?_
        refine own_by (T' := T9) (g' := (mkF m 6 #[.val (.ref tb), .val (.ref tx), .val (.int 0), .val (.int 2), .val (.int 2), .val (.int o1)] [(.int 2), (.int 2)])) (fun t k => XS.iloadN X9.here hx rfl (hb hby d6_5) rfl k) ?_
        refine own_by (T' := T9) (g' := (mkF m 37 #[.val (.ref tb), .val (.ref tx), .val (.int 0), .val (.int 2), .val (.int 2), .val (.int o1)] [])) (fun t k => XS.icmpYes X9.here hx rfl (pc0 := 6) (pc' := 37) rfl (hb hby d6_6) rfl (flt (by decide)).2.1 (by decide) (by decide) k) ?_
        refine own_by (T' := T9) (g' := (mkF m 39 #[.val (.ref tb), .val (.ref tx), .val (.int 0), .val (.int 2), .val (.int 2), .val (.int o1)] [(.int 2)])) (fun t k => XS.iload X9.here hx rfl (hb hby d6_37) rfl k) ?_
        have hR : own_R (0 : Int32) (2 : Int32) o0 o1 o2 o3 = (2 : Int32) := by simp [own_R, own_rs, hc17_5, hc17_8]
        exact own_retI X9 hx Bd.notSynchronized Bd.returns (hb hby d6_39) (by decide) (by decide) (by rw [e9]; exact ⟨by rw [hR], N_, K_, by rw [hR]; exact V_tx⟩)
  · refine own_by (T' := s₁) (g' := (mkF m 1 #[.val (.ref tb), .val (.ref tx), .val (.int 0), .val (.int 3), .unset, .unset] [(.int 0)])) (fun t k => XS.iloadN X0.here hx rfl (hb hby d6_0) rfl k) ?_
    refine own_by (T' := s₁) (g' := (mkF m 3 #[.val (.ref tb), .val (.ref tx), .val (.int 0), .val (.int 3), .val (.int 0), .unset] [])) (fun t k => XS.istore X0.here hx rfl (hb hby d6_1) rfl (l' := #[.val (.ref tb), .val (.ref tx), .val (.int 0), .val (.int 3), .val (.int 0), .unset]) rfl k) ?_
    refine own_by (T' := s₁) (g' := (mkF m 5 #[.val (.ref tb), .val (.ref tx), .val (.int 0), .val (.int 3), .val (.int 0), .unset] [(.int 0)])) (fun t k => XS.iload X0.here hx rfl (hb hby d6_3) rfl k) ?_
    refine own_by (T' := s₁) (g' := (mkF m 6 #[.val (.ref tb), .val (.ref tx), .val (.int 0), .val (.int 3), .val (.int 0), .unset] [(.int 3), (.int 0)])) (fun t k => XS.iloadN X0.here hx rfl (hb hby d6_5) rfl k) ?_
    refine own_by (T' := s₁) (g' := (mkF m 9 #[.val (.ref tb), .val (.ref tx), .val (.int 0), .val (.int 3), .val (.int 0), .unset] [])) (fun t k => XS.icmpNo X0.here hx rfl (hb hby d6_6) rfl (tlt (by decide)).2.1 k) ?_
    refine own_by (T' := s₁) (g' := (mkF m 10 #[.val (.ref tb), .val (.ref tx), .val (.int 0), .val (.int 3), .val (.int 0), .unset] [(.ref tx)])) (fun t k => XS.aloadN X0.here hx rfl (hb hby d6_9) rfl rfl k) ?_
    refine own_by (T' := s₁) (g' := (mkF m 12 #[.val (.ref tb), .val (.ref tx), .val (.int 0), .val (.int 3), .val (.int 0), .unset] [(.int 0), (.ref tx)])) (fun t k => XS.iload X0.here hx rfl (hb hby d6_10) rfl k) ?_
    obtain ⟨cl10, Ar10, q10, S10, N10, Hs10, G10⟩ := id V_tx
    have hin10 : ¬ ((0 : Int32) < 0 ∨ cl10.slots.size ≤ ((0 : Int32)).toNatClampNeg) := inb_of S10 ⟨by decide, by decide⟩
    have hat10 : cl10.slots[((0 : Int32)).toNatClampNeg]? = some (.int o0) := Hs10.at hin10 rfl
    refine own_by (T' := s₁) (g' := (mkF m 13 #[.val (.ref tb), .val (.ref tx), .val (.int 0), .val (.int 3), .val (.int 0), .unset] [(.int o0)])) (fun t k => X0.baloadBytes hx (j := (0 : Int32)) (v := (.int o0)) (by rw [e0]; exact Ar10.1) (State.isArrayOf_alike hZ.alike Ar10.2.1) Ar10.2.2 hin10 hat10 (g := (mkF m 12 #[.val (.ref tb), .val (.ref tx), .val (.int 0), .val (.int 3), .val (.int 0), .unset] [(.int 0), (.ref tx)])) rfl rfl (hb hby d6_12) _ k) ?_
    refine own_by (T' := s₁) (g' := (mkF m 15 #[.val (.ref tb), .val (.ref tx), .val (.int 0), .val (.int 3), .val (.int 0), .val (.int o0)] [])) (fun t k => XS.istore X0.here hx rfl (hb hby d6_13) rfl (l' := #[.val (.ref tb), .val (.ref tx), .val (.int 0), .val (.int 3), .val (.int 0), .val (.int o0)]) rfl k) ?_
    refine own_by (T' := s₁) (g' := (mkF m 17 #[.val (.ref tb), .val (.ref tx), .val (.int 0), .val (.int 3), .val (.int 0), .val (.int o0)] [(.int o0)])) (fun t k => XS.iload X0.here hx rfl (hb hby d6_15) rfl k) ?_
    by_cases hc17_11 : o0 < (0 : Int32)
    · refine own_by (T' := s₁) (g' := (mkF m 20 #[.val (.ref tb), .val (.ref tx), .val (.int 0), .val (.int 3), .val (.int 0), .val (.int o0)] [])) (fun t k => XS.ifNo X0.here hx rfl (hb hby d6_17) rfl ((if0 _ _).trans (tlt hc17_11).2.1) k) ?_
      refine own_by (T' := s₁) (g' := (mkF m 37 #[.val (.ref tb), .val (.ref tx), .val (.int 0), .val (.int 3), .val (.int 0), .val (.int o0)] [])) (fun t k => XS.goto X0.here hx rfl (pc0 := 20) (pc' := 37) rfl (hb hby d6_20) (by decide) (by decide) k) ?_
      refine own_by (T' := s₁) (g' := (mkF m 39 #[.val (.ref tb), .val (.ref tx), .val (.int 0), .val (.int 3), .val (.int 0), .val (.int o0)] [(.int 0)])) (fun t k => XS.iload X0.here hx rfl (hb hby d6_37) rfl k) ?_
      have hR : own_R (0 : Int32) (3 : Int32) o0 o1 o2 o3 = (0 : Int32) := by simp [own_R, own_rs, hc17_11]
      exact own_retI X0 hx Bd.notSynchronized Bd.returns (hb hby d6_39) (by decide) (by decide) (by rw [e0]; exact ⟨by rw [hR], N_, K_, by rw [hR]; exact V_tx⟩)
    · refine own_by (T' := s₁) (g' := (mkF m 23 #[.val (.ref tb), .val (.ref tx), .val (.int 0), .val (.int 3), .val (.int 0), .val (.int o0)] [])) (fun t k => XS.ifYes X0.here hx rfl (pc0 := 17) (pc' := 23) rfl (hb hby d6_17) rfl ((if0 _ _).trans (flt hc17_11).2.1) (by decide) (by decide) k) ?_
      refine own_by (T' := s₁) (g' := (mkF m 24 #[.val (.ref tb), .val (.ref tx), .val (.int 0), .val (.int 3), .val (.int 0), .val (.int o0)] [(.ref tx)])) (fun t k => XS.aloadN X0.here hx rfl (hb hby d6_23) rfl rfl k) ?_
      refine own_by (T' := s₁) (g' := (mkF m 26 #[.val (.ref tb), .val (.ref tx), .val (.int 0), .val (.int 3), .val (.int 0), .val (.int o0)] [(.int 0), (.ref tx)])) (fun t k => XS.iload X0.here hx rfl (hb hby d6_24) rfl k) ?_
      refine own_by (T' := s₁) (g' := (mkF m 27 #[.val (.ref tb), .val (.ref tx), .val (.int 0), .val (.int 3), .val (.int 0), .val (.int o0)] [(.ref tb), (.int 0), (.ref tx)])) (fun t k => XS.aloadN X0.here hx rfl (hb hby d6_26) rfl rfl k) ?_
      refine own_by (T' := s₁) (g' := (mkF m 29 #[.val (.ref tb), .val (.ref tx), .val (.int 0), .val (.int 3), .val (.int 0), .val (.int o0)] [(.int o0), (.ref tb), (.int 0), (.ref tx)])) (fun t k => XS.iload X0.here hx rfl (hb hby d6_27) rfl k) ?_
      refine own_by (T' := s₁) (g' := (mkF m 30 #[.val (.ref tb), .val (.ref tx), .val (.int 0), .val (.int 3), .val (.int 0), .val (.int o0)] [(.int (atv ct o0)), (.int 0), (.ref tx)])) (fun t k => X0.baloadBytes hx (j := o0) (v := (.int (atv ct o0))) (by rw [e0]; exact A_tb.1) (State.isArrayOf_alike hZ.alike A_tb.2.1) A_tb.2.2 (own_inb hB hc17_11 hby0) (own_at hB hc17_11 hby0) (g := (mkF m 29 #[.val (.ref tb), .val (.ref tx), .val (.int 0), .val (.int 3), .val (.int 0), .val (.int o0)] [(.int o0), (.ref tb), (.int 0), (.ref tx)])) rfl rfl (hb hby d6_29) _ k) ?_
      obtain ⟨cl12, Ar12, q12, S12, N12, Hs12, G12⟩ := id V_tx
      have hin12 : ¬ ((0 : Int32) < 0 ∨ cl12.slots.size ≤ ((0 : Int32)).toNatClampNeg) := inb_of S12 ⟨by decide, by decide⟩
      obtain ⟨T12, h12, X12, e12, W12, st12⟩ := stB X0 hx hZ e0 Ar12 (j := (0 : Int32)) hin12 (g := (mkF m 30 #[.val (.ref tb), .val (.ref tx), .val (.int 0), .val (.int 3), .val (.int 0), .val (.int o0)] [(.int (atv ct o0)), (.int 0), (.ref tx)])) rfl rfl (hb hby d6_30)
      have V_tx_ : Arv Z h12 tx kt .byte (4 : Int32) [(.int (nar .byte (atv ct o0))), (.int o1), (.int o2), (.int o3)] (.int 0) := Arv.set Ar12 q12 S12 N12 Hs12 G12 (fits_nar_byte _) W12 0 rfl (Nat.le_of_ble_eq_true rfl)
      have A_tb := A_tb.other W12 ne_tb_tx
      have Zle := Nat.le_trans Zle (Keep.of_wr W12).1
      have K_ := K_.wr W12 (Or.inl (List.mem_of_getElem? (i := 0) rfl))
      have V_tx := V_tx_
      have N_ := Fr.snoc X12 N_ g_tx
      refine own_by (T' := T12) (g' := (mkF m 31 #[.val (.ref tb), .val (.ref tx), .val (.int 0), .val (.int 3), .val (.int 0), .val (.int o0)] [])) (fun t k => st12 t k) ?_
      refine own_by (T' := T12) (g' := (mkF m 34 #[.val (.ref tb), .val (.ref tx), .val (.int 0), .val (.int 3), .val (.int 1), .val (.int o0)] [])) (fun t k => XS.iinc X12.here hx rfl (hb hby d6_31) rfl (l' := #[.val (.ref tb), .val (.ref tx), .val (.int 0), .val (.int 3), .val (.int 1), .val (.int o0)]) rfl k) ?_
      refine own_by (T' := T12) (g' := (mkF m 3 #[.val (.ref tb), .val (.ref tx), .val (.int 0), .val (.int 3), .val (.int 1), .val (.int o0)] [])) (fun t k => XS.goto X12.here hx rfl (pc0 := 34) (pc' := 3) rfl (hb hby d6_34) (by decide) (by decide) k) ?_
      refine own_by (T' := T12) (g' := (mkF m 5 #[.val (.ref tb), .val (.ref tx), .val (.int 0), .val (.int 3), .val (.int 1), .val (.int o0)] [(.int 1)])) (fun t k => XS.iload X12.here hx rfl (hb hby d6_3) rfl k) ?_
      refine own_by (T' := T12) (g' := (mkF m 6 #[.val (.ref tb), .val (.ref tx), .val (.int 0), .val (.int 3), .val (.int 1), .val (.int o0)] [(.int 3), (.int 1)])) (fun t k => XS.iloadN X12.here hx rfl (hb hby d6_5) rfl k) ?_
      refine own_by (T' := T12) (g' := (mkF m 9 #[.val (.ref tb), .val (.ref tx), .val (.int 0), .val (.int 3), .val (.int 1), .val (.int o0)] [])) (fun t k => XS.icmpNo X12.here hx rfl (hb hby d6_6) rfl (tlt (by decide)).2.1 k) ?_
      refine own_by (T' := T12) (g' := (mkF m 10 #[.val (.ref tb), .val (.ref tx), .val (.int 0), .val (.int 3), .val (.int 1), .val (.int o0)] [(.ref tx)])) (fun t k => XS.aloadN X12.here hx rfl (hb hby d6_9) rfl rfl k) ?_
      refine own_by (T' := T12) (g' := (mkF m 12 #[.val (.ref tb), .val (.ref tx), .val (.int 0), .val (.int 3), .val (.int 1), .val (.int o0)] [(.int 1), (.ref tx)])) (fun t k => XS.iload X12.here hx rfl (hb hby d6_10) rfl k) ?_
      obtain ⟨cl13, Ar13, q13, S13, N13, Hs13, G13⟩ := id V_tx
      have hin13 : ¬ ((1 : Int32) < 0 ∨ cl13.slots.size ≤ ((1 : Int32)).toNatClampNeg) := inb_of S13 ⟨by decide, by decide⟩
      have hat13 : cl13.slots[((1 : Int32)).toNatClampNeg]? = some (.int o1) := Hs13.at hin13 rfl
      refine own_by (T' := T12) (g' := (mkF m 13 #[.val (.ref tb), .val (.ref tx), .val (.int 0), .val (.int 3), .val (.int 1), .val (.int o0)] [(.int o1)])) (fun t k => X12.baloadBytes hx (j := (1 : Int32)) (v := (.int o1)) (by rw [e12]; exact Ar13.1) (State.isArrayOf_alike hZ.alike Ar13.2.1) Ar13.2.2 hin13 hat13 (g := (mkF m 12 #[.val (.ref tb), .val (.ref tx), .val (.int 0), .val (.int 3), .val (.int 1), .val (.int o0)] [(.int 1), (.ref tx)])) rfl rfl (hb hby d6_12) _ k) ?_
      refine own_by (T' := T12) (g' := (mkF m 15 #[.val (.ref tb), .val (.ref tx), .val (.int 0), .val (.int 3), .val (.int 1), .val (.int o1)] [])) (fun t k => XS.istore X12.here hx rfl (hb hby d6_13) rfl (l' := #[.val (.ref tb), .val (.ref tx), .val (.int 0), .val (.int 3), .val (.int 1), .val (.int o1)]) rfl k) ?_
      refine own_by (T' := T12) (g' := (mkF m 17 #[.val (.ref tb), .val (.ref tx), .val (.int 0), .val (.int 3), .val (.int 1), .val (.int o1)] [(.int o1)])) (fun t k => XS.iload X12.here hx rfl (hb hby d6_15) rfl k) ?_
      by_cases hc17_14 : o1 < (0 : Int32)
      · refine own_by (T' := T12) (g' := (mkF m 20 #[.val (.ref tb), .val (.ref tx), .val (.int 0), .val (.int 3), .val (.int 1), .val (.int o1)] [])) (fun t k => XS.ifNo X12.here hx rfl (hb hby d6_17) rfl ((if0 _ _).trans (tlt hc17_14).2.1) k) ?_
        refine own_by (T' := T12) (g' := (mkF m 37 #[.val (.ref tb), .val (.ref tx), .val (.int 0), .val (.int 3), .val (.int 1), .val (.int o1)] [])) (fun t k => XS.goto X12.here hx rfl (pc0 := 20) (pc' := 37) rfl (hb hby d6_20) (by decide) (by decide) k) ?_
        refine own_by (T' := T12) (g' := (mkF m 39 #[.val (.ref tb), .val (.ref tx), .val (.int 0), .val (.int 3), .val (.int 1), .val (.int o1)] [(.int 1)])) (fun t k => XS.iload X12.here hx rfl (hb hby d6_37) rfl k) ?_
        have hR : own_R (0 : Int32) (3 : Int32) o0 o1 o2 o3 = (1 : Int32) := by simp [own_R, own_rs, hc17_11, hc17_14]
        exact own_retI X12 hx Bd.notSynchronized Bd.returns (hb hby d6_39) (by decide) (by decide) (by rw [e12]; exact ⟨by rw [hR], N_, K_, by rw [hR]; exact V_tx⟩)
      · refine own_by (T' := T12) (g' := (mkF m 23 #[.val (.ref tb), .val (.ref tx), .val (.int 0), .val (.int 3), .val (.int 1), .val (.int o1)] [])) (fun t k => XS.ifYes X12.here hx rfl (pc0 := 17) (pc' := 23) rfl (hb hby d6_17) rfl ((if0 _ _).trans (flt hc17_14).2.1) (by decide) (by decide) k) ?_
        refine own_by (T' := T12) (g' := (mkF m 24 #[.val (.ref tb), .val (.ref tx), .val (.int 0), .val (.int 3), .val (.int 1), .val (.int o1)] [(.ref tx)])) (fun t k => XS.aloadN X12.here hx rfl (hb hby d6_23) rfl rfl k) ?_
        refine own_by (T' := T12) (g' := (mkF m 26 #[.val (.ref tb), .val (.ref tx), .val (.int 0), .val (.int 3), .val (.int 1), .val (.int o1)] [(.int 1), (.ref tx)])) (fun t k => XS.iload X12.here hx rfl (hb hby d6_24) rfl k) ?_
        refine own_by (T' := T12) (g' := (mkF m 27 #[.val (.ref tb), .val (.ref tx), .val (.int 0), .val (.int 3), .val (.int 1), .val (.int o1)] [(.ref tb), (.int 1), (.ref tx)])) (fun t k => XS.aloadN X12.here hx rfl (hb hby d6_26) rfl rfl k) ?_
        refine own_by (T' := T12) (g' := (mkF m 29 #[.val (.ref tb), .val (.ref tx), .val (.int 0), .val (.int 3), .val (.int 1), .val (.int o1)] [(.int o1), (.ref tb), (.int 1), (.ref tx)])) (fun t k => XS.iload X12.here hx rfl (hb hby d6_27) rfl k) ?_
        refine own_by (T' := T12) (g' := (mkF m 30 #[.val (.ref tb), .val (.ref tx), .val (.int 0), .val (.int 3), .val (.int 1), .val (.int o1)] [(.int (atv ct o1)), (.int 1), (.ref tx)])) (fun t k => X12.baloadBytes hx (j := o1) (v := (.int (atv ct o1))) (by rw [e12]; exact A_tb.1) (State.isArrayOf_alike hZ.alike A_tb.2.1) A_tb.2.2 (own_inb hB hc17_14 hby1) (own_at hB hc17_14 hby1) (g := (mkF m 29 #[.val (.ref tb), .val (.ref tx), .val (.int 0), .val (.int 3), .val (.int 1), .val (.int o1)] [(.int o1), (.ref tb), (.int 1), (.ref tx)])) rfl rfl (hb hby d6_29) _ k) ?_
        obtain ⟨cl15, Ar15, q15, S15, N15, Hs15, G15⟩ := id V_tx
        have hin15 : ¬ ((1 : Int32) < 0 ∨ cl15.slots.size ≤ ((1 : Int32)).toNatClampNeg) := inb_of S15 ⟨by decide, by decide⟩
        obtain ⟨T15, h15, X15, e15, W15, st15⟩ := stB X12 hx hZ e12 Ar15 (j := (1 : Int32)) hin15 (g := (mkF m 30 #[.val (.ref tb), .val (.ref tx), .val (.int 0), .val (.int 3), .val (.int 1), .val (.int o1)] [(.int (atv ct o1)), (.int 1), (.ref tx)])) rfl rfl (hb hby d6_30)
        have V_tx_ : Arv Z h15 tx kt .byte (4 : Int32) [(.int (nar .byte (atv ct o0))), (.int (nar .byte (atv ct o1))), (.int o2), (.int o3)] (.int 0) := Arv.set Ar15 q15 S15 N15 Hs15 G15 (fits_nar_byte _) W15 1 rfl (Nat.le_of_ble_eq_true rfl)
        have A_tb := A_tb.other W15 ne_tb_tx
        have Zle := Nat.le_trans Zle (Keep.of_wr W15).1
        have K_ := K_.wr W15 (Or.inl (List.mem_of_getElem? (i := 0) rfl))
        have V_tx := V_tx_
        have N_ := Fr.snoc X15 N_ g_tx
        refine own_by (T' := T15) (g' := (mkF m 31 #[.val (.ref tb), .val (.ref tx), .val (.int 0), .val (.int 3), .val (.int 1), .val (.int o1)] [])) (fun t k => st15 t k) ?_
        refine own_by (T' := T15) (g' := (mkF m 34 #[.val (.ref tb), .val (.ref tx), .val (.int 0), .val (.int 3), .val (.int 2), .val (.int o1)] [])) (fun t k => XS.iinc X15.here hx rfl (hb hby d6_31) rfl (l' := #[.val (.ref tb), .val (.ref tx), .val (.int 0), .val (.int 3), .val (.int 2), .val (.int o1)]) rfl k) ?_
        refine own_by (T' := T15) (g' := (mkF m 3 #[.val (.ref tb), .val (.ref tx), .val (.int 0), .val (.int 3), .val (.int 2), .val (.int o1)] [])) (fun t k => XS.goto X15.here hx rfl (pc0 := 34) (pc' := 3) rfl (hb hby d6_34) (by decide) (by decide) k) ?_
        refine own_by (T' := T15) (g' := (mkF m 5 #[.val (.ref tb), .val (.ref tx), .val (.int 0), .val (.int 3), .val (.int 2), .val (.int o1)] [(.int 2)])) (fun t k => XS.iload X15.here hx rfl (hb hby d6_3) rfl k) ?_
        refine own_by (T' := T15) (g' := (mkF m 6 #[.val (.ref tb), .val (.ref tx), .val (.int 0), .val (.int 3), .val (.int 2), .val (.int o1)] [(.int 3), (.int 2)])) (fun t k => XS.iloadN X15.here hx rfl (hb hby d6_5) rfl k) ?_
        refine own_by (T' := T15) (g' := (mkF m 9 #[.val (.ref tb), .val (.ref tx), .val (.int 0), .val (.int 3), .val (.int 2), .val (.int o1)] [])) (fun t k => XS.icmpNo X15.here hx rfl (hb hby d6_6) rfl (tlt (by decide)).2.1 k) ?_
        refine own_by (T' := T15) (g' := (mkF m 10 #[.val (.ref tb), .val (.ref tx), .val (.int 0), .val (.int 3), .val (.int 2), .val (.int o1)] [(.ref tx)])) (fun t k => XS.aloadN X15.here hx rfl (hb hby d6_9) rfl rfl k) ?_
        refine own_by (T' := T15) (g' := (mkF m 12 #[.val (.ref tb), .val (.ref tx), .val (.int 0), .val (.int 3), .val (.int 2), .val (.int o1)] [(.int 2), (.ref tx)])) (fun t k => XS.iload X15.here hx rfl (hb hby d6_10) rfl k) ?_
        obtain ⟨cl16, Ar16, q16, S16, N16, Hs16, G16⟩ := id V_tx
        have hin16 : ¬ ((2 : Int32) < 0 ∨ cl16.slots.size ≤ ((2 : Int32)).toNatClampNeg) := inb_of S16 ⟨by decide, by decide⟩
        have hat16 : cl16.slots[((2 : Int32)).toNatClampNeg]? = some (.int o2) := Hs16.at hin16 rfl
        refine own_by (T' := T15) (g' := (mkF m 13 #[.val (.ref tb), .val (.ref tx), .val (.int 0), .val (.int 3), .val (.int 2), .val (.int o1)] [(.int o2)])) (fun t k => X15.baloadBytes hx (j := (2 : Int32)) (v := (.int o2)) (by rw [e15]; exact Ar16.1) (State.isArrayOf_alike hZ.alike Ar16.2.1) Ar16.2.2 hin16 hat16 (g := (mkF m 12 #[.val (.ref tb), .val (.ref tx), .val (.int 0), .val (.int 3), .val (.int 2), .val (.int o1)] [(.int 2), (.ref tx)])) rfl rfl (hb hby d6_12) _ k) ?_
        refine own_by (T' := T15) (g' := (mkF m 15 #[.val (.ref tb), .val (.ref tx), .val (.int 0), .val (.int 3), .val (.int 2), .val (.int o2)] [])) (fun t k => XS.istore X15.here hx rfl (hb hby d6_13) rfl (l' := #[.val (.ref tb), .val (.ref tx), .val (.int 0), .val (.int 3), .val (.int 2), .val (.int o2)]) rfl k) ?_
        refine own_by (T' := T15) (g' := (mkF m 17 #[.val (.ref tb), .val (.ref tx), .val (.int 0), .val (.int 3), .val (.int 2), .val (.int o2)] [(.int o2)])) (fun t k => XS.iload X15.here hx rfl (hb hby d6_15) rfl k) ?_
        by_cases hc17_17 : o2 < (0 : Int32)
        · refine own_by (T' := T15) (g' := (mkF m 20 #[.val (.ref tb), .val (.ref tx), .val (.int 0), .val (.int 3), .val (.int 2), .val (.int o2)] [])) (fun t k => XS.ifNo X15.here hx rfl (hb hby d6_17) rfl ((if0 _ _).trans (tlt hc17_17).2.1) k) ?_
          refine own_by (T' := T15) (g' := (mkF m 37 #[.val (.ref tb), .val (.ref tx), .val (.int 0), .val (.int 3), .val (.int 2), .val (.int o2)] [])) (fun t k => XS.goto X15.here hx rfl (pc0 := 20) (pc' := 37) rfl (hb hby d6_20) (by decide) (by decide) k) ?_
          refine own_by (T' := T15) (g' := (mkF m 39 #[.val (.ref tb), .val (.ref tx), .val (.int 0), .val (.int 3), .val (.int 2), .val (.int o2)] [(.int 2)])) (fun t k => XS.iload X15.here hx rfl (hb hby d6_37) rfl k) ?_
          have hR : own_R (0 : Int32) (3 : Int32) o0 o1 o2 o3 = (2 : Int32) := by simp [own_R, own_rs, hc17_11, hc17_14, hc17_17]
          exact own_retI X15 hx Bd.notSynchronized Bd.returns (hb hby d6_39) (by decide) (by decide) (by rw [e15]; exact ⟨by rw [hR], N_, K_, by rw [hR]; exact V_tx⟩)
        · refine own_by (T' := T15) (g' := (mkF m 23 #[.val (.ref tb), .val (.ref tx), .val (.int 0), .val (.int 3), .val (.int 2), .val (.int o2)] [])) (fun t k => XS.ifYes X15.here hx rfl (pc0 := 17) (pc' := 23) rfl (hb hby d6_17) rfl ((if0 _ _).trans (flt hc17_17).2.1) (by decide) (by decide) k) ?_
          refine own_by (T' := T15) (g' := (mkF m 24 #[.val (.ref tb), .val (.ref tx), .val (.int 0), .val (.int 3), .val (.int 2), .val (.int o2)] [(.ref tx)])) (fun t k => XS.aloadN X15.here hx rfl (hb hby d6_23) rfl rfl k) ?_
          refine own_by (T' := T15) (g' := (mkF m 26 #[.val (.ref tb), .val (.ref tx), .val (.int 0), .val (.int 3), .val (.int 2), .val (.int o2)] [(.int 2), (.ref tx)])) (fun t k => XS.iload X15.here hx rfl (hb hby d6_24) rfl k) ?_
          refine own_by (T' := T15) (g' := (mkF m 27 #[.val (.ref tb), .val (.ref tx), .val (.int 0), .val (.int 3), .val (.int 2), .val (.int o2)] [(.ref tb), (.int 2), (.ref tx)])) (fun t k => XS.aloadN X15.here hx rfl (hb hby d6_26) rfl rfl k) ?_
          refine own_by (T' := T15) (g' := (mkF m 29 #[.val (.ref tb), .val (.ref tx), .val (.int 0), .val (.int 3), .val (.int 2), .val (.int o2)] [(.int o2), (.ref tb), (.int 2), (.ref tx)])) (fun t k => XS.iload X15.here hx rfl (hb hby d6_27) rfl k) ?_
          refine own_by (T' := T15) (g' := (mkF m 30 #[.val (.ref tb), .val (.ref tx), .val (.int 0), .val (.int 3), .val (.int 2), .val (.int o2)] [(.int (atv ct o2)), (.int 2), (.ref tx)])) (fun t k => X15.baloadBytes hx (j := o2) (v := (.int (atv ct o2))) (by rw [e15]; exact A_tb.1) (State.isArrayOf_alike hZ.alike A_tb.2.1) A_tb.2.2 (own_inb hB hc17_17 hby2) (own_at hB hc17_17 hby2) (g := (mkF m 29 #[.val (.ref tb), .val (.ref tx), .val (.int 0), .val (.int 3), .val (.int 2), .val (.int o2)] [(.int o2), (.ref tb), (.int 2), (.ref tx)])) rfl rfl (hb hby d6_29) _ k) ?_
          obtain ⟨cl18, Ar18, q18, S18, N18, Hs18, G18⟩ := id V_tx
          have hin18 : ¬ ((2 : Int32) < 0 ∨ cl18.slots.size ≤ ((2 : Int32)).toNatClampNeg) := inb_of S18 ⟨by decide, by decide⟩
          obtain ⟨T18, h18, X18, e18, W18, st18⟩ := stB X15 hx hZ e15 Ar18 (j := (2 : Int32)) hin18 (g := (mkF m 30 #[.val (.ref tb), .val (.ref tx), .val (.int 0), .val (.int 3), .val (.int 2), .val (.int o2)] [(.int (atv ct o2)), (.int 2), (.ref tx)])) rfl rfl (hb hby d6_30)
          have V_tx_ : Arv Z h18 tx kt .byte (4 : Int32) [(.int (nar .byte (atv ct o0))), (.int (nar .byte (atv ct o1))), (.int (nar .byte (atv ct o2))), (.int o3)] (.int 0) := Arv.set Ar18 q18 S18 N18 Hs18 G18 (fits_nar_byte _) W18 2 rfl (Nat.le_of_ble_eq_true rfl)
          have A_tb := A_tb.other W18 ne_tb_tx
          have Zle := Nat.le_trans Zle (Keep.of_wr W18).1
          have K_ := K_.wr W18 (Or.inl (List.mem_of_getElem? (i := 0) rfl))
          have V_tx := V_tx_
          have N_ := Fr.snoc X18 N_ g_tx
          refine own_by (T' := T18) (g' := (mkF m 31 #[.val (.ref tb), .val (.ref tx), .val (.int 0), .val (.int 3), .val (.int 2), .val (.int o2)] [])) (fun t k => st18 t k) ?_
          refine own_by (T' := T18) (g' := (mkF m 34 #[.val (.ref tb), .val (.ref tx), .val (.int 0), .val (.int 3), .val (.int 3), .val (.int o2)] [])) (fun t k => XS.iinc X18.here hx rfl (hb hby d6_31) rfl (l' := #[.val (.ref tb), .val (.ref tx), .val (.int 0), .val (.int 3), .val (.int 3), .val (.int o2)]) rfl k) ?_
          refine own_by (T' := T18) (g' := (mkF m 3 #[.val (.ref tb), .val (.ref tx), .val (.int 0), .val (.int 3), .val (.int 3), .val (.int o2)] [])) (fun t k => XS.goto X18.here hx rfl (pc0 := 34) (pc' := 3) rfl (hb hby d6_34) (by decide) (by decide) k) ?_
          refine own_by (T' := T18) (g' := (mkF m 5 #[.val (.ref tb), .val (.ref tx), .val (.int 0), .val (.int 3), .val (.int 3), .val (.int o2)] [(.int 3)])) (fun t k => XS.iload X18.here hx rfl (hb hby d6_3) rfl k) ?_
          refine own_by (T' := T18) (g' := (mkF m 6 #[.val (.ref tb), .val (.ref tx), .val (.int 0), .val (.int 3), .val (.int 3), .val (.int o2)] [(.int 3), (.int 3)])) (fun t k => XS.iloadN X18.here hx rfl (hb hby d6_5) rfl k) ?_
          refine own_by (T' := T18) (g' := (mkF m 37 #[.val (.ref tb), .val (.ref tx), .val (.int 0), .val (.int 3), .val (.int 3), .val (.int o2)] [])) (fun t k => XS.icmpYes X18.here hx rfl (pc0 := 6) (pc' := 37) rfl (hb hby d6_6) rfl (flt (by decide)).2.1 (by decide) (by decide) k) ?_
          refine own_by (T' := T18) (g' := (mkF m 39 #[.val (.ref tb), .val (.ref tx), .val (.int 0), .val (.int 3), .val (.int 3), .val (.int o2)] [(.int 3)])) (fun t k => XS.iload X18.here hx rfl (hb hby d6_37) rfl k) ?_
          have hR : own_R (0 : Int32) (3 : Int32) o0 o1 o2 o3 = (3 : Int32) := by simp [own_R, own_rs, hc17_11, hc17_14, hc17_17]
          exact own_retI X18 hx Bd.notSynchronized Bd.returns (hb hby d6_39) (by decide) (by decide) (by rw [e18]; exact ⟨by rw [hR], N_, K_, by rw [hR]; exact V_tx⟩)
  · refine own_by (T' := s₁) (g' := (mkF m 1 #[.val (.ref tb), .val (.ref tx), .val (.int 0), .val (.int 4), .unset, .unset] [(.int 0)])) (fun t k => XS.iloadN X0.here hx rfl (hb hby d6_0) rfl k) ?_
    refine own_by (T' := s₁) (g' := (mkF m 3 #[.val (.ref tb), .val (.ref tx), .val (.int 0), .val (.int 4), .val (.int 0), .unset] [])) (fun t k => XS.istore X0.here hx rfl (hb hby d6_1) rfl (l' := #[.val (.ref tb), .val (.ref tx), .val (.int 0), .val (.int 4), .val (.int 0), .unset]) rfl k) ?_
    refine own_by (T' := s₁) (g' := (mkF m 5 #[.val (.ref tb), .val (.ref tx), .val (.int 0), .val (.int 4), .val (.int 0), .unset] [(.int 0)])) (fun t k => XS.iload X0.here hx rfl (hb hby d6_3) rfl k) ?_
    refine own_by (T' := s₁) (g' := (mkF m 6 #[.val (.ref tb), .val (.ref tx), .val (.int 0), .val (.int 4), .val (.int 0), .unset] [(.int 4), (.int 0)])) (fun t k => XS.iloadN X0.here hx rfl (hb hby d6_5) rfl k) ?_
    refine own_by (T' := s₁) (g' := (mkF m 9 #[.val (.ref tb), .val (.ref tx), .val (.int 0), .val (.int 4), .val (.int 0), .unset] [])) (fun t k => XS.icmpNo X0.here hx rfl (hb hby d6_6) rfl (tlt (by decide)).2.1 k) ?_
    refine own_by (T' := s₁) (g' := (mkF m 10 #[.val (.ref tb), .val (.ref tx), .val (.int 0), .val (.int 4), .val (.int 0), .unset] [(.ref tx)])) (fun t k => XS.aloadN X0.here hx rfl (hb hby d6_9) rfl rfl k) ?_
    refine own_by (T' := s₁) (g' := (mkF m 12 #[.val (.ref tb), .val (.ref tx), .val (.int 0), .val (.int 4), .val (.int 0), .unset] [(.int 0), (.ref tx)])) (fun t k => XS.iload X0.here hx rfl (hb hby d6_10) rfl k) ?_
    obtain ⟨cl19, Ar19, q19, S19, N19, Hs19, G19⟩ := id V_tx
    have hin19 : ¬ ((0 : Int32) < 0 ∨ cl19.slots.size ≤ ((0 : Int32)).toNatClampNeg) := inb_of S19 ⟨by decide, by decide⟩
    have hat19 : cl19.slots[((0 : Int32)).toNatClampNeg]? = some (.int o0) := Hs19.at hin19 rfl
    refine own_by (T' := s₁) (g' := (mkF m 13 #[.val (.ref tb), .val (.ref tx), .val (.int 0), .val (.int 4), .val (.int 0), .unset] [(.int o0)])) (fun t k => X0.baloadBytes hx (j := (0 : Int32)) (v := (.int o0)) (by rw [e0]; exact Ar19.1) (State.isArrayOf_alike hZ.alike Ar19.2.1) Ar19.2.2 hin19 hat19 (g := (mkF m 12 #[.val (.ref tb), .val (.ref tx), .val (.int 0), .val (.int 4), .val (.int 0), .unset] [(.int 0), (.ref tx)])) rfl rfl (hb hby d6_12) _ k) ?_
    refine own_by (T' := s₁) (g' := (mkF m 15 #[.val (.ref tb), .val (.ref tx), .val (.int 0), .val (.int 4), .val (.int 0), .val (.int o0)] [])) (fun t k => XS.istore X0.here hx rfl (hb hby d6_13) rfl (l' := #[.val (.ref tb), .val (.ref tx), .val (.int 0), .val (.int 4), .val (.int 0), .val (.int o0)]) rfl k) ?_
    refine own_by (T' := s₁) (g' := (mkF m 17 #[.val (.ref tb), .val (.ref tx), .val (.int 0), .val (.int 4), .val (.int 0), .val (.int o0)] [(.int o0)])) (fun t k => XS.iload X0.here hx rfl (hb hby d6_15) rfl k) ?_
    by_cases hc17_20 : o0 < (0 : Int32)
    · refine own_by (T' := s₁) (g' := (mkF m 20 #[.val (.ref tb), .val (.ref tx), .val (.int 0), .val (.int 4), .val (.int 0), .val (.int o0)] [])) (fun t k => XS.ifNo X0.here hx rfl (hb hby d6_17) rfl ((if0 _ _).trans (tlt hc17_20).2.1) k) ?_
      refine own_by (T' := s₁) (g' := (mkF m 37 #[.val (.ref tb), .val (.ref tx), .val (.int 0), .val (.int 4), .val (.int 0), .val (.int o0)] [])) (fun t k => XS.goto X0.here hx rfl (pc0 := 20) (pc' := 37) rfl (hb hby d6_20) (by decide) (by decide) k) ?_
      refine own_by (T' := s₁) (g' := (mkF m 39 #[.val (.ref tb), .val (.ref tx), .val (.int 0), .val (.int 4), .val (.int 0), .val (.int o0)] [(.int 0)])) (fun t k => XS.iload X0.here hx rfl (hb hby d6_37) rfl k) ?_
      have hR : own_R (0 : Int32) (4 : Int32) o0 o1 o2 o3 = (0 : Int32) := by simp [own_R, own_rs, hc17_20]
      exact own_retI X0 hx Bd.notSynchronized Bd.returns (hb hby d6_39) (by decide) (by decide) (by rw [e0]; exact ⟨by rw [hR], N_, K_, by rw [hR]; exact V_tx⟩)
    · refine own_by (T' := s₁) (g' := (mkF m 23 #[.val (.ref tb), .val (.ref tx), .val (.int 0), .val (.int 4), .val (.int 0), .val (.int o0)] [])) (fun t k => XS.ifYes X0.here hx rfl (pc0 := 17) (pc' := 23) rfl (hb hby d6_17) rfl ((if0 _ _).trans (flt hc17_20).2.1) (by decide) (by decide) k) ?_
      refine own_by (T' := s₁) (g' := (mkF m 24 #[.val (.ref tb), .val (.ref tx), .val (.int 0), .val (.int 4), .val (.int 0), .val (.int o0)] [(.ref tx)])) (fun t k => XS.aloadN X0.here hx rfl (hb hby d6_23) rfl rfl k) ?_
      refine own_by (T' := s₁) (g' := (mkF m 26 #[.val (.ref tb), .val (.ref tx), .val (.int 0), .val (.int 4), .val (.int 0), .val (.int o0)] [(.int 0), (.ref tx)])) (fun t k => XS.iload X0.here hx rfl (hb hby d6_24) rfl k) ?_
      refine own_by (T' := s₁) (g' := (mkF m 27 #[.val (.ref tb), .val (.ref tx), .val (.int 0), .val (.int 4), .val (.int 0), .val (.int o0)] [(.ref tb), (.int 0), (.ref tx)])) (fun t k => XS.aloadN X0.here hx rfl (hb hby d6_26) rfl rfl k) ?_
      refine own_by (T' := s₁) (g' := (mkF m 29 #[.val (.ref tb), .val (.ref tx), .val (.int 0), .val (.int 4), .val (.int 0), .val (.int o0)] [(.int o0), (.ref tb), (.int 0), (.ref tx)])) (fun t k => XS.iload X0.here hx rfl (hb hby d6_27) rfl k) ?_
      refine own_by (T' := s₁) (g' := (mkF m 30 #[.val (.ref tb), .val (.ref tx), .val (.int 0), .val (.int 4), .val (.int 0), .val (.int o0)] [(.int (atv ct o0)), (.int 0), (.ref tx)])) (fun t k => X0.baloadBytes hx (j := o0) (v := (.int (atv ct o0))) (by rw [e0]; exact A_tb.1) (State.isArrayOf_alike hZ.alike A_tb.2.1) A_tb.2.2 (own_inb hB hc17_20 hby0) (own_at hB hc17_20 hby0) (g := (mkF m 29 #[.val (.ref tb), .val (.ref tx), .val (.int 0), .val (.int 4), .val (.int 0), .val (.int o0)] [(.int o0), (.ref tb), (.int 0), (.ref tx)])) rfl rfl (hb hby d6_29) _ k) ?_
      obtain ⟨cl21, Ar21, q21, S21, N21, Hs21, G21⟩ := id V_tx
      have hin21 : ¬ ((0 : Int32) < 0 ∨ cl21.slots.size ≤ ((0 : Int32)).toNatClampNeg) := inb_of S21 ⟨by decide, by decide⟩
      obtain ⟨T21, h21, X21, e21, W21, st21⟩ := stB X0 hx hZ e0 Ar21 (j := (0 : Int32)) hin21 (g := (mkF m 30 #[.val (.ref tb), .val (.ref tx), .val (.int 0), .val (.int 4), .val (.int 0), .val (.int o0)] [(.int (atv ct o0)), (.int 0), (.ref tx)])) rfl rfl (hb hby d6_30)
      have V_tx_ : Arv Z h21 tx kt .byte (4 : Int32) [(.int (nar .byte (atv ct o0))), (.int o1), (.int o2), (.int o3)] (.int 0) := Arv.set Ar21 q21 S21 N21 Hs21 G21 (fits_nar_byte _) W21 0 rfl (Nat.le_of_ble_eq_true rfl)
      have A_tb := A_tb.other W21 ne_tb_tx
      have Zle := Nat.le_trans Zle (Keep.of_wr W21).1
      have K_ := K_.wr W21 (Or.inl (List.mem_of_getElem? (i := 0) rfl))
      have V_tx := V_tx_
      have N_ := Fr.snoc X21 N_ g_tx
      refine own_by (T' := T21) (g' := (mkF m 31 #[.val (.ref tb), .val (.ref tx), .val (.int 0), .val (.int 4), .val (.int 0), .val (.int o0)] [])) (fun t k => st21 t k) ?_
      refine own_by (T' := T21) (g' := (mkF m 34 #[.val (.ref tb), .val (.ref tx), .val (.int 0), .val (.int 4), .val (.int 1), .val (.int o0)] [])) (fun t k => XS.iinc X21.here hx rfl (hb hby d6_31) rfl (l' := #[.val (.ref tb), .val (.ref tx), .val (.int 0), .val (.int 4), .val (.int 1), .val (.int o0)]) rfl k) ?_
      refine own_by (T' := T21) (g' := (mkF m 3 #[.val (.ref tb), .val (.ref tx), .val (.int 0), .val (.int 4), .val (.int 1), .val (.int o0)] [])) (fun t k => XS.goto X21.here hx rfl (pc0 := 34) (pc' := 3) rfl (hb hby d6_34) (by decide) (by decide) k) ?_
      refine own_by (T' := T21) (g' := (mkF m 5 #[.val (.ref tb), .val (.ref tx), .val (.int 0), .val (.int 4), .val (.int 1), .val (.int o0)] [(.int 1)])) (fun t k => XS.iload X21.here hx rfl (hb hby d6_3) rfl k) ?_
      refine own_by (T' := T21) (g' := (mkF m 6 #[.val (.ref tb), .val (.ref tx), .val (.int 0), .val (.int 4), .val (.int 1), .val (.int o0)] [(.int 4), (.int 1)])) (fun t k => XS.iloadN X21.here hx rfl (hb hby d6_5) rfl k) ?_
      refine own_by (T' := T21) (g' := (mkF m 9 #[.val (.ref tb), .val (.ref tx), .val (.int 0), .val (.int 4), .val (.int 1), .val (.int o0)] [])) (fun t k => XS.icmpNo X21.here hx rfl (hb hby d6_6) rfl (tlt (by decide)).2.1 k) ?_
      refine own_by (T' := T21) (g' := (mkF m 10 #[.val (.ref tb), .val (.ref tx), .val (.int 0), .val (.int 4), .val (.int 1), .val (.int o0)] [(.ref tx)])) (fun t k => XS.aloadN X21.here hx rfl (hb hby d6_9) rfl rfl k) ?_
      refine own_by (T' := T21) (g' := (mkF m 12 #[.val (.ref tb), .val (.ref tx), .val (.int 0), .val (.int 4), .val (.int 1), .val (.int o0)] [(.int 1), (.ref tx)])) (fun t k => XS.iload X21.here hx rfl (hb hby d6_10) rfl k) ?_
      obtain ⟨cl22, Ar22, q22, S22, N22, Hs22, G22⟩ := id V_tx
      have hin22 : ¬ ((1 : Int32) < 0 ∨ cl22.slots.size ≤ ((1 : Int32)).toNatClampNeg) := inb_of S22 ⟨by decide, by decide⟩
      have hat22 : cl22.slots[((1 : Int32)).toNatClampNeg]? = some (.int o1) := Hs22.at hin22 rfl
      refine own_by (T' := T21) (g' := (mkF m 13 #[.val (.ref tb), .val (.ref tx), .val (.int 0), .val (.int 4), .val (.int 1), .val (.int o0)] [(.int o1)])) (fun t k => X21.baloadBytes hx (j := (1 : Int32)) (v := (.int o1)) (by rw [e21]; exact Ar22.1) (State.isArrayOf_alike hZ.alike Ar22.2.1) Ar22.2.2 hin22 hat22 (g := (mkF m 12 #[.val (.ref tb), .val (.ref tx), .val (.int 0), .val (.int 4), .val (.int 1), .val (.int o0)] [(.int 1), (.ref tx)])) rfl rfl (hb hby d6_12) _ k) ?_
      refine own_by (T' := T21) (g' := (mkF m 15 #[.val (.ref tb), .val (.ref tx), .val (.int 0), .val (.int 4), .val (.int 1), .val (.int o1)] [])) (fun t k => XS.istore X21.here hx rfl (hb hby d6_13) rfl (l' := #[.val (.ref tb), .val (.ref tx), .val (.int 0), .val (.int 4), .val (.int 1), .val (.int o1)]) rfl k) ?_
      refine own_by (T' := T21) (g' := (mkF m 17 #[.val (.ref tb), .val (.ref tx), .val (.int 0), .val (.int 4), .val (.int 1), .val (.int o1)] [(.int o1)])) (fun t k => XS.iload X21.here hx rfl (hb hby d6_15) rfl k) ?_
      by_cases hc17_23 : o1 < (0 : Int32)
      · refine own_by (T' := T21) (g' := (mkF m 20 #[.val (.ref tb), .val (.ref tx), .val (.int 0), .val (.int 4), .val (.int 1), .val (.int o1)] [])) (fun t k => XS.ifNo X21.here hx rfl (hb hby d6_17) rfl ((if0 _ _).trans (tlt hc17_23).2.1) k) ?_
        refine own_by (T' := T21) (g' := (mkF m 37 #[.val (.ref tb), .val (.ref tx), .val (.int 0), .val (.int 4), .val (.int 1), .val (.int o1)] [])) (fun t k => XS.goto X21.here hx rfl (pc0 := 20) (pc' := 37) rfl (hb hby d6_20) (by decide) (by decide) k) ?_
        refine own_by (T' := T21) (g' := (mkF m 39 #[.val (.ref tb), .val (.ref tx), .val (.int 0), .val (.int 4), .val (.int 1), .val (.int o1)] [(.int 1)])) (fun t k => XS.iload X21.here hx rfl (hb hby d6_37) rfl k) ?_
        have hR : own_R (0 : Int32) (4 : Int32) o0 o1 o2 o3 = (1 : Int32) := by simp [own_R, own_rs, hc17_20, hc17_23]
        exact own_retI X21 hx Bd.notSynchronized Bd.returns (hb hby d6_39) (by decide) (by decide) (by rw [e21]; exact ⟨by rw [hR], N_, K_, by rw [hR]; exact V_tx⟩)
      · refine own_by (T' := T21) (g' := (mkF m 23 #[.val (.ref tb), .val (.ref tx), .val (.int 0), .val (.int 4), .val (.int 1), .val (.int o1)] [])) (fun t k => XS.ifYes X21.here hx rfl (pc0 := 17) (pc' := 23) rfl (hb hby d6_17) rfl ((if0 _ _).trans (flt hc17_23).2.1) (by decide) (by decide) k) ?_
        refine own_by (T' := T21) (g' := (mkF m 24 #[.val (.ref tb), .val (.ref tx), .val (.int 0), .val (.int 4), .val (.int 1), .val (.int o1)] [(.ref tx)])) (fun t k => XS.aloadN X21.here hx rfl (hb hby d6_23) rfl rfl k) ?_
        refine own_by (T' := T21) (g' := (mkF m 26 #[.val (.ref tb), .val (.ref tx), .val (.int 0), .val (.int 4), .val (.int 1), .val (.int o1)] [(.int 1), (.ref tx)])) (fun t k => XS.iload X21.here hx rfl (hb hby d6_24) rfl k) ?_
        refine own_by (T' := T21) (g' := (mkF m 27 #[.val (.ref tb), .val (.ref tx), .val (.int 0), .val (.int 4), .val (.int 1), .val (.int o1)] [(.ref tb), (.int 1), (.ref tx)])) (fun t k => XS.aloadN X21.here hx rfl (hb hby d6_26) rfl rfl k) ?_
        refine own_by (T' := T21) (g' := (mkF m 29 #[.val (.ref tb), .val (.ref tx), .val (.int 0), .val (.int 4), .val (.int 1), .val (.int o1)] [(.int o1), (.ref tb), (.int 1), (.ref tx)])) (fun t k => XS.iload X21.here hx rfl (hb hby d6_27) rfl k) ?_
        refine own_by (T' := T21) (g' := (mkF m 30 #[.val (.ref tb), .val (.ref tx), .val (.int 0), .val (.int 4), .val (.int 1), .val (.int o1)] [(.int (atv ct o1)), (.int 1), (.ref tx)])) (fun t k => X21.baloadBytes hx (j := o1) (v := (.int (atv ct o1))) (by rw [e21]; exact A_tb.1) (State.isArrayOf_alike hZ.alike A_tb.2.1) A_tb.2.2 (own_inb hB hc17_23 hby1) (own_at hB hc17_23 hby1) (g := (mkF m 29 #[.val (.ref tb), .val (.ref tx), .val (.int 0), .val (.int 4), .val (.int 1), .val (.int o1)] [(.int o1), (.ref tb), (.int 1), (.ref tx)])) rfl rfl (hb hby d6_29) _ k) ?_
        obtain ⟨cl24, Ar24, q24, S24, N24, Hs24, G24⟩ := id V_tx
        have hin24 : ¬ ((1 : Int32) < 0 ∨ cl24.slots.size ≤ ((1 : Int32)).toNatClampNeg) := inb_of S24 ⟨by decide, by decide⟩
        obtain ⟨T24, h24, X24, e24, W24, st24⟩ := stB X21 hx hZ e21 Ar24 (j := (1 : Int32)) hin24 (g := (mkF m 30 #[.val (.ref tb), .val (.ref tx), .val (.int 0), .val (.int 4), .val (.int 1), .val (.int o1)] [(.int (atv ct o1)), (.int 1), (.ref tx)])) rfl rfl (hb hby d6_30)
        have V_tx_ : Arv Z h24 tx kt .byte (4 : Int32) [(.int (nar .byte (atv ct o0))), (.int (nar .byte (atv ct o1))), (.int o2), (.int o3)] (.int 0) := Arv.set Ar24 q24 S24 N24 Hs24 G24 (fits_nar_byte _) W24 1 rfl (Nat.le_of_ble_eq_true rfl)
        have A_tb := A_tb.other W24 ne_tb_tx
        have Zle := Nat.le_trans Zle (Keep.of_wr W24).1
        have K_ := K_.wr W24 (Or.inl (List.mem_of_getElem? (i := 0) rfl))
        have V_tx := V_tx_
        have N_ := Fr.snoc X24 N_ g_tx
        refine own_by (T' := T24) (g' := (mkF m 31 #[.val (.ref tb), .val (.ref tx), .val (.int 0), .val (.int 4), .val (.int 1), .val (.int o1)] [])) (fun t k => st24 t k) ?_
        refine own_by (T' := T24) (g' := (mkF m 34 #[.val (.ref tb), .val (.ref tx), .val (.int 0), .val (.int 4), .val (.int 2), .val (.int o1)] [])) (fun t k => XS.iinc X24.here hx rfl (hb hby d6_31) rfl (l' := #[.val (.ref tb), .val (.ref tx), .val (.int 0), .val (.int 4), .val (.int 2), .val (.int o1)]) rfl k) ?_
        refine own_by (T' := T24) (g' := (mkF m 3 #[.val (.ref tb), .val (.ref tx), .val (.int 0), .val (.int 4), .val (.int 2), .val (.int o1)] [])) (fun t k => XS.goto X24.here hx rfl (pc0 := 34) (pc' := 3) rfl (hb hby d6_34) (by decide) (by decide) k) ?_
        refine own_by (T' := T24) (g' := (mkF m 5 #[.val (.ref tb), .val (.ref tx), .val (.int 0), .val (.int 4), .val (.int 2), .val (.int o1)] [(.int 2)])) (fun t k => XS.iload X24.here hx rfl (hb hby d6_3) rfl k) ?_
        refine own_by (T' := T24) (g' := (mkF m 6 #[.val (.ref tb), .val (.ref tx), .val (.int 0), .val (.int 4), .val (.int 2), .val (.int o1)] [(.int 4), (.int 2)])) (fun t k => XS.iloadN X24.here hx rfl (hb hby d6_5) rfl k) ?_
        refine own_by (T' := T24) (g' := (mkF m 9 #[.val (.ref tb), .val (.ref tx), .val (.int 0), .val (.int 4), .val (.int 2), .val (.int o1)] [])) (fun t k => XS.icmpNo X24.here hx rfl (hb hby d6_6) rfl (tlt (by decide)).2.1 k) ?_
        refine own_by (T' := T24) (g' := (mkF m 10 #[.val (.ref tb), .val (.ref tx), .val (.int 0), .val (.int 4), .val (.int 2), .val (.int o1)] [(.ref tx)])) (fun t k => XS.aloadN X24.here hx rfl (hb hby d6_9) rfl rfl k) ?_
        refine own_by (T' := T24) (g' := (mkF m 12 #[.val (.ref tb), .val (.ref tx), .val (.int 0), .val (.int 4), .val (.int 2), .val (.int o1)] [(.int 2), (.ref tx)])) (fun t k => XS.iload X24.here hx rfl (hb hby d6_10) rfl k) ?_
        obtain ⟨cl25, Ar25, q25, S25, N25, Hs25, G25⟩ := id V_tx
        have hin25 : ¬ ((2 : Int32) < 0 ∨ cl25.slots.size ≤ ((2 : Int32)).toNatClampNeg) := inb_of S25 ⟨by decide, by decide⟩
        have hat25 : cl25.slots[((2 : Int32)).toNatClampNeg]? = some (.int o2) := Hs25.at hin25 rfl
        refine own_by (T' := T24) (g' := (mkF m 13 #[.val (.ref tb), .val (.ref tx), .val (.int 0), .val (.int 4), .val (.int 2), .val (.int o1)] [(.int o2)])) (fun t k => X24.baloadBytes hx (j := (2 : Int32)) (v := (.int o2)) (by rw [e24]; exact Ar25.1) (State.isArrayOf_alike hZ.alike Ar25.2.1) Ar25.2.2 hin25 hat25 (g := (mkF m 12 #[.val (.ref tb), .val (.ref tx), .val (.int 0), .val (.int 4), .val (.int 2), .val (.int o1)] [(.int 2), (.ref tx)])) rfl rfl (hb hby d6_12) _ k) ?_
        refine own_by (T' := T24) (g' := (mkF m 15 #[.val (.ref tb), .val (.ref tx), .val (.int 0), .val (.int 4), .val (.int 2), .val (.int o2)] [])) (fun t k => XS.istore X24.here hx rfl (hb hby d6_13) rfl (l' := #[.val (.ref tb), .val (.ref tx), .val (.int 0), .val (.int 4), .val (.int 2), .val (.int o2)]) rfl k) ?_
        refine own_by (T' := T24) (g' := (mkF m 17 #[.val (.ref tb), .val (.ref tx), .val (.int 0), .val (.int 4), .val (.int 2), .val (.int o2)] [(.int o2)])) (fun t k => XS.iload X24.here hx rfl (hb hby d6_15) rfl k) ?_
        by_cases hc17_26 : o2 < (0 : Int32)
        · refine own_by (T' := T24) (g' := (mkF m 20 #[.val (.ref tb), .val (.ref tx), .val (.int 0), .val (.int 4), .val (.int 2), .val (.int o2)] [])) (fun t k => XS.ifNo X24.here hx rfl (hb hby d6_17) rfl ((if0 _ _).trans (tlt hc17_26).2.1) k) ?_
          refine own_by (T' := T24) (g' := (mkF m 37 #[.val (.ref tb), .val (.ref tx), .val (.int 0), .val (.int 4), .val (.int 2), .val (.int o2)] [])) (fun t k => XS.goto X24.here hx rfl (pc0 := 20) (pc' := 37) rfl (hb hby d6_20) (by decide) (by decide) k) ?_
          refine own_by (T' := T24) (g' := (mkF m 39 #[.val (.ref tb), .val (.ref tx), .val (.int 0), .val (.int 4), .val (.int 2), .val (.int o2)] [(.int 2)])) (fun t k => XS.iload X24.here hx rfl (hb hby d6_37) rfl k) ?_
          have hR : own_R (0 : Int32) (4 : Int32) o0 o1 o2 o3 = (2 : Int32) := by simp [own_R, own_rs, hc17_20, hc17_23, hc17_26]
          exact own_retI X24 hx Bd.notSynchronized Bd.returns (hb hby d6_39) (by decide) (by decide) (by rw [e24]; exact ⟨by rw [hR], N_, K_, by rw [hR]; exact V_tx⟩)
        · refine own_by (T' := T24) (g' := (mkF m 23 #[.val (.ref tb), .val (.ref tx), .val (.int 0), .val (.int 4), .val (.int 2), .val (.int o2)] [])) (fun t k => XS.ifYes X24.here hx rfl (pc0 := 17) (pc' := 23) rfl (hb hby d6_17) rfl ((if0 _ _).trans (flt hc17_26).2.1) (by decide) (by decide) k) ?_
          refine own_by (T' := T24) (g' := (mkF m 24 #[.val (.ref tb), .val (.ref tx), .val (.int 0), .val (.int 4), .val (.int 2), .val (.int o2)] [(.ref tx)])) (fun t k => XS.aloadN X24.here hx rfl (hb hby d6_23) rfl rfl k) ?_
          refine own_by (T' := T24) (g' := (mkF m 26 #[.val (.ref tb), .val (.ref tx), .val (.int 0), .val (.int 4), .val (.int 2), .val (.int o2)] [(.int 2), (.ref tx)])) (fun t k => XS.iload X24.here hx rfl (hb hby d6_24) rfl k) ?_
          refine own_by (T' := T24) (g' := (mkF m 27 #[.val (.ref tb), .val (.ref tx), .val (.int 0), .val (.int 4), .val (.int 2), .val (.int o2)] [(.ref tb), (.int 2), (.ref tx)])) (fun t k => XS.aloadN X24.here hx rfl (hb hby d6_26) rfl rfl k) ?_
          refine own_by (T' := T24) (g' := (mkF m 29 #[.val (.ref tb), .val (.ref tx), .val (.int 0), .val (.int 4), .val (.int 2), .val (.int o2)] [(.int o2), (.ref tb), (.int 2), (.ref tx)])) (fun t k => XS.iload X24.here hx rfl (hb hby d6_27) rfl k) ?_
          refine own_by (T' := T24) (g' := (mkF m 30 #[.val (.ref tb), .val (.ref tx), .val (.int 0), .val (.int 4), .val (.int 2), .val (.int o2)] [(.int (atv ct o2)), (.int 2), (.ref tx)])) (fun t k => X24.baloadBytes hx (j := o2) (v := (.int (atv ct o2))) (by rw [e24]; exact A_tb.1) (State.isArrayOf_alike hZ.alike A_tb.2.1) A_tb.2.2 (own_inb hB hc17_26 hby2) (own_at hB hc17_26 hby2) (g := (mkF m 29 #[.val (.ref tb), .val (.ref tx), .val (.int 0), .val (.int 4), .val (.int 2), .val (.int o2)] [(.int o2), (.ref tb), (.int 2), (.ref tx)])) rfl rfl (hb hby d6_29) _ k) ?_
          obtain ⟨cl27, Ar27, q27, S27, N27, Hs27, G27⟩ := id V_tx
          have hin27 : ¬ ((2 : Int32) < 0 ∨ cl27.slots.size ≤ ((2 : Int32)).toNatClampNeg) := inb_of S27 ⟨by decide, by decide⟩
          obtain ⟨T27, h27, X27, e27, W27, st27⟩ := stB X24 hx hZ e24 Ar27 (j := (2 : Int32)) hin27 (g := (mkF m 30 #[.val (.ref tb), .val (.ref tx), .val (.int 0), .val (.int 4), .val (.int 2), .val (.int o2)] [(.int (atv ct o2)), (.int 2), (.ref tx)])) rfl rfl (hb hby d6_30)
          have V_tx_ : Arv Z h27 tx kt .byte (4 : Int32) [(.int (nar .byte (atv ct o0))), (.int (nar .byte (atv ct o1))), (.int (nar .byte (atv ct o2))), (.int o3)] (.int 0) := Arv.set Ar27 q27 S27 N27 Hs27 G27 (fits_nar_byte _) W27 2 rfl (Nat.le_of_ble_eq_true rfl)
          have A_tb := A_tb.other W27 ne_tb_tx
          have Zle := Nat.le_trans Zle (Keep.of_wr W27).1
          have K_ := K_.wr W27 (Or.inl (List.mem_of_getElem? (i := 0) rfl))
          have V_tx := V_tx_
          have N_ := Fr.snoc X27 N_ g_tx
          refine own_by (T' := T27) (g' := (mkF m 31 #[.val (.ref tb), .val (.ref tx), .val (.int 0), .val (.int 4), .val (.int 2), .val (.int o2)] [])) (fun t k => st27 t k) ?_
          refine own_by (T' := T27) (g' := (mkF m 34 #[.val (.ref tb), .val (.ref tx), .val (.int 0), .val (.int 4), .val (.int 3), .val (.int o2)] [])) (fun t k => XS.iinc X27.here hx rfl (hb hby d6_31) rfl (l' := #[.val (.ref tb), .val (.ref tx), .val (.int 0), .val (.int 4), .val (.int 3), .val (.int o2)]) rfl k) ?_
          refine own_by (T' := T27) (g' := (mkF m 3 #[.val (.ref tb), .val (.ref tx), .val (.int 0), .val (.int 4), .val (.int 3), .val (.int o2)] [])) (fun t k => XS.goto X27.here hx rfl (pc0 := 34) (pc' := 3) rfl (hb hby d6_34) (by decide) (by decide) k) ?_
          refine own_by (T' := T27) (g' := (mkF m 5 #[.val (.ref tb), .val (.ref tx), .val (.int 0), .val (.int 4), .val (.int 3), .val (.int o2)] [(.int 3)])) (fun t k => XS.iload X27.here hx rfl (hb hby d6_3) rfl k) ?_
          refine own_by (T' := T27) (g' := (mkF m 6 #[.val (.ref tb), .val (.ref tx), .val (.int 0), .val (.int 4), .val (.int 3), .val (.int o2)] [(.int 4), (.int 3)])) (fun t k => XS.iloadN X27.here hx rfl (hb hby d6_5) rfl k) ?_
          refine own_by (T' := T27) (g' := (mkF m 9 #[.val (.ref tb), .val (.ref tx), .val (.int 0), .val (.int 4), .val (.int 3), .val (.int o2)] [])) (fun t k => XS.icmpNo X27.here hx rfl (hb hby d6_6) rfl (tlt (by decide)).2.1 k) ?_
          refine own_by (T' := T27) (g' := (mkF m 10 #[.val (.ref tb), .val (.ref tx), .val (.int 0), .val (.int 4), .val (.int 3), .val (.int o2)] [(.ref tx)])) (fun t k => XS.aloadN X27.here hx rfl (hb hby d6_9) rfl rfl k) ?_
          refine own_by (T' := T27) (g' := (mkF m 12 #[.val (.ref tb), .val (.ref tx), .val (.int 0), .val (.int 4), .val (.int 3), .val (.int o2)] [(.int 3), (.ref tx)])) (fun t k => XS.iload X27.here hx rfl (hb hby d6_10) rfl k) ?_
          obtain ⟨cl28, Ar28, q28, S28, N28, Hs28, G28⟩ := id V_tx
          have hin28 : ¬ ((3 : Int32) < 0 ∨ cl28.slots.size ≤ ((3 : Int32)).toNatClampNeg) := inb_of S28 ⟨by decide, by decide⟩
          have hat28 : cl28.slots[((3 : Int32)).toNatClampNeg]? = some (.int o3) := Hs28.at hin28 rfl
          refine own_by (T' := T27) (g' := (mkF m 13 #[.val (.ref tb), .val (.ref tx), .val (.int 0), .val (.int 4), .val (.int 3), .val (.int o2)] [(.int o3)])) (fun t k => X27.baloadBytes hx (j := (3 : Int32)) (v := (.int o3)) (by rw [e27]; exact Ar28.1) (State.isArrayOf_alike hZ.alike Ar28.2.1) Ar28.2.2 hin28 hat28 (g := (mkF m 12 #[.val (.ref tb), .val (.ref tx), .val (.int 0), .val (.int 4), .val (.int 3), .val (.int o2)] [(.int 3), (.ref tx)])) rfl rfl (hb hby d6_12) _ k) ?_
          refine own_by (T' := T27) (g' := (mkF m 15 #[.val (.ref tb), .val (.ref tx), .val (.int 0), .val (.int 4), .val (.int 3), .val (.int o3)] [])) (fun t k => XS.istore X27.here hx rfl (hb hby d6_13) rfl (l' := #[.val (.ref tb), .val (.ref tx), .val (.int 0), .val (.int 4), .val (.int 3), .val (.int o3)]) rfl k) ?_
          refine own_by (T' := T27) (g' := (mkF m 17 #[.val (.ref tb), .val (.ref tx), .val (.int 0), .val (.int 4), .val (.int 3), .val (.int o3)] [(.int o3)])) (fun t k => XS.iload X27.here hx rfl (hb hby d6_15) rfl k) ?_
          by_cases hc17_29 : o3 < (0 : Int32)
          · refine own_by (T' := T27) (g' := (mkF m 20 #[.val (.ref tb), .val (.ref tx), .val (.int 0), .val (.int 4), .val (.int 3), .val (.int o3)] [])) (fun t k => XS.ifNo X27.here hx rfl (hb hby d6_17) rfl ((if0 _ _).trans (tlt hc17_29).2.1) k) ?_
            refine own_by (T' := T27) (g' := (mkF m 37 #[.val (.ref tb), .val (.ref tx), .val (.int 0), .val (.int 4), .val (.int 3), .val (.int o3)] [])) (fun t k => XS.goto X27.here hx rfl (pc0 := 20) (pc' := 37) rfl (hb hby d6_20) (by decide) (by decide) k) ?_
            refine own_by (T' := T27) (g' := (mkF m 39 #[.val (.ref tb), .val (.ref tx), .val (.int 0), .val (.int 4), .val (.int 3), .val (.int o3)] [(.int 3)])) (fun t k => XS.iload X27.here hx rfl (hb hby d6_37) rfl k) ?_
            have hR : own_R (0 : Int32) (4 : Int32) o0 o1 o2 o3 = (3 : Int32) := by simp [own_R, own_rs, hc17_20, hc17_23, hc17_26, hc17_29]
            exact own_retI X27 hx Bd.notSynchronized Bd.returns (hb hby d6_39) (by decide) (by decide) (by rw [e27]; exact ⟨by rw [hR], N_, K_, by rw [hR]; exact V_tx⟩)
          · refine own_by (T' := T27) (g' := (mkF m 23 #[.val (.ref tb), .val (.ref tx), .val (.int 0), .val (.int 4), .val (.int 3), .val (.int o3)] [])) (fun t k => XS.ifYes X27.here hx rfl (pc0 := 17) (pc' := 23) rfl (hb hby d6_17) rfl ((if0 _ _).trans (flt hc17_29).2.1) (by decide) (by decide) k) ?_
            refine own_by (T' := T27) (g' := (mkF m 24 #[.val (.ref tb), .val (.ref tx), .val (.int 0), .val (.int 4), .val (.int 3), .val (.int o3)] [(.ref tx)])) (fun t k => XS.aloadN X27.here hx rfl (hb hby d6_23) rfl rfl k) ?_
            refine own_by (T' := T27) (g' := (mkF m 26 #[.val (.ref tb), .val (.ref tx), .val (.int 0), .val (.int 4), .val (.int 3), .val (.int o3)] [(.int 3), (.ref tx)])) (fun t k => XS.iload X27.here hx rfl (hb hby d6_24) rfl k) ?_
            refine own_by (T' := T27) (g' := (mkF m 27 #[.val (.ref tb), .val (.ref tx), .val (.int 0), .val (.int 4), .val (.int 3), .val (.int o3)] [(.ref tb), (.int 3), (.ref tx)])) (fun t k => XS.aloadN X27.here hx rfl (hb hby d6_26) rfl rfl k) ?_
            refine own_by (T' := T27) (g' := (mkF m 29 #[.val (.ref tb), .val (.ref tx), .val (.int 0), .val (.int 4), .val (.int 3), .val (.int o3)] [(.int o3), (.ref tb), (.int 3), (.ref tx)])) (fun t k => XS.iload X27.here hx rfl (hb hby d6_27) rfl k) ?_
            refine own_by (T' := T27) (g' := (mkF m 30 #[.val (.ref tb), .val (.ref tx), .val (.int 0), .val (.int 4), .val (.int 3), .val (.int o3)] [(.int (atv ct o3)), (.int 3), (.ref tx)])) (fun t k => X27.baloadBytes hx (j := o3) (v := (.int (atv ct o3))) (by rw [e27]; exact A_tb.1) (State.isArrayOf_alike hZ.alike A_tb.2.1) A_tb.2.2 (own_inb hB hc17_29 hby3) (own_at hB hc17_29 hby3) (g := (mkF m 29 #[.val (.ref tb), .val (.ref tx), .val (.int 0), .val (.int 4), .val (.int 3), .val (.int o3)] [(.int o3), (.ref tb), (.int 3), (.ref tx)])) rfl rfl (hb hby d6_29) _ k) ?_
            obtain ⟨cl30, Ar30, q30, S30, N30, Hs30, G30⟩ := id V_tx
            have hin30 : ¬ ((3 : Int32) < 0 ∨ cl30.slots.size ≤ ((3 : Int32)).toNatClampNeg) := inb_of S30 ⟨by decide, by decide⟩
            obtain ⟨T30, h30, X30, e30, W30, st30⟩ := stB X27 hx hZ e27 Ar30 (j := (3 : Int32)) hin30 (g := (mkF m 30 #[.val (.ref tb), .val (.ref tx), .val (.int 0), .val (.int 4), .val (.int 3), .val (.int o3)] [(.int (atv ct o3)), (.int 3), (.ref tx)])) rfl rfl (hb hby d6_30)
            have V_tx_ : Arv Z h30 tx kt .byte (4 : Int32) [(.int (nar .byte (atv ct o0))), (.int (nar .byte (atv ct o1))), (.int (nar .byte (atv ct o2))), (.int (nar .byte (atv ct o3)))] (.int 0) := Arv.set Ar30 q30 S30 N30 Hs30 G30 (fits_nar_byte _) W30 3 rfl (Nat.le_of_ble_eq_true rfl)
            have A_tb := A_tb.other W30 ne_tb_tx
            have Zle := Nat.le_trans Zle (Keep.of_wr W30).1
            have K_ := K_.wr W30 (Or.inl (List.mem_of_getElem? (i := 0) rfl))
            have V_tx := V_tx_
            have N_ := Fr.snoc X30 N_ g_tx
            refine own_by (T' := T30) (g' := (mkF m 31 #[.val (.ref tb), .val (.ref tx), .val (.int 0), .val (.int 4), .val (.int 3), .val (.int o3)] [])) (fun t k => st30 t k) ?_
            refine own_by (T' := T30) (g' := (mkF m 34 #[.val (.ref tb), .val (.ref tx), .val (.int 0), .val (.int 4), .val (.int 4), .val (.int o3)] [])) (fun t k => XS.iinc X30.here hx rfl (hb hby d6_31) rfl (l' := #[.val (.ref tb), .val (.ref tx), .val (.int 0), .val (.int 4), .val (.int 4), .val (.int o3)]) rfl k) ?_
            refine own_by (T' := T30) (g' := (mkF m 3 #[.val (.ref tb), .val (.ref tx), .val (.int 0), .val (.int 4), .val (.int 4), .val (.int o3)] [])) (fun t k => XS.goto X30.here hx rfl (pc0 := 34) (pc' := 3) rfl (hb hby d6_34) (by decide) (by decide) k) ?_
            refine own_by (T' := T30) (g' := (mkF m 5 #[.val (.ref tb), .val (.ref tx), .val (.int 0), .val (.int 4), .val (.int 4), .val (.int o3)] [(.int 4)])) (fun t k => XS.iload X30.here hx rfl (hb hby d6_3) rfl k) ?_
            refine own_by (T' := T30) (g' := (mkF m 6 #[.val (.ref tb), .val (.ref tx), .val (.int 0), .val (.int 4), .val (.int 4), .val (.int o3)] [(.int 4), (.int 4)])) (fun t k => XS.iloadN X30.here hx rfl (hb hby d6_5) rfl k) ?_
            refine own_by (T' := T30) (g' := (mkF m 37 #[.val (.ref tb), .val (.ref tx), .val (.int 0), .val (.int 4), .val (.int 4), .val (.int o3)] [])) (fun t k => XS.icmpYes X30.here hx rfl (pc0 := 6) (pc' := 37) rfl (hb hby d6_6) rfl (flt (by decide)).2.1 (by decide) (by decide) k) ?_
            refine own_by (T' := T30) (g' := (mkF m 39 #[.val (.ref tb), .val (.ref tx), .val (.int 0), .val (.int 4), .val (.int 4), .val (.int o3)] [(.int 4)])) (fun t k => XS.iload X30.here hx rfl (hb hby d6_37) rfl k) ?_
            have hR : own_R (0 : Int32) (4 : Int32) o0 o1 o2 o3 = (4 : Int32) := by simp [own_R, own_rs, hc17_20, hc17_23, hc17_26, hc17_29]
            exact own_retI X30 hx Bd.notSynchronized Bd.returns (hb hby d6_39) (by decide) (by decide) (by rw [e30]; exact ⟨by rw [hR], N_, K_, by rw [hR]; exact V_tx⟩)
  · refine own_by (T' := s₁) (g' := (mkF m 1 #[.val (.ref tb), .val (.ref tx), .val (.int 1), .val (.int 1), .unset, .unset] [(.int 1)])) (fun t k => XS.iloadN X0.here hx rfl (hb hby d6_0) rfl k) ?_
    refine own_by (T' := s₁) (g' := (mkF m 3 #[.val (.ref tb), .val (.ref tx), .val (.int 1), .val (.int 1), .val (.int 1), .unset] [])) (fun t k => XS.istore X0.here hx rfl (hb hby d6_1) rfl (l' := #[.val (.ref tb), .val (.ref tx), .val (.int 1), .val (.int 1), .val (.int 1), .unset]) rfl k) ?_
    refine own_by (T' := s₁) (g' := (mkF m 5 #[.val (.ref tb), .val (.ref tx), .val (.int 1), .val (.int 1), .val (.int 1), .unset] [(.int 1)])) (fun t k => XS.iload X0.here hx rfl (hb hby d6_3) rfl k) ?_
    refine own_by (T' := s₁) (g' := (mkF m 6 #[.val (.ref tb), .val (.ref tx), .val (.int 1), .val (.int 1), .val (.int 1), .unset] [(.int 1), (.int 1)])) (fun t k => XS.iloadN X0.here hx rfl (hb hby d6_5) rfl k) ?_
    refine own_by (T' := s₁) (g' := (mkF m 37 #[.val (.ref tb), .val (.ref tx), .val (.int 1), .val (.int 1), .val (.int 1), .unset] [])) (fun t k => XS.icmpYes X0.here hx rfl (pc0 := 6) (pc' := 37) rfl (hb hby d6_6) rfl (flt (by decide)).2.1 (by decide) (by decide) k) ?_
    refine own_by (T' := s₁) (g' := (mkF m 39 #[.val (.ref tb), .val (.ref tx), .val (.int 1), .val (.int 1), .val (.int 1), .unset] [(.int 1)])) (fun t k => XS.iload X0.here hx rfl (hb hby d6_37) rfl k) ?_
    have hR : own_R (1 : Int32) (1 : Int32) o0 o1 o2 o3 = (1 : Int32) := by simp [own_R, own_rs]
    exact own_retI X0 hx Bd.notSynchronized Bd.returns (hb hby d6_39) (by decide) (by decide) (by rw [e0]; exact ⟨by rw [hR], N_, K_, by rw [hR]; exact V_tx⟩)
  · refine own_by (T' := s₁) (g' := (mkF m 1 #[.val (.ref tb), .val (.ref tx), .val (.int 1), .val (.int 2), .unset, .unset] [(.int 1)])) (fun t k => XS.iloadN X0.here hx rfl (hb hby d6_0) rfl k) ?_
    refine own_by (T' := s₁) (g' := (mkF m 3 #[.val (.ref tb), .val (.ref tx), .val (.int 1), .val (.int 2), .val (.int 1), .unset] [])) (fun t k => XS.istore X0.here hx rfl (hb hby d6_1) rfl (l' := #[.val (.ref tb), .val (.ref tx), .val (.int 1), .val (.int 2), .val (.int 1), .unset]) rfl k) ?_
    refine own_by (T' := s₁) (g' := (mkF m 5 #[.val (.ref tb), .val (.ref tx), .val (.int 1), .val (.int 2), .val (.int 1), .unset] [(.int 1)])) (fun t k => XS.iload X0.here hx rfl (hb hby d6_3) rfl k) ?_
    refine own_by (T' := s₁) (g' := (mkF m 6 #[.val (.ref tb), .val (.ref tx), .val (.int 1), .val (.int 2), .val (.int 1), .unset] [(.int 2), (.int 1)])) (fun t k => XS.iloadN X0.here hx rfl (hb hby d6_5) rfl k) ?_
    refine own_by (T' := s₁) (g' := (mkF m 9 #[.val (.ref tb), .val (.ref tx), .val (.int 1), .val (.int 2), .val (.int 1), .unset] [])) (fun t k => XS.icmpNo X0.here hx rfl (hb hby d6_6) rfl (tlt (by decide)).2.1 k) ?_
    refine own_by (T' := s₁) (g' := (mkF m 10 #[.val (.ref tb), .val (.ref tx), .val (.int 1), .val (.int 2), .val (.int 1), .unset] [(.ref tx)])) (fun t k => XS.aloadN X0.here hx rfl (hb hby d6_9) rfl rfl k) ?_
    refine own_by (T' := s₁) (g' := (mkF m 12 #[.val (.ref tb), .val (.ref tx), .val (.int 1), .val (.int 2), .val (.int 1), .unset] [(.int 1), (.ref tx)])) (fun t k => XS.iload X0.here hx rfl (hb hby d6_10) rfl k) ?_
    obtain ⟨cl31, Ar31, q31, S31, N31, Hs31, G31⟩ := id V_tx
    have hin31 : ¬ ((1 : Int32) < 0 ∨ cl31.slots.size ≤ ((1 : Int32)).toNatClampNeg) := inb_of S31 ⟨by decide, by decide⟩
    have hat31 : cl31.slots[((1 : Int32)).toNatClampNeg]? = some (.int o1) := Hs31.at hin31 rfl
    refine own_by (T' := s₁) (g' := (mkF m 13 #[.val (.ref tb), .val (.ref tx), .val (.int 1), .val (.int 2), .val (.int 1), .unset] [(.int o1)])) (fun t k => X0.baloadBytes hx (j := (1 : Int32)) (v := (.int o1)) (by rw [e0]; exact Ar31.1) (State.isArrayOf_alike hZ.alike Ar31.2.1) Ar31.2.2 hin31 hat31 (g := (mkF m 12 #[.val (.ref tb), .val (.ref tx), .val (.int 1), .val (.int 2), .val (.int 1), .unset] [(.int 1), (.ref tx)])) rfl rfl (hb hby d6_12) _ k) ?_
    refine own_by (T' := s₁) (g' := (mkF m 15 #[.val (.ref tb), .val (.ref tx), .val (.int 1), .val (.int 2), .val (.int 1), .val (.int o1)] [])) (fun t k => XS.istore X0.here hx rfl (hb hby d6_13) rfl (l' := #[.val (.ref tb), .val (.ref tx), .val (.int 1), .val (.int 2), .val (.int 1), .val (.int o1)]) rfl k) ?_
    refine own_by (T' := s₁) (g' := (mkF m 17 #[.val (.ref tb), .val (.ref tx), .val (.int 1), .val (.int 2), .val (.int 1), .val (.int o1)] [(.int o1)])) (fun t k => XS.iload X0.here hx rfl (hb hby d6_15) rfl k) ?_
    by_cases hc17_32 : o1 < (0 : Int32)
    · refine own_by (T' := s₁) (g' := (mkF m 20 #[.val (.ref tb), .val (.ref tx), .val (.int 1), .val (.int 2), .val (.int 1), .val (.int o1)] [])) (fun t k => XS.ifNo X0.here hx rfl (hb hby d6_17) rfl ((if0 _ _).trans (tlt hc17_32).2.1) k) ?_
      refine own_by (T' := s₁) (g' := (mkF m 37 #[.val (.ref tb), .val (.ref tx), .val (.int 1), .val (.int 2), .val (.int 1), .val (.int o1)] [])) (fun t k => XS.goto X0.here hx rfl (pc0 := 20) (pc' := 37) rfl (hb hby d6_20) (by decide) (by decide) k) ?_
      refine own_by (T' := s₁) (g' := (mkF m 39 #[.val (.ref tb), .val (.ref tx), .val (.int 1), .val (.int 2), .val (.int 1), .val (.int o1)] [(.int 1)])) (fun t k => XS.iload X0.here hx rfl (hb hby d6_37) rfl k) ?_
      have hR : own_R (1 : Int32) (2 : Int32) o0 o1 o2 o3 = (1 : Int32) := by simp [own_R, own_rs, hc17_32]
      exact own_retI X0 hx Bd.notSynchronized Bd.returns (hb hby d6_39) (by decide) (by decide) (by rw [e0]; exact ⟨by rw [hR], N_, K_, by rw [hR]; exact V_tx⟩)
    · refine own_by (T' := s₁) (g' := (mkF m 23 #[.val (.ref tb), .val (.ref tx), .val (.int 1), .val (.int 2), .val (.int 1), .val (.int o1)] [])) (fun t k => XS.ifYes X0.here hx rfl (pc0 := 17) (pc' := 23) rfl (hb hby d6_17) rfl ((if0 _ _).trans (flt hc17_32).2.1) (by decide) (by decide) k) ?_
      refine own_by (T' := s₁) (g' := (mkF m 24 #[.val (.ref tb), .val (.ref tx), .val (.int 1), .val (.int 2), .val (.int 1), .val (.int o1)] [(.ref tx)])) (fun t k => XS.aloadN X0.here hx rfl (hb hby d6_23) rfl rfl k) ?_
      refine own_by (T' := s₁) (g' := (mkF m 26 #[.val (.ref tb), .val (.ref tx), .val (.int 1), .val (.int 2), .val (.int 1), .val (.int o1)] [(.int 1), (.ref tx)])) (fun t k => XS.iload X0.here hx rfl (hb hby d6_24) rfl k) ?_
      refine own_by (T' := s₁) (g' := (mkF m 27 #[.val (.ref tb), .val (.ref tx), .val (.int 1), .val (.int 2), .val (.int 1), .val (.int o1)] [(.ref tb), (.int 1), (.ref tx)])) (fun t k => XS.aloadN X0.here hx rfl (hb hby d6_26) rfl rfl k) ?_
      refine own_by (T' := s₁) (g' := (mkF m 29 #[.val (.ref tb), .val (.ref tx), .val (.int 1), .val (.int 2), .val (.int 1), .val (.int o1)] [(.int o1), (.ref tb), (.int 1), (.ref tx)])) (fun t k => XS.iload X0.here hx rfl (hb hby d6_27) rfl k) ?_
      refine own_by (T' := s₁) (g' := (mkF m 30 #[.val (.ref tb), .val (.ref tx), .val (.int 1), .val (.int 2), .val (.int 1), .val (.int o1)] [(.int (atv ct o1)), (.int 1), (.ref tx)])) (fun t k => X0.baloadBytes hx (j := o1) (v := (.int (atv ct o1))) (by rw [e0]; exact A_tb.1) (State.isArrayOf_alike hZ.alike A_tb.2.1) A_tb.2.2 (own_inb hB hc17_32 hby1) (own_at hB hc17_32 hby1) (g := (mkF m 29 #[.val (.ref tb), .val (.ref tx), .val (.int 1), .val (.int 2), .val (.int 1), .val (.int o1)] [(.int o1), (.ref tb), (.int 1), (.ref tx)])) rfl rfl (hb hby d6_29) _ k) ?_
      obtain ⟨cl33, Ar33, q33, S33, N33, Hs33, G33⟩ := id V_tx
      have hin33 : ¬ ((1 : Int32) < 0 ∨ cl33.slots.size ≤ ((1 : Int32)).toNatClampNeg) := inb_of S33 ⟨by decide, by decide⟩
      obtain ⟨T33, h33, X33, e33, W33, st33⟩ := stB X0 hx hZ e0 Ar33 (j := (1 : Int32)) hin33 (g := (mkF m 30 #[.val (.ref tb), .val (.ref tx), .val (.int 1), .val (.int 2), .val (.int 1), .val (.int o1)] [(.int (atv ct o1)), (.int 1), (.ref tx)])) rfl rfl (hb hby d6_30)
      have V_tx_ : Arv Z h33 tx kt .byte (4 : Int32) [(.int o0), (.int (nar .byte (atv ct o1))), (.int o2), (.int o3)] (.int 0) := Arv.set Ar33 q33 S33 N33 Hs33 G33 (fits_nar_byte _) W33 1 rfl (Nat.le_of_ble_eq_true rfl)
      have A_tb := A_tb.other W33 ne_tb_tx
      have Zle := Nat.le_trans Zle (Keep.of_wr W33).1
      have K_ := K_.wr W33 (Or.inl (List.mem_of_getElem? (i := 0) rfl))
      have V_tx := V_tx_
      have N_ := Fr.snoc X33 N_ g_tx
      refine own_by (T' := T33) (g' := (mkF m 31 #[.val (.ref tb), .val (.ref tx), .val (.int 1), .val (.int 2), .val (.int 1), .val (.int o1)] [])) (fun t k => st33 t k) ?_
      refine own_by (T' := T33) (g' := (mkF m 34 #[.val (.ref tb), .val (.ref tx), .val (.int 1), .val (.int 2), .val (.int 2), .val (.int o1)] [])) (fun t k => XS.iinc X33.here hx rfl (hb hby d6_31) rfl (l' := #[.val (.ref tb), .val (.ref tx), .val (.int 1), .val (.int 2), .val (.int 2), .val (.int o1)]) rfl k) ?_
      refine own_by (T' := T33) (g' := (mkF m 3 #[.val (.ref tb), .val (.ref tx), .val (.int 1), .val (.int 2), .val (.int 2), .val (.int o1)] [])) (fun t k => XS.goto X33.here hx rfl (pc0 := 34) (pc' := 3) rfl (hb hby d6_34) (by decide) (by decide) k) ?_
      refine own_by (T' := T33) (g' := (mkF m 5 #[.val (.ref tb), .val (.ref tx), .val (.int 1), .val (.int 2), .val (.int 2), .val (.int o1)] [(.int 2)])) (fun t k => XS.iload X33.here hx rfl (hb hby d6_3) rfl k) ?_
      refine own_by (T' := T33) (g' := (mkF m 6 #[.val (.ref tb), .val (.ref tx), .val (.int 1), .val (.int 2), .val (.int 2), .val (.int o1)] [(.int 2), (.int 2)])) (fun t k => XS.iloadN X33.here hx rfl (hb hby d6_5) rfl k) ?_
      refine own_by (T' := T33) (g' := (mkF m 37 #[.val (.ref tb), .val (.ref tx), .val (.int 1), .val (.int 2), .val (.int 2), .val (.int o1)] [])) (fun t k => XS.icmpYes X33.here hx rfl (pc0 := 6) (pc' := 37) rfl (hb hby d6_6) rfl (flt (by decide)).2.1 (by decide) (by decide) k) ?_
      refine own_by (T' := T33) (g' := (mkF m 39 #[.val (.ref tb), .val (.ref tx), .val (.int 1), .val (.int 2), .val (.int 2), .val (.int o1)] [(.int 2)])) (fun t k => XS.iload X33.here hx rfl (hb hby d6_37) rfl k) ?_
      have hR : own_R (1 : Int32) (2 : Int32) o0 o1 o2 o3 = (2 : Int32) := by simp [own_R, own_rs, hc17_32]
      exact own_retI X33 hx Bd.notSynchronized Bd.returns (hb hby d6_39) (by decide) (by decide) (by rw [e33]; exact ⟨by rw [hR], N_, K_, by rw [hR]; exact V_tx⟩)
  · refine own_by (T' := s₁) (g' := (mkF m 1 #[.val (.ref tb), .val (.ref tx), .val (.int 1), .val (.int 3), .unset, .unset] [(.int 1)])) (fun t k => XS.iloadN X0.here hx rfl (hb hby d6_0) rfl k) ?_
    refine own_by (T' := s₁) (g' := (mkF m 3 #[.val (.ref tb), .val (.ref tx), .val (.int 1), .val (.int 3), .val (.int 1), .unset] [])) (fun t k => XS.istore X0.here hx rfl (hb hby d6_1) rfl (l' := #[.val (.ref tb), .val (.ref tx), .val (.int 1), .val (.int 3), .val (.int 1), .unset]) rfl k) ?_
    refine own_by (T' := s₁) (g' := (mkF m 5 #[.val (.ref tb), .val (.ref tx), .val (.int 1), .val (.int 3), .val (.int 1), .unset] [(.int 1)])) (fun t k => XS.iload X0.here hx rfl (hb hby d6_3) rfl k) ?_
    refine own_by (T' := s₁) (g' := (mkF m 6 #[.val (.ref tb), .val (.ref tx), .val (.int 1), .val (.int 3), .val (.int 1), .unset] [(.int 3), (.int 1)])) (fun t k => XS.iloadN X0.here hx rfl (hb hby d6_5) rfl k) ?_
    refine own_by (T' := s₁) (g' := (mkF m 9 #[.val (.ref tb), .val (.ref tx), .val (.int 1), .val (.int 3), .val (.int 1), .unset] [])) (fun t k => XS.icmpNo X0.here hx rfl (hb hby d6_6) rfl (tlt (by decide)).2.1 k) ?_
    refine own_by (T' := s₁) (g' := (mkF m 10 #[.val (.ref tb), .val (.ref tx), .val (.int 1), .val (.int 3), .val (.int 1), .unset] [(.ref tx)])) (fun t k => XS.aloadN X0.here hx rfl (hb hby d6_9) rfl rfl k) ?_
    refine own_by (T' := s₁) (g' := (mkF m 12 #[.val (.ref tb), .val (.ref tx), .val (.int 1), .val (.int 3), .val (.int 1), .unset] [(.int 1), (.ref tx)])) (fun t k => XS.iload X0.here hx rfl (hb hby d6_10) rfl k) ?_
    obtain ⟨cl34, Ar34, q34, S34, N34, Hs34, G34⟩ := id V_tx
    have hin34 : ¬ ((1 : Int32) < 0 ∨ cl34.slots.size ≤ ((1 : Int32)).toNatClampNeg) := inb_of S34 ⟨by decide, by decide⟩
    have hat34 : cl34.slots[((1 : Int32)).toNatClampNeg]? = some (.int o1) := Hs34.at hin34 rfl
    refine own_by (T' := s₁) (g' := (mkF m 13 #[.val (.ref tb), .val (.ref tx), .val (.int 1), .val (.int 3), .val (.int 1), .unset] [(.int o1)])) (fun t k => X0.baloadBytes hx (j := (1 : Int32)) (v := (.int o1)) (by rw [e0]; exact Ar34.1) (State.isArrayOf_alike hZ.alike Ar34.2.1) Ar34.2.2 hin34 hat34 (g := (mkF m 12 #[.val (.ref tb), .val (.ref tx), .val (.int 1), .val (.int 3), .val (.int 1), .unset] [(.int 1), (.ref tx)])) rfl rfl (hb hby d6_12) _ k) ?_
    refine own_by (T' := s₁) (g' := (mkF m 15 #[.val (.ref tb), .val (.ref tx), .val (.int 1), .val (.int 3), .val (.int 1), .val (.int o1)] [])) (fun t k => XS.istore X0.here hx rfl (hb hby d6_13) rfl (l' := #[.val (.ref tb), .val (.ref tx), .val (.int 1), .val (.int 3), .val (.int 1), .val (.int o1)]) rfl k) ?_
    refine own_by (T' := s₁) (g' := (mkF m 17 #[.val (.ref tb), .val (.ref tx), .val (.int 1), .val (.int 3), .val (.int 1), .val (.int o1)] [(.int o1)])) (fun t k => XS.iload X0.here hx rfl (hb hby d6_15) rfl k) ?_
    by_cases hc17_35 : o1 < (0 : Int32)
    · refine own_by (T' := s₁) (g' := (mkF m 20 #[.val (.ref tb), .val (.ref tx), .val (.int 1), .val (.int 3), .val (.int 1), .val (.int o1)] [])) (fun t k => XS.ifNo X0.here hx rfl (hb hby d6_17) rfl ((if0 _ _).trans (tlt hc17_35).2.1) k) ?_
      refine own_by (T' := s₁) (g' := (mkF m 37 #[.val (.ref tb), .val (.ref tx), .val (.int 1), .val (.int 3), .val (.int 1), .val (.int o1)] [])) (fun t k => XS.goto X0.here hx rfl (pc0 := 20) (pc' := 37) rfl (hb hby d6_20) (by decide) (by decide) k) ?_
      refine own_by (T' := s₁) (g' := (mkF m 39 #[.val (.ref tb), .val (.ref tx), .val (.int 1), .val (.int 3), .val (.int 1), .val (.int o1)] [(.int 1)])) (fun t k => XS.iload X0.here hx rfl (hb hby d6_37) rfl k) ?_
      have hR : own_R (1 : Int32) (3 : Int32) o0 o1 o2 o3 = (1 : Int32) := by simp [own_R, own_rs, hc17_35]
      exact own_retI X0 hx Bd.notSynchronized Bd.returns (hb hby d6_39) (by decide) (by decide) (by rw [e0]; exact ⟨by rw [hR], N_, K_, by rw [hR]; exact V_tx⟩)
    · refine own_by (T' := s₁) (g' := (mkF m 23 #[.val (.ref tb), .val (.ref tx), .val (.int 1), .val (.int 3), .val (.int 1), .val (.int o1)] [])) (fun t k => XS.ifYes X0.here hx rfl (pc0 := 17) (pc' := 23) rfl (hb hby d6_17) rfl ((if0 _ _).trans (flt hc17_35).2.1) (by decide) (by decide) k) ?_
      refine own_by (T' := s₁) (g' := (mkF m 24 #[.val (.ref tb), .val (.ref tx), .val (.int 1), .val (.int 3), .val (.int 1), .val (.int o1)] [(.ref tx)])) (fun t k => XS.aloadN X0.here hx rfl (hb hby d6_23) rfl rfl k) ?_
      refine own_by (T' := s₁) (g' := (mkF m 26 #[.val (.ref tb), .val (.ref tx), .val (.int 1), .val (.int 3), .val (.int 1), .val (.int o1)] [(.int 1), (.ref tx)])) (fun t k => XS.iload X0.here hx rfl (hb hby d6_24) rfl k) ?_
      refine own_by (T' := s₁) (g' := (mkF m 27 #[.val (.ref tb), .val (.ref tx), .val (.int 1), .val (.int 3), .val (.int 1), .val (.int o1)] [(.ref tb), (.int 1), (.ref tx)])) (fun t k => XS.aloadN X0.here hx rfl (hb hby d6_26) rfl rfl k) ?_
      refine own_by (T' := s₁) (g' := (mkF m 29 #[.val (.ref tb), .val (.ref tx), .val (.int 1), .val (.int 3), .val (.int 1), .val (.int o1)] [(.int o1), (.ref tb), (.int 1), (.ref tx)])) (fun t k => XS.iload X0.here hx rfl (hb hby d6_27) rfl k) ?_
      refine own_by (T' := s₁) (g' := (mkF m 30 #[.val (.ref tb), .val (.ref tx), .val (.int 1), .val (.int 3), .val (.int 1), .val (.int o1)] [(.int (atv ct o1)), (.int 1), (.ref tx)])) (fun t k => X0.baloadBytes hx (j := o1) (v := (.int (atv ct o1))) (by rw [e0]; exact A_tb.1) (State.isArrayOf_alike hZ.alike A_tb.2.1) A_tb.2.2 (own_inb hB hc17_35 hby1) (own_at hB hc17_35 hby1) (g := (mkF m 29 #[.val (.ref tb), .val (.ref tx), .val (.int 1), .val (.int 3), .val (.int 1), .val (.int o1)] [(.int o1), (.ref tb), (.int 1), (.ref tx)])) rfl rfl (hb hby d6_29) _ k) ?_
      obtain ⟨cl36, Ar36, q36, S36, N36, Hs36, G36⟩ := id V_tx
      have hin36 : ¬ ((1 : Int32) < 0 ∨ cl36.slots.size ≤ ((1 : Int32)).toNatClampNeg) := inb_of S36 ⟨by decide, by decide⟩
      obtain ⟨T36, h36, X36, e36, W36, st36⟩ := stB X0 hx hZ e0 Ar36 (j := (1 : Int32)) hin36 (g := (mkF m 30 #[.val (.ref tb), .val (.ref tx), .val (.int 1), .val (.int 3), .val (.int 1), .val (.int o1)] [(.int (atv ct o1)), (.int 1), (.ref tx)])) rfl rfl (hb hby d6_30)
      have V_tx_ : Arv Z h36 tx kt .byte (4 : Int32) [(.int o0), (.int (nar .byte (atv ct o1))), (.int o2), (.int o3)] (.int 0) := Arv.set Ar36 q36 S36 N36 Hs36 G36 (fits_nar_byte _) W36 1 rfl (Nat.le_of_ble_eq_true rfl)
      have A_tb := A_tb.other W36 ne_tb_tx
      have Zle := Nat.le_trans Zle (Keep.of_wr W36).1
      have K_ := K_.wr W36 (Or.inl (List.mem_of_getElem? (i := 0) rfl))
      have V_tx := V_tx_
      have N_ := Fr.snoc X36 N_ g_tx
      refine own_by (T' := T36) (g' := (mkF m 31 #[.val (.ref tb), .val (.ref tx), .val (.int 1), .val (.int 3), .val (.int 1), .val (.int o1)] [])) (fun t k => st36 t k) ?_
      refine own_by (T' := T36) (g' := (mkF m 34 #[.val (.ref tb), .val (.ref tx), .val (.int 1), .val (.int 3), .val (.int 2), .val (.int o1)] [])) (fun t k => XS.iinc X36.here hx rfl (hb hby d6_31) rfl (l' := #[.val (.ref tb), .val (.ref tx), .val (.int 1), .val (.int 3), .val (.int 2), .val (.int o1)]) rfl k) ?_
      refine own_by (T' := T36) (g' := (mkF m 3 #[.val (.ref tb), .val (.ref tx), .val (.int 1), .val (.int 3), .val (.int 2), .val (.int o1)] [])) (fun t k => XS.goto X36.here hx rfl (pc0 := 34) (pc' := 3) rfl (hb hby d6_34) (by decide) (by decide) k) ?_
      refine own_by (T' := T36) (g' := (mkF m 5 #[.val (.ref tb), .val (.ref tx), .val (.int 1), .val (.int 3), .val (.int 2), .val (.int o1)] [(.int 2)])) (fun t k => XS.iload X36.here hx rfl (hb hby d6_3) rfl k) ?_
      refine own_by (T' := T36) (g' := (mkF m 6 #[.val (.ref tb), .val (.ref tx), .val (.int 1), .val (.int 3), .val (.int 2), .val (.int o1)] [(.int 3), (.int 2)])) (fun t k => XS.iloadN X36.here hx rfl (hb hby d6_5) rfl k) ?_
      refine own_by (T' := T36) (g' := (mkF m 9 #[.val (.ref tb), .val (.ref tx), .val (.int 1), .val (.int 3), .val (.int 2), .val (.int o1)] [])) (fun t k => XS.icmpNo X36.here hx rfl (hb hby d6_6) rfl (tlt (by decide)).2.1 k) ?_
      refine own_by (T' := T36) (g' := (mkF m 10 #[.val (.ref tb), .val (.ref tx), .val (.int 1), .val (.int 3), .val (.int 2), .val (.int o1)] [(.ref tx)])) (fun t k => XS.aloadN X36.here hx rfl (hb hby d6_9) rfl rfl k) ?_
      refine own_by (T' := T36) (g' := (mkF m 12 #[.val (.ref tb), .val (.ref tx), .val (.int 1), .val (.int 3), .val (.int 2), .val (.int o1)] [(.int 2), (.ref tx)])) (fun t k => XS.iload X36.here hx rfl (hb hby d6_10) rfl k) ?_
      obtain ⟨cl37, Ar37, q37, S37, N37, Hs37, G37⟩ := id V_tx
      have hin37 : ¬ ((2 : Int32) < 0 ∨ cl37.slots.size ≤ ((2 : Int32)).toNatClampNeg) := inb_of S37 ⟨by decide, by decide⟩
      have hat37 : cl37.slots[((2 : Int32)).toNatClampNeg]? = some (.int o2) := Hs37.at hin37 rfl
      refine own_by (T' := T36) (g' := (mkF m 13 #[.val (.ref tb), .val (.ref tx), .val (.int 1), .val (.int 3), .val (.int 2), .val (.int o1)] [(.int o2)])) (fun t k => X36.baloadBytes hx (j := (2 : Int32)) (v := (.int o2)) (by rw [e36]; exact Ar37.1) (State.isArrayOf_alike hZ.alike Ar37.2.1) Ar37.2.2 hin37 hat37 (g := (mkF m 12 #[.val (.ref tb), .val (.ref tx), .val (.int 1), .val (.int 3), .val (.int 2), .val (.int o1)] [(.int 2), (.ref tx)])) rfl rfl (hb hby d6_12) _ k) ?_
      refine own_by (T' := T36) (g' := (mkF m 15 #[.val (.ref tb), .val (.ref tx), .val (.int 1), .val (.int 3), .val (.int 2), .val (.int o2)] [])) (fun t k => XS.istore X36.here hx rfl (hb hby d6_13) rfl (l' := #[.val (.ref tb), .val (.ref tx), .val (.int 1), .val (.int 3), .val (.int 2), .val (.int o2)]) rfl k) ?_
      refine own_by (T' := T36) (g' := (mkF m 17 #[.val (.ref tb), .val (.ref tx), .val (.int 1), .val (.int 3), .val (.int 2), .val (.int o2)] [(.int o2)])) (fun t k => XS.iload X36.here hx rfl (hb hby d6_15) rfl k) ?_
      by_cases hc17_38 : o2 < (0 : Int32)
      · refine own_by (T' := T36) (g' := (mkF m 20 #[.val (.ref tb), .val (.ref tx), .val (.int 1), .val (.int 3), .val (.int 2), .val (.int o2)] [])) (fun t k => XS.ifNo X36.here hx rfl (hb hby d6_17) rfl ((if0 _ _).trans (tlt hc17_38).2.1) k) ?_
        refine own_by (T' := T36) (g' := (mkF m 37 #[.val (.ref tb), .val (.ref tx), .val (.int 1), .val (.int 3), .val (.int 2), .val (.int o2)] [])) (fun t k => XS.goto X36.here hx rfl (pc0 := 20) (pc' := 37) rfl (hb hby d6_20) (by decide) (by decide) k) ?_
        refine own_by (T' := T36) (g' := (mkF m 39 #[.val (.ref tb), .val (.ref tx), .val (.int 1), .val (.int 3), .val (.int 2), .val (.int o2)] [(.int 2)])) (fun t k => XS.iload X36.here hx rfl (hb hby d6_37) rfl k) ?_
        have hR : own_R (1 : Int32) (3 : Int32) o0 o1 o2 o3 = (2 : Int32) := by simp [own_R, own_rs, hc17_35, hc17_38]
        exact own_retI X36 hx Bd.notSynchronized Bd.returns (hb hby d6_39) (by decide) (by decide) (by rw [e36]; exact ⟨by rw [hR], N_, K_, by rw [hR]; exact V_tx⟩)
      · refine own_by (T' := T36) (g' := (mkF m 23 #[.val (.ref tb), .val (.ref tx), .val (.int 1), .val (.int 3), .val (.int 2), .val (.int o2)] [])) (fun t k => XS.ifYes X36.here hx rfl (pc0 := 17) (pc' := 23) rfl (hb hby d6_17) rfl ((if0 _ _).trans (flt hc17_38).2.1) (by decide) (by decide) k) ?_
        refine own_by (T' := T36) (g' := (mkF m 24 #[.val (.ref tb), .val (.ref tx), .val (.int 1), .val (.int 3), .val (.int 2), .val (.int o2)] [(.ref tx)])) (fun t k => XS.aloadN X36.here hx rfl (hb hby d6_23) rfl rfl k) ?_
        refine own_by (T' := T36) (g' := (mkF m 26 #[.val (.ref tb), .val (.ref tx), .val (.int 1), .val (.int 3), .val (.int 2), .val (.int o2)] [(.int 2), (.ref tx)])) (fun t k => XS.iload X36.here hx rfl (hb hby d6_24) rfl k) ?_
        refine own_by (T' := T36) (g' := (mkF m 27 #[.val (.ref tb), .val (.ref tx), .val (.int 1), .val (.int 3), .val (.int 2), .val (.int o2)] [(.ref tb), (.int 2), (.ref tx)])) (fun t k => XS.aloadN X36.here hx rfl (hb hby d6_26) rfl rfl k) ?_
        refine own_by (T' := T36) (g' := (mkF m 29 #[.val (.ref tb), .val (.ref tx), .val (.int 1), .val (.int 3), .val (.int 2), .val (.int o2)] [(.int o2), (.ref tb), (.int 2), (.ref tx)])) (fun t k => XS.iload X36.here hx rfl (hb hby d6_27) rfl k) ?_
        refine own_by (T' := T36) (g' := (mkF m 30 #[.val (.ref tb), .val (.ref tx), .val (.int 1), .val (.int 3), .val (.int 2), .val (.int o2)] [(.int (atv ct o2)), (.int 2), (.ref tx)])) (fun t k => X36.baloadBytes hx (j := o2) (v := (.int (atv ct o2))) (by rw [e36]; exact A_tb.1) (State.isArrayOf_alike hZ.alike A_tb.2.1) A_tb.2.2 (own_inb hB hc17_38 hby2) (own_at hB hc17_38 hby2) (g := (mkF m 29 #[.val (.ref tb), .val (.ref tx), .val (.int 1), .val (.int 3), .val (.int 2), .val (.int o2)] [(.int o2), (.ref tb), (.int 2), (.ref tx)])) rfl rfl (hb hby d6_29) _ k) ?_
        obtain ⟨cl39, Ar39, q39, S39, N39, Hs39, G39⟩ := id V_tx
        have hin39 : ¬ ((2 : Int32) < 0 ∨ cl39.slots.size ≤ ((2 : Int32)).toNatClampNeg) := inb_of S39 ⟨by decide, by decide⟩
        obtain ⟨T39, h39, X39, e39, W39, st39⟩ := stB X36 hx hZ e36 Ar39 (j := (2 : Int32)) hin39 (g := (mkF m 30 #[.val (.ref tb), .val (.ref tx), .val (.int 1), .val (.int 3), .val (.int 2), .val (.int o2)] [(.int (atv ct o2)), (.int 2), (.ref tx)])) rfl rfl (hb hby d6_30)
        have V_tx_ : Arv Z h39 tx kt .byte (4 : Int32) [(.int o0), (.int (nar .byte (atv ct o1))), (.int (nar .byte (atv ct o2))), (.int o3)] (.int 0) := Arv.set Ar39 q39 S39 N39 Hs39 G39 (fits_nar_byte _) W39 2 rfl (Nat.le_of_ble_eq_true rfl)
        have A_tb := A_tb.other W39 ne_tb_tx
        have Zle := Nat.le_trans Zle (Keep.of_wr W39).1
        have K_ := K_.wr W39 (Or.inl (List.mem_of_getElem? (i := 0) rfl))
        have V_tx := V_tx_
        have N_ := Fr.snoc X39 N_ g_tx
        refine own_by (T' := T39) (g' := (mkF m 31 #[.val (.ref tb), .val (.ref tx), .val (.int 1), .val (.int 3), .val (.int 2), .val (.int o2)] [])) (fun t k => st39 t k) ?_
        refine own_by (T' := T39) (g' := (mkF m 34 #[.val (.ref tb), .val (.ref tx), .val (.int 1), .val (.int 3), .val (.int 3), .val (.int o2)] [])) (fun t k => XS.iinc X39.here hx rfl (hb hby d6_31) rfl (l' := #[.val (.ref tb), .val (.ref tx), .val (.int 1), .val (.int 3), .val (.int 3), .val (.int o2)]) rfl k) ?_
        refine own_by (T' := T39) (g' := (mkF m 3 #[.val (.ref tb), .val (.ref tx), .val (.int 1), .val (.int 3), .val (.int 3), .val (.int o2)] [])) (fun t k => XS.goto X39.here hx rfl (pc0 := 34) (pc' := 3) rfl (hb hby d6_34) (by decide) (by decide) k) ?_
        refine own_by (T' := T39) (g' := (mkF m 5 #[.val (.ref tb), .val (.ref tx), .val (.int 1), .val (.int 3), .val (.int 3), .val (.int o2)] [(.int 3)])) (fun t k => XS.iload X39.here hx rfl (hb hby d6_3) rfl k) ?_
        refine own_by (T' := T39) (g' := (mkF m 6 #[.val (.ref tb), .val (.ref tx), .val (.int 1), .val (.int 3), .val (.int 3), .val (.int o2)] [(.int 3), (.int 3)])) (fun t k => XS.iloadN X39.here hx rfl (hb hby d6_5) rfl k) ?_
        refine own_by (T' := T39) (g' := (mkF m 37 #[.val (.ref tb), .val (.ref tx), .val (.int 1), .val (.int 3), .val (.int 3), .val (.int o2)] [])) (fun t k => XS.icmpYes X39.here hx rfl (pc0 := 6) (pc' := 37) rfl (hb hby d6_6) rfl (flt (by decide)).2.1 (by decide) (by decide) k) ?_
        refine own_by (T' := T39) (g' := (mkF m 39 #[.val (.ref tb), .val (.ref tx), .val (.int 1), .val (.int 3), .val (.int 3), .val (.int o2)] [(.int 3)])) (fun t k => XS.iload X39.here hx rfl (hb hby d6_37) rfl k) ?_
        have hR : own_R (1 : Int32) (3 : Int32) o0 o1 o2 o3 = (3 : Int32) := by simp [own_R, own_rs, hc17_35, hc17_38]
        exact own_retI X39 hx Bd.notSynchronized Bd.returns (hb hby d6_39) (by decide) (by decide) (by rw [e39]; exact ⟨by rw [hR], N_, K_, by rw [hR]; exact V_tx⟩)
  · refine own_by (T' := s₁) (g' := (mkF m 1 #[.val (.ref tb), .val (.ref tx), .val (.int 1), .val (.int 4), .unset, .unset] [(.int 1)])) (fun t k => XS.iloadN X0.here hx rfl (hb hby d6_0) rfl k) ?_
    refine own_by (T' := s₁) (g' := (mkF m 3 #[.val (.ref tb), .val (.ref tx), .val (.int 1), .val (.int 4), .val (.int 1), .unset] [])) (fun t k => XS.istore X0.here hx rfl (hb hby d6_1) rfl (l' := #[.val (.ref tb), .val (.ref tx), .val (.int 1), .val (.int 4), .val (.int 1), .unset]) rfl k) ?_
    refine own_by (T' := s₁) (g' := (mkF m 5 #[.val (.ref tb), .val (.ref tx), .val (.int 1), .val (.int 4), .val (.int 1), .unset] [(.int 1)])) (fun t k => XS.iload X0.here hx rfl (hb hby d6_3) rfl k) ?_
    refine own_by (T' := s₁) (g' := (mkF m 6 #[.val (.ref tb), .val (.ref tx), .val (.int 1), .val (.int 4), .val (.int 1), .unset] [(.int 4), (.int 1)])) (fun t k => XS.iloadN X0.here hx rfl (hb hby d6_5) rfl k) ?_
    refine own_by (T' := s₁) (g' := (mkF m 9 #[.val (.ref tb), .val (.ref tx), .val (.int 1), .val (.int 4), .val (.int 1), .unset] [])) (fun t k => XS.icmpNo X0.here hx rfl (hb hby d6_6) rfl (tlt (by decide)).2.1 k) ?_
    refine own_by (T' := s₁) (g' := (mkF m 10 #[.val (.ref tb), .val (.ref tx), .val (.int 1), .val (.int 4), .val (.int 1), .unset] [(.ref tx)])) (fun t k => XS.aloadN X0.here hx rfl (hb hby d6_9) rfl rfl k) ?_
    refine own_by (T' := s₁) (g' := (mkF m 12 #[.val (.ref tb), .val (.ref tx), .val (.int 1), .val (.int 4), .val (.int 1), .unset] [(.int 1), (.ref tx)])) (fun t k => XS.iload X0.here hx rfl (hb hby d6_10) rfl k) ?_
    obtain ⟨cl40, Ar40, q40, S40, N40, Hs40, G40⟩ := id V_tx
    have hin40 : ¬ ((1 : Int32) < 0 ∨ cl40.slots.size ≤ ((1 : Int32)).toNatClampNeg) := inb_of S40 ⟨by decide, by decide⟩
    have hat40 : cl40.slots[((1 : Int32)).toNatClampNeg]? = some (.int o1) := Hs40.at hin40 rfl
    refine own_by (T' := s₁) (g' := (mkF m 13 #[.val (.ref tb), .val (.ref tx), .val (.int 1), .val (.int 4), .val (.int 1), .unset] [(.int o1)])) (fun t k => X0.baloadBytes hx (j := (1 : Int32)) (v := (.int o1)) (by rw [e0]; exact Ar40.1) (State.isArrayOf_alike hZ.alike Ar40.2.1) Ar40.2.2 hin40 hat40 (g := (mkF m 12 #[.val (.ref tb), .val (.ref tx), .val (.int 1), .val (.int 4), .val (.int 1), .unset] [(.int 1), (.ref tx)])) rfl rfl (hb hby d6_12) _ k) ?_
    refine own_by (T' := s₁) (g' := (mkF m 15 #[.val (.ref tb), .val (.ref tx), .val (.int 1), .val (.int 4), .val (.int 1), .val (.int o1)] [])) (fun t k => XS.istore X0.here hx rfl (hb hby d6_13) rfl (l' := #[.val (.ref tb), .val (.ref tx), .val (.int 1), .val (.int 4), .val (.int 1), .val (.int o1)]) rfl k) ?_
    refine own_by (T' := s₁) (g' := (mkF m 17 #[.val (.ref tb), .val (.ref tx), .val (.int 1), .val (.int 4), .val (.int 1), .val (.int o1)] [(.int o1)])) (fun t k => XS.iload X0.here hx rfl (hb hby d6_15) rfl k) ?_
    by_cases hc17_41 : o1 < (0 : Int32)
    · refine own_by (T' := s₁) (g' := (mkF m 20 #[.val (.ref tb), .val (.ref tx), .val (.int 1), .val (.int 4), .val (.int 1), .val (.int o1)] [])) (fun t k => XS.ifNo X0.here hx rfl (hb hby d6_17) rfl ((if0 _ _).trans (tlt hc17_41).2.1) k) ?_
      refine own_by (T' := s₁) (g' := (mkF m 37 #[.val (.ref tb), .val (.ref tx), .val (.int 1), .val (.int 4), .val (.int 1), .val (.int o1)] [])) (fun t k => XS.goto X0.here hx rfl (pc0 := 20) (pc' := 37) rfl (hb hby d6_20) (by decide) (by decide) k) ?_
      refine own_by (T' := s₁) (g' := (mkF m 39 #[.val (.ref tb), .val (.ref tx), .val (.int 1), .val (.int 4), .val (.int 1), .val (.int o1)] [(.int 1)])) (fun t k => XS.iload X0.here hx rfl (hb hby d6_37) rfl k) ?_
      have hR : own_R (1 : Int32) (4 : Int32) o0 o1 o2 o3 = (1 : Int32) := by simp [own_R, own_rs, hc17_41]
      exact own_retI X0 hx Bd.notSynchronized Bd.returns (hb hby d6_39) (by decide) (by decide) (by rw [e0]; exact ⟨by rw [hR], N_, K_, by rw [hR]; exact V_tx⟩)
    · refine own_by (T' := s₁) (g' := (mkF m 23 #[.val (.ref tb), .val (.ref tx), .val (.int 1), .val (.int 4), .val (.int 1), .val (.int o1)] [])) (fun t k => XS.ifYes X0.here hx rfl (pc0 := 17) (pc' := 23) rfl (hb hby d6_17) rfl ((if0 _ _).trans (flt hc17_41).2.1) (by decide) (by decide) k) ?_
      refine own_by (T' := s₁) (g' := (mkF m 24 #[.val (.ref tb), .val (.ref tx), .val (.int 1), .val (.int 4), .val (.int 1), .val (.int o1)] [(.ref tx)])) (fun t k => XS.aloadN X0.here hx rfl (hb hby d6_23) rfl rfl k) ?_
      refine own_by (T' := s₁) (g' := (mkF m 26 #[.val (.ref tb), .val (.ref tx), .val (.int 1), .val (.int 4), .val (.int 1), .val (.int o1)] [(.int 1), (.ref tx)])) (fun t k => XS.iload X0.here hx rfl (hb hby d6_24) rfl k) ?_
      refine own_by (T' := s₁) (g' := (mkF m 27 #[.val (.ref tb), .val (.ref tx), .val (.int 1), .val (.int 4), .val (.int 1), .val (.int o1)] [(.ref tb), (.int 1), (.ref tx)])) (fun t k => XS.aloadN X0.here hx rfl (hb hby d6_26) rfl rfl k) ?_
      refine own_by (T' := s₁) (g' := (mkF m 29 #[.val (.ref tb), .val (.ref tx), .val (.int 1), .val (.int 4), .val (.int 1), .val (.int o1)] [(.int o1), (.ref tb), (.int 1), (.ref tx)])) (fun t k => XS.iload X0.here hx rfl (hb hby d6_27) rfl k) ?_
      refine own_by (T' := s₁) (g' := (mkF m 30 #[.val (.ref tb), .val (.ref tx), .val (.int 1), .val (.int 4), .val (.int 1), .val (.int o1)] [(.int (atv ct o1)), (.int 1), (.ref tx)])) (fun t k => X0.baloadBytes hx (j := o1) (v := (.int (atv ct o1))) (by rw [e0]; exact A_tb.1) (State.isArrayOf_alike hZ.alike A_tb.2.1) A_tb.2.2 (own_inb hB hc17_41 hby1) (own_at hB hc17_41 hby1) (g := (mkF m 29 #[.val (.ref tb), .val (.ref tx), .val (.int 1), .val (.int 4), .val (.int 1), .val (.int o1)] [(.int o1), (.ref tb), (.int 1), (.ref tx)])) rfl rfl (hb hby d6_29) _ k) ?_
      obtain ⟨cl42, Ar42, q42, S42, N42, Hs42, G42⟩ := id V_tx
      have hin42 : ¬ ((1 : Int32) < 0 ∨ cl42.slots.size ≤ ((1 : Int32)).toNatClampNeg) := inb_of S42 ⟨by decide, by decide⟩
      obtain ⟨T42, h42, X42, e42, W42, st42⟩ := stB X0 hx hZ e0 Ar42 (j := (1 : Int32)) hin42 (g := (mkF m 30 #[.val (.ref tb), .val (.ref tx), .val (.int 1), .val (.int 4), .val (.int 1), .val (.int o1)] [(.int (atv ct o1)), (.int 1), (.ref tx)])) rfl rfl (hb hby d6_30)
      have V_tx_ : Arv Z h42 tx kt .byte (4 : Int32) [(.int o0), (.int (nar .byte (atv ct o1))), (.int o2), (.int o3)] (.int 0) := Arv.set Ar42 q42 S42 N42 Hs42 G42 (fits_nar_byte _) W42 1 rfl (Nat.le_of_ble_eq_true rfl)
      have A_tb := A_tb.other W42 ne_tb_tx
      have Zle := Nat.le_trans Zle (Keep.of_wr W42).1
      have K_ := K_.wr W42 (Or.inl (List.mem_of_getElem? (i := 0) rfl))
      have V_tx := V_tx_
      have N_ := Fr.snoc X42 N_ g_tx
      refine own_by (T' := T42) (g' := (mkF m 31 #[.val (.ref tb), .val (.ref tx), .val (.int 1), .val (.int 4), .val (.int 1), .val (.int o1)] [])) (fun t k => st42 t k) ?_
      refine own_by (T' := T42) (g' := (mkF m 34 #[.val (.ref tb), .val (.ref tx), .val (.int 1), .val (.int 4), .val (.int 2), .val (.int o1)] [])) (fun t k => XS.iinc X42.here hx rfl (hb hby d6_31) rfl (l' := #[.val (.ref tb), .val (.ref tx), .val (.int 1), .val (.int 4), .val (.int 2), .val (.int o1)]) rfl k) ?_
      refine own_by (T' := T42) (g' := (mkF m 3 #[.val (.ref tb), .val (.ref tx), .val (.int 1), .val (.int 4), .val (.int 2), .val (.int o1)] [])) (fun t k => XS.goto X42.here hx rfl (pc0 := 34) (pc' := 3) rfl (hb hby d6_34) (by decide) (by decide) k) ?_
      refine own_by (T' := T42) (g' := (mkF m 5 #[.val (.ref tb), .val (.ref tx), .val (.int 1), .val (.int 4), .val (.int 2), .val (.int o1)] [(.int 2)])) (fun t k => XS.iload X42.here hx rfl (hb hby d6_3) rfl k) ?_
      refine own_by (T' := T42) (g' := (mkF m 6 #[.val (.ref tb), .val (.ref tx), .val (.int 1), .val (.int 4), .val (.int 2), .val (.int o1)] [(.int 4), (.int 2)])) (fun t k => XS.iloadN X42.here hx rfl (hb hby d6_5) rfl k) ?_
      refine own_by (T' := T42) (g' := (mkF m 9 #[.val (.ref tb), .val (.ref tx), .val (.int 1), .val (.int 4), .val (.int 2), .val (.int o1)] [])) (fun t k => XS.icmpNo X42.here hx rfl (hb hby d6_6) rfl (tlt (by decide)).2.1 k) ?_
      refine own_by (T' := T42) (g' := (mkF m 10 #[.val (.ref tb), .val (.ref tx), .val (.int 1), .val (.int 4), .val (.int 2), .val (.int o1)] [(.ref tx)])) (fun t k => XS.aloadN X42.here hx rfl (hb hby d6_9) rfl rfl k) ?_
      refine own_by (T' := T42) (g' := (mkF m 12 #[.val (.ref tb), .val (.ref tx), .val (.int 1), .val (.int 4), .val (.int 2), .val (.int o1)] [(.int 2), (.ref tx)])) (fun t k => XS.iload X42.here hx rfl (hb hby d6_10) rfl k) ?_
      obtain ⟨cl43, Ar43, q43, S43, N43, Hs43, G43⟩ := id V_tx
      have hin43 : ¬ ((2 : Int32) < 0 ∨ cl43.slots.size ≤ ((2 : Int32)).toNatClampNeg) := inb_of S43 ⟨by decide, by decide⟩
      have hat43 : cl43.slots[((2 : Int32)).toNatClampNeg]? = some (.int o2) := Hs43.at hin43 rfl
      refine own_by (T' := T42) (g' := (mkF m 13 #[.val (.ref tb), .val (.ref tx), .val (.int 1), .val (.int 4), .val (.int 2), .val (.int o1)] [(.int o2)])) (fun t k => X42.baloadBytes hx (j := (2 : Int32)) (v := (.int o2)) (by rw [e42]; exact Ar43.1) (State.isArrayOf_alike hZ.alike Ar43.2.1) Ar43.2.2 hin43 hat43 (g := (mkF m 12 #[.val (.ref tb), .val (.ref tx), .val (.int 1), .val (.int 4), .val (.int 2), .val (.int o1)] [(.int 2), (.ref tx)])) rfl rfl (hb hby d6_12) _ k) ?_
      refine own_by (T' := T42) (g' := (mkF m 15 #[.val (.ref tb), .val (.ref tx), .val (.int 1), .val (.int 4), .val (.int 2), .val (.int o2)] [])) (fun t k => XS.istore X42.here hx rfl (hb hby d6_13) rfl (l' := #[.val (.ref tb), .val (.ref tx), .val (.int 1), .val (.int 4), .val (.int 2), .val (.int o2)]) rfl k) ?_
      refine own_by (T' := T42) (g' := (mkF m 17 #[.val (.ref tb), .val (.ref tx), .val (.int 1), .val (.int 4), .val (.int 2), .val (.int o2)] [(.int o2)])) (fun t k => XS.iload X42.here hx rfl (hb hby d6_15) rfl k) ?_
      by_cases hc17_44 : o2 < (0 : Int32)
      · refine own_by (T' := T42) (g' := (mkF m 20 #[.val (.ref tb), .val (.ref tx), .val (.int 1), .val (.int 4), .val (.int 2), .val (.int o2)] [])) (fun t k => XS.ifNo X42.here hx rfl (hb hby d6_17) rfl ((if0 _ _).trans (tlt hc17_44).2.1) k) ?_
        refine own_by (T' := T42) (g' := (mkF m 37 #[.val (.ref tb), .val (.ref tx), .val (.int 1), .val (.int 4), .val (.int 2), .val (.int o2)] [])) (fun t k => XS.goto X42.here hx rfl (pc0 := 20) (pc' := 37) rfl (hb hby d6_20) (by decide) (by decide) k) ?_
        refine own_by (T' := T42) (g' := (mkF m 39 #[.val (.ref tb), .val (.ref tx), .val (.int 1), .val (.int 4), .val (.int 2), .val (.int o2)] [(.int 2)])) (fun t k => XS.iload X42.here hx rfl (hb hby d6_37) rfl k) ?_
        have hR : own_R (1 : Int32) (4 : Int32) o0 o1 o2 o3 = (2 : Int32) := by simp [own_R, own_rs, hc17_41, hc17_44]
        exact own_retI X42 hx Bd.notSynchronized Bd.returns (hb hby d6_39) (by decide) (by decide) (by rw [e42]; exact ⟨by rw [hR], N_, K_, by rw [hR]; exact V_tx⟩)
      · refine own_by (T' := T42) (g' := (mkF m 23 #[.val (.ref tb), .val (.ref tx), .val (.int 1), .val (.int 4), .val (.int 2), .val (.int o2)] [])) (fun t k => XS.ifYes X42.here hx rfl (pc0 := 17) (pc' := 23) rfl (hb hby d6_17) rfl ((if0 _ _).trans (flt hc17_44).2.1) (by decide) (by decide) k) ?_
        refine own_by (T' := T42) (g' := (mkF m 24 #[.val (.ref tb), .val (.ref tx), .val (.int 1), .val (.int 4), .val (.int 2), .val (.int o2)] [(.ref tx)])) (fun t k => XS.aloadN X42.here hx rfl (hb hby d6_23) rfl rfl k) ?_
        refine own_by (T' := T42) (g' := (mkF m 26 #[.val (.ref tb), .val (.ref tx), .val (.int 1), .val (.int 4), .val (.int 2), .val (.int o2)] [(.int 2), (.ref tx)])) (fun t k => XS.iload X42.here hx rfl (hb hby d6_24) rfl k) ?_
        refine own_by (T' := T42) (g' := (mkF m 27 #[.val (.ref tb), .val (.ref tx), .val (.int 1), .val (.int 4), .val (.int 2), .val (.int o2)] [(.ref tb), (.int 2), (.ref tx)])) (fun t k => XS.aloadN X42.here hx rfl (hb hby d6_26) rfl rfl k) ?_
        refine own_by (T' := T42) (g' := (mkF m 29 #[.val (.ref tb), .val (.ref tx), .val (.int 1), .val (.int 4), .val (.int 2), .val (.int o2)] [(.int o2), (.ref tb), (.int 2), (.ref tx)])) (fun t k => XS.iload X42.here hx rfl (hb hby d6_27) rfl k) ?_
        refine own_by (T' := T42) (g' := (mkF m 30 #[.val (.ref tb), .val (.ref tx), .val (.int 1), .val (.int 4), .val (.int 2), .val (.int o2)] [(.int (atv ct o2)), (.int 2), (.ref tx)])) (fun t k => X42.baloadBytes hx (j := o2) (v := (.int (atv ct o2))) (by rw [e42]; exact A_tb.1) (State.isArrayOf_alike hZ.alike A_tb.2.1) A_tb.2.2 (own_inb hB hc17_44 hby2) (own_at hB hc17_44 hby2) (g := (mkF m 29 #[.val (.ref tb), .val (.ref tx), .val (.int 1), .val (.int 4), .val (.int 2), .val (.int o2)] [(.int o2), (.ref tb), (.int 2), (.ref tx)])) rfl rfl (hb hby d6_29) _ k) ?_
        obtain ⟨cl45, Ar45, q45, S45, N45, Hs45, G45⟩ := id V_tx
        have hin45 : ¬ ((2 : Int32) < 0 ∨ cl45.slots.size ≤ ((2 : Int32)).toNatClampNeg) := inb_of S45 ⟨by decide, by decide⟩
        obtain ⟨T45, h45, X45, e45, W45, st45⟩ := stB X42 hx hZ e42 Ar45 (j := (2 : Int32)) hin45 (g := (mkF m 30 #[.val (.ref tb), .val (.ref tx), .val (.int 1), .val (.int 4), .val (.int 2), .val (.int o2)] [(.int (atv ct o2)), (.int 2), (.ref tx)])) rfl rfl (hb hby d6_30)
        have V_tx_ : Arv Z h45 tx kt .byte (4 : Int32) [(.int o0), (.int (nar .byte (atv ct o1))), (.int (nar .byte (atv ct o2))), (.int o3)] (.int 0) := Arv.set Ar45 q45 S45 N45 Hs45 G45 (fits_nar_byte _) W45 2 rfl (Nat.le_of_ble_eq_true rfl)
        have A_tb := A_tb.other W45 ne_tb_tx
        have Zle := Nat.le_trans Zle (Keep.of_wr W45).1
        have K_ := K_.wr W45 (Or.inl (List.mem_of_getElem? (i := 0) rfl))
        have V_tx := V_tx_
        have N_ := Fr.snoc X45 N_ g_tx
        refine own_by (T' := T45) (g' := (mkF m 31 #[.val (.ref tb), .val (.ref tx), .val (.int 1), .val (.int 4), .val (.int 2), .val (.int o2)] [])) (fun t k => st45 t k) ?_
        refine own_by (T' := T45) (g' := (mkF m 34 #[.val (.ref tb), .val (.ref tx), .val (.int 1), .val (.int 4), .val (.int 3), .val (.int o2)] [])) (fun t k => XS.iinc X45.here hx rfl (hb hby d6_31) rfl (l' := #[.val (.ref tb), .val (.ref tx), .val (.int 1), .val (.int 4), .val (.int 3), .val (.int o2)]) rfl k) ?_
        refine own_by (T' := T45) (g' := (mkF m 3 #[.val (.ref tb), .val (.ref tx), .val (.int 1), .val (.int 4), .val (.int 3), .val (.int o2)] [])) (fun t k => XS.goto X45.here hx rfl (pc0 := 34) (pc' := 3) rfl (hb hby d6_34) (by decide) (by decide) k) ?_
        refine own_by (T' := T45) (g' := (mkF m 5 #[.val (.ref tb), .val (.ref tx), .val (.int 1), .val (.int 4), .val (.int 3), .val (.int o2)] [(.int 3)])) (fun t k => XS.iload X45.here hx rfl (hb hby d6_3) rfl k) ?_
        refine own_by (T' := T45) (g' := (mkF m 6 #[.val (.ref tb), .val (.ref tx), .val (.int 1), .val (.int 4), .val (.int 3), .val (.int o2)] [(.int 4), (.int 3)])) (fun t k => XS.iloadN X45.here hx rfl (hb hby d6_5) rfl k) ?_
        refine own_by (T' := T45) (g' := (mkF m 9 #[.val (.ref tb), .val (.ref tx), .val (.int 1), .val (.int 4), .val (.int 3), .val (.int o2)] [])) (fun t k => XS.icmpNo X45.here hx rfl (hb hby d6_6) rfl (tlt (by decide)).2.1 k) ?_
        refine own_by (T' := T45) (g' := (mkF m 10 #[.val (.ref tb), .val (.ref tx), .val (.int 1), .val (.int 4), .val (.int 3), .val (.int o2)] [(.ref tx)])) (fun t k => XS.aloadN X45.here hx rfl (hb hby d6_9) rfl rfl k) ?_
        refine own_by (T' := T45) (g' := (mkF m 12 #[.val (.ref tb), .val (.ref tx), .val (.int 1), .val (.int 4), .val (.int 3), .val (.int o2)] [(.int 3), (.ref tx)])) (fun t k => XS.iload X45.here hx rfl (hb hby d6_10) rfl k) ?_
        obtain ⟨cl46, Ar46, q46, S46, N46, Hs46, G46⟩ := id V_tx
        have hin46 : ¬ ((3 : Int32) < 0 ∨ cl46.slots.size ≤ ((3 : Int32)).toNatClampNeg) := inb_of S46 ⟨by decide, by decide⟩
        have hat46 : cl46.slots[((3 : Int32)).toNatClampNeg]? = some (.int o3) := Hs46.at hin46 rfl
        refine own_by (T' := T45) (g' := (mkF m 13 #[.val (.ref tb), .val (.ref tx), .val (.int 1), .val (.int 4), .val (.int 3), .val (.int o2)] [(.int o3)])) (fun t k => X45.baloadBytes hx (j := (3 : Int32)) (v := (.int o3)) (by rw [e45]; exact Ar46.1) (State.isArrayOf_alike hZ.alike Ar46.2.1) Ar46.2.2 hin46 hat46 (g := (mkF m 12 #[.val (.ref tb), .val (.ref tx), .val (.int 1), .val (.int 4), .val (.int 3), .val (.int o2)] [(.int 3), (.ref tx)])) rfl rfl (hb hby d6_12) _ k) ?_
        refine own_by (T' := T45) (g' := (mkF m 15 #[.val (.ref tb), .val (.ref tx), .val (.int 1), .val (.int 4), .val (.int 3), .val (.int o3)] [])) (fun t k => XS.istore X45.here hx rfl (hb hby d6_13) rfl (l' := #[.val (.ref tb), .val (.ref tx), .val (.int 1), .val (.int 4), .val (.int 3), .val (.int o3)]) rfl k) ?_
        refine own_by (T' := T45) (g' := (mkF m 17 #[.val (.ref tb), .val (.ref tx), .val (.int 1), .val (.int 4), .val (.int 3), .val (.int o3)] [(.int o3)])) (fun t k => XS.iload X45.here hx rfl (hb hby d6_15) rfl k) ?_
        by_cases hc17_47 : o3 < (0 : Int32)
        · refine own_by (T' := T45) (g' := (mkF m 20 #[.val (.ref tb), .val (.ref tx), .val (.int 1), .val (.int 4), .val (.int 3), .val (.int o3)] [])) (fun t k => XS.ifNo X45.here hx rfl (hb hby d6_17) rfl ((if0 _ _).trans (tlt hc17_47).2.1) k) ?_
          refine own_by (T' := T45) (g' := (mkF m 37 #[.val (.ref tb), .val (.ref tx), .val (.int 1), .val (.int 4), .val (.int 3), .val (.int o3)] [])) (fun t k => XS.goto X45.here hx rfl (pc0 := 20) (pc' := 37) rfl (hb hby d6_20) (by decide) (by decide) k) ?_
          refine own_by (T' := T45) (g' := (mkF m 39 #[.val (.ref tb), .val (.ref tx), .val (.int 1), .val (.int 4), .val (.int 3), .val (.int o3)] [(.int 3)])) (fun t k => XS.iload X45.here hx rfl (hb hby d6_37) rfl k) ?_
          have hR : own_R (1 : Int32) (4 : Int32) o0 o1 o2 o3 = (3 : Int32) := by simp [own_R, own_rs, hc17_41, hc17_44, hc17_47]
          exact own_retI X45 hx Bd.notSynchronized Bd.returns (hb hby d6_39) (by decide) (by decide) (by rw [e45]; exact ⟨by rw [hR], N_, K_, by rw [hR]; exact V_tx⟩)
        · refine own_by (T' := T45) (g' := (mkF m 23 #[.val (.ref tb), .val (.ref tx), .val (.int 1), .val (.int 4), .val (.int 3), .val (.int o3)] [])) (fun t k => XS.ifYes X45.here hx rfl (pc0 := 17) (pc' := 23) rfl (hb hby d6_17) rfl ((if0 _ _).trans (flt hc17_47).2.1) (by decide) (by decide) k) ?_
          refine own_by (T' := T45) (g' := (mkF m 24 #[.val (.ref tb), .val (.ref tx), .val (.int 1), .val (.int 4), .val (.int 3), .val (.int o3)] [(.ref tx)])) (fun t k => XS.aloadN X45.here hx rfl (hb hby d6_23) rfl rfl k) ?_
          refine own_by (T' := T45) (g' := (mkF m 26 #[.val (.ref tb), .val (.ref tx), .val (.int 1), .val (.int 4), .val (.int 3), .val (.int o3)] [(.int 3), (.ref tx)])) (fun t k => XS.iload X45.here hx rfl (hb hby d6_24) rfl k) ?_
          refine own_by (T' := T45) (g' := (mkF m 27 #[.val (.ref tb), .val (.ref tx), .val (.int 1), .val (.int 4), .val (.int 3), .val (.int o3)] [(.ref tb), (.int 3), (.ref tx)])) (fun t k => XS.aloadN X45.here hx rfl (hb hby d6_26) rfl rfl k) ?_
          refine own_by (T' := T45) (g' := (mkF m 29 #[.val (.ref tb), .val (.ref tx), .val (.int 1), .val (.int 4), .val (.int 3), .val (.int o3)] [(.int o3), (.ref tb), (.int 3), (.ref tx)])) (fun t k => XS.iload X45.here hx rfl (hb hby d6_27) rfl k) ?_
          refine own_by (T' := T45) (g' := (mkF m 30 #[.val (.ref tb), .val (.ref tx), .val (.int 1), .val (.int 4), .val (.int 3), .val (.int o3)] [(.int (atv ct o3)), (.int 3), (.ref tx)])) (fun t k => X45.baloadBytes hx (j := o3) (v := (.int (atv ct o3))) (by rw [e45]; exact A_tb.1) (State.isArrayOf_alike hZ.alike A_tb.2.1) A_tb.2.2 (own_inb hB hc17_47 hby3) (own_at hB hc17_47 hby3) (g := (mkF m 29 #[.val (.ref tb), .val (.ref tx), .val (.int 1), .val (.int 4), .val (.int 3), .val (.int o3)] [(.int o3), (.ref tb), (.int 3), (.ref tx)])) rfl rfl (hb hby d6_29) _ k) ?_
          obtain ⟨cl48, Ar48, q48, S48, N48, Hs48, G48⟩ := id V_tx
          have hin48 : ¬ ((3 : Int32) < 0 ∨ cl48.slots.size ≤ ((3 : Int32)).toNatClampNeg) := inb_of S48 ⟨by decide, by decide⟩
          obtain ⟨T48, h48, X48, e48, W48, st48⟩ := stB X45 hx hZ e45 Ar48 (j := (3 : Int32)) hin48 (g := (mkF m 30 #[.val (.ref tb), .val (.ref tx), .val (.int 1), .val (.int 4), .val (.int 3), .val (.int o3)] [(.int (atv ct o3)), (.int 3), (.ref tx)])) rfl rfl (hb hby d6_30)
          have V_tx_ : Arv Z h48 tx kt .byte (4 : Int32) [(.int o0), (.int (nar .byte (atv ct o1))), (.int (nar .byte (atv ct o2))), (.int (nar .byte (atv ct o3)))] (.int 0) := Arv.set Ar48 q48 S48 N48 Hs48 G48 (fits_nar_byte _) W48 3 rfl (Nat.le_of_ble_eq_true rfl)
          have A_tb := A_tb.other W48 ne_tb_tx
          have Zle := Nat.le_trans Zle (Keep.of_wr W48).1
          have K_ := K_.wr W48 (Or.inl (List.mem_of_getElem? (i := 0) rfl))
          have V_tx := V_tx_
          have N_ := Fr.snoc X48 N_ g_tx
          refine own_by (T' := T48) (g' := (mkF m 31 #[.val (.ref tb), .val (.ref tx), .val (.int 1), .val (.int 4), .val (.int 3), .val (.int o3)] [])) (fun t k => st48 t k) ?_
          refine own_by (T' := T48) (g' := (mkF m 34 #[.val (.ref tb), .val (.ref tx), .val (.int 1), .val (.int 4), .val (.int 4), .val (.int o3)] [])) (fun t k => XS.iinc X48.here hx rfl (hb hby d6_31) rfl (l' := #[.val (.ref tb), .val (.ref tx), .val (.int 1), .val (.int 4), .val (.int 4), .val (.int o3)]) rfl k) ?_
          refine own_by (T' := T48) (g' := (mkF m 3 #[.val (.ref tb), .val (.ref tx), .val (.int 1), .val (.int 4), .val (.int 4), .val (.int o3)] [])) (fun t k => XS.goto X48.here hx rfl (pc0 := 34) (pc' := 3) rfl (hb hby d6_34) (by decide) (by decide) k) ?_
          refine own_by (T' := T48) (g' := (mkF m 5 #[.val (.ref tb), .val (.ref tx), .val (.int 1), .val (.int 4), .val (.int 4), .val (.int o3)] [(.int 4)])) (fun t k => XS.iload X48.here hx rfl (hb hby d6_3) rfl k) ?_
          refine own_by (T' := T48) (g' := (mkF m 6 #[.val (.ref tb), .val (.ref tx), .val (.int 1), .val (.int 4), .val (.int 4), .val (.int o3)] [(.int 4), (.int 4)])) (fun t k => XS.iloadN X48.here hx rfl (hb hby d6_5) rfl k) ?_
          refine own_by (T' := T48) (g' := (mkF m 37 #[.val (.ref tb), .val (.ref tx), .val (.int 1), .val (.int 4), .val (.int 4), .val (.int o3)] [])) (fun t k => XS.icmpYes X48.here hx rfl (pc0 := 6) (pc' := 37) rfl (hb hby d6_6) rfl (flt (by decide)).2.1 (by decide) (by decide) k) ?_
          refine own_by (T' := T48) (g' := (mkF m 39 #[.val (.ref tb), .val (.ref tx), .val (.int 1), .val (.int 4), .val (.int 4), .val (.int o3)] [(.int 4)])) (fun t k => XS.iload X48.here hx rfl (hb hby d6_37) rfl k) ?_
          have hR : own_R (1 : Int32) (4 : Int32) o0 o1 o2 o3 = (4 : Int32) := by simp [own_R, own_rs, hc17_41, hc17_44, hc17_47]
          exact own_retI X48 hx Bd.notSynchronized Bd.returns (hb hby d6_39) (by decide) (by decide) (by rw [e48]; exact ⟨by rw [hR], N_, K_, by rw [hR]; exact V_tx⟩)
  · refine own_by (T' := s₁) (g' := (mkF m 1 #[.val (.ref tb), .val (.ref tx), .val (.int 2), .val (.int 2), .unset, .unset] [(.int 2)])) (fun t k => XS.iloadN X0.here hx rfl (hb hby d6_0) rfl k) ?_
    refine own_by (T' := s₁) (g' := (mkF m 3 #[.val (.ref tb), .val (.ref tx), .val (.int 2), .val (.int 2), .val (.int 2), .unset] [])) (fun t k => XS.istore X0.here hx rfl (hb hby d6_1) rfl (l' := #[.val (.ref tb), .val (.ref tx), .val (.int 2), .val (.int 2), .val (.int 2), .unset]) rfl k) ?_
    refine own_by (T' := s₁) (g' := (mkF m 5 #[.val (.ref tb), .val (.ref tx), .val (.int 2), .val (.int 2), .val (.int 2), .unset] [(.int 2)])) (fun t k => XS.iload X0.here hx rfl (hb hby d6_3) rfl k) ?_
    refine own_by (T' := s₁) (g' := (mkF m 6 #[.val (.ref tb), .val (.ref tx), .val (.int 2), .val (.int 2), .val (.int 2), .unset] [(.int 2), (.int 2)])) (fun t k => XS.iloadN X0.here hx rfl (hb hby d6_5) rfl k) ?_
    refine own_by (T' := s₁) (g' := (mkF m 37 #[.val (.ref tb), .val (.ref tx), .val (.int 2), .val (.int 2), .val (.int 2), .unset] [])) (fun t k => XS.icmpYes X0.here hx rfl (pc0 := 6) (pc' := 37) rfl (hb hby d6_6) rfl (flt (by decide)).2.1 (by decide) (by decide) k) ?_
    refine own_by (T' := s₁) (g' := (mkF m 39 #[.val (.ref tb), .val (.ref tx), .val (.int 2), .val (.int 2), .val (.int 2), .unset] [(.int 2)])) (fun t k => XS.iload X0.here hx rfl (hb hby d6_37) rfl k) ?_
    have hR : own_R (2 : Int32) (2 : Int32) o0 o1 o2 o3 = (2 : Int32) := by simp [own_R, own_rs]
    exact own_retI X0 hx Bd.notSynchronized Bd.returns (hb hby d6_39) (by decide) (by decide) (by rw [e0]; exact ⟨by rw [hR], N_, K_, by rw [hR]; exact V_tx⟩)
  · refine own_by (T' := s₁) (g' := (mkF m 1 #[.val (.ref tb), .val (.ref tx), .val (.int 2), .val (.int 3), .unset, .unset] [(.int 2)])) (fun t k => XS.iloadN X0.here hx rfl (hb hby d6_0) rfl k) ?_
    refine own_by (T' := s₁) (g' := (mkF m 3 #[.val (.ref tb), .val (.ref tx), .val (.int 2), .val (.int 3), .val (.int 2), .unset] [])) (fun t k => XS.istore X0.here hx rfl (hb hby d6_1) rfl (l' := #[.val (.ref tb), .val (.ref tx), .val (.int 2), .val (.int 3), .val (.int 2), .unset]) rfl k) ?_
    refine own_by (T' := s₁) (g' := (mkF m 5 #[.val (.ref tb), .val (.ref tx), .val (.int 2), .val (.int 3), .val (.int 2), .unset] [(.int 2)])) (fun t k => XS.iload X0.here hx rfl (hb hby d6_3) rfl k) ?_
    refine own_by (T' := s₁) (g' := (mkF m 6 #[.val (.ref tb), .val (.ref tx), .val (.int 2), .val (.int 3), .val (.int 2), .unset] [(.int 3), (.int 2)])) (fun t k => XS.iloadN X0.here hx rfl (hb hby d6_5) rfl k) ?_
    refine own_by (T' := s₁) (g' := (mkF m 9 #[.val (.ref tb), .val (.ref tx), .val (.int 2), .val (.int 3), .val (.int 2), .unset] [])) (fun t k => XS.icmpNo X0.here hx rfl (hb hby d6_6) rfl (tlt (by decide)).2.1 k) ?_
    refine own_by (T' := s₁) (g' := (mkF m 10 #[.val (.ref tb), .val (.ref tx), .val (.int 2), .val (.int 3), .val (.int 2), .unset] [(.ref tx)])) (fun t k => XS.aloadN X0.here hx rfl (hb hby d6_9) rfl rfl k) ?_
    refine own_by (T' := s₁) (g' := (mkF m 12 #[.val (.ref tb), .val (.ref tx), .val (.int 2), .val (.int 3), .val (.int 2), .unset] [(.int 2), (.ref tx)])) (fun t k => XS.iload X0.here hx rfl (hb hby d6_10) rfl k) ?_
    obtain ⟨cl49, Ar49, q49, S49, N49, Hs49, G49⟩ := id V_tx
    have hin49 : ¬ ((2 : Int32) < 0 ∨ cl49.slots.size ≤ ((2 : Int32)).toNatClampNeg) := inb_of S49 ⟨by decide, by decide⟩
    have hat49 : cl49.slots[((2 : Int32)).toNatClampNeg]? = some (.int o2) := Hs49.at hin49 rfl
    refine own_by (T' := s₁) (g' := (mkF m 13 #[.val (.ref tb), .val (.ref tx), .val (.int 2), .val (.int 3), .val (.int 2), .unset] [(.int o2)])) (fun t k => X0.baloadBytes hx (j := (2 : Int32)) (v := (.int o2)) (by rw [e0]; exact Ar49.1) (State.isArrayOf_alike hZ.alike Ar49.2.1) Ar49.2.2 hin49 hat49 (g := (mkF m 12 #[.val (.ref tb), .val (.ref tx), .val (.int 2), .val (.int 3), .val (.int 2), .unset] [(.int 2), (.ref tx)])) rfl rfl (hb hby d6_12) _ k) ?_
    refine own_by (T' := s₁) (g' := (mkF m 15 #[.val (.ref tb), .val (.ref tx), .val (.int 2), .val (.int 3), .val (.int 2), .val (.int o2)] [])) (fun t k => XS.istore X0.here hx rfl (hb hby d6_13) rfl (l' := #[.val (.ref tb), .val (.ref tx), .val (.int 2), .val (.int 3), .val (.int 2), .val (.int o2)]) rfl k) ?_
    refine own_by (T' := s₁) (g' := (mkF m 17 #[.val (.ref tb), .val (.ref tx), .val (.int 2), .val (.int 3), .val (.int 2), .val (.int o2)] [(.int o2)])) (fun t k => XS.iload X0.here hx rfl (hb hby d6_15) rfl k) ?_
    by_cases hc17_50 : o2 < (0 : Int32)
    · refine own_by (T' := s₁) (g' := (mkF m 20 #[.val (.ref tb), .val (.ref tx), .val (.int 2), .val (.int 3), .val (.int 2), .val (.int o2)] [])) (fun t k => XS.ifNo X0.here hx rfl (hb hby d6_17) rfl ((if0 _ _).trans (tlt hc17_50).2.1) k) ?_
      refine own_by (T' := s₁) (g' := (mkF m 37 #[.val (.ref tb), .val (.ref tx), .val (.int 2), .val (.int 3), .val (.int 2), .val (.int o2)] [])) (fun t k => XS.goto X0.here hx rfl (pc0 := 20) (pc' := 37) rfl (hb hby d6_20) (by decide) (by decide) k) ?_
      refine own_by (T' := s₁) (g' := (mkF m 39 #[.val (.ref tb), .val (.ref tx), .val (.int 2), .val (.int 3), .val (.int 2), .val (.int o2)] [(.int 2)])) (fun t k => XS.iload X0.here hx rfl (hb hby d6_37) rfl k) ?_
      have hR : own_R (2 : Int32) (3 : Int32) o0 o1 o2 o3 = (2 : Int32) := by simp [own_R, own_rs, hc17_50]
      exact own_retI X0 hx Bd.notSynchronized Bd.returns (hb hby d6_39) (by decide) (by decide) (by rw [e0]; exact ⟨by rw [hR], N_, K_, by rw [hR]; exact V_tx⟩)
    · refine own_by (T' := s₁) (g' := (mkF m 23 #[.val (.ref tb), .val (.ref tx), .val (.int 2), .val (.int 3), .val (.int 2), .val (.int o2)] [])) (fun t k => XS.ifYes X0.here hx rfl (pc0 := 17) (pc' := 23) rfl (hb hby d6_17) rfl ((if0 _ _).trans (flt hc17_50).2.1) (by decide) (by decide) k) ?_
      refine own_by (T' := s₁) (g' := (mkF m 24 #[.val (.ref tb), .val (.ref tx), .val (.int 2), .val (.int 3), .val (.int 2), .val (.int o2)] [(.ref tx)])) (fun t k => XS.aloadN X0.here hx rfl (hb hby d6_23) rfl rfl k) ?_
      refine own_by (T' := s₁) (g' := (mkF m 26 #[.val (.ref tb), .val (.ref tx), .val (.int 2), .val (.int 3), .val (.int 2), .val (.int o2)] [(.int 2), (.ref tx)])) (fun t k => XS.iload X0.here hx rfl (hb hby d6_24) rfl k) ?_
      refine own_by (T' := s₁) (g' := (mkF m 27 #[.val (.ref tb), .val (.ref tx), .val (.int 2), .val (.int 3), .val (.int 2), .val (.int o2)] [(.ref tb), (.int 2), (.ref tx)])) (fun t k => XS.aloadN X0.here hx rfl (hb hby d6_26) rfl rfl k) ?_
      refine own_by (T' := s₁) (g' := (mkF m 29 #[.val (.ref tb), .val (.ref tx), .val (.int 2), .val (.int 3), .val (.int 2), .val (.int o2)] [(.int o2), (.ref tb), (.int 2), (.ref tx)])) (fun t k => XS.iload X0.here hx rfl (hb hby d6_27) rfl k) ?_
      refine own_by (T' := s₁) (g' := (mkF m 30 #[.val (.ref tb), .val (.ref tx), .val (.int 2), .val (.int 3), .val (.int 2), .val (.int o2)] [(.int (atv ct o2)), (.int 2), (.ref tx)])) (fun t k => X0.baloadBytes hx (j := o2) (v := (.int (atv ct o2))) (by rw [e0]; exact A_tb.1) (State.isArrayOf_alike hZ.alike A_tb.2.1) A_tb.2.2 (own_inb hB hc17_50 hby2) (own_at hB hc17_50 hby2) (g := (mkF m 29 #[.val (.ref tb), .val (.ref tx), .val (.int 2), .val (.int 3), .val (.int 2), .val (.int o2)] [(.int o2), (.ref tb), (.int 2), (.ref tx)])) rfl rfl (hb hby d6_29) _ k) ?_
      obtain ⟨cl51, Ar51, q51, S51, N51, Hs51, G51⟩ := id V_tx
      have hin51 : ¬ ((2 : Int32) < 0 ∨ cl51.slots.size ≤ ((2 : Int32)).toNatClampNeg) := inb_of S51 ⟨by decide, by decide⟩
      obtain ⟨T51, h51, X51, e51, W51, st51⟩ := stB X0 hx hZ e0 Ar51 (j := (2 : Int32)) hin51 (g := (mkF m 30 #[.val (.ref tb), .val (.ref tx), .val (.int 2), .val (.int 3), .val (.int 2), .val (.int o2)] [(.int (atv ct o2)), (.int 2), (.ref tx)])) rfl rfl (hb hby d6_30)
      have V_tx_ : Arv Z h51 tx kt .byte (4 : Int32) [(.int o0), (.int o1), (.int (nar .byte (atv ct o2))), (.int o3)] (.int 0) := Arv.set Ar51 q51 S51 N51 Hs51 G51 (fits_nar_byte _) W51 2 rfl (Nat.le_of_ble_eq_true rfl)
      have A_tb := A_tb.other W51 ne_tb_tx
      have Zle := Nat.le_trans Zle (Keep.of_wr W51).1
      have K_ := K_.wr W51 (Or.inl (List.mem_of_getElem? (i := 0) rfl))
      have V_tx := V_tx_
      have N_ := Fr.snoc X51 N_ g_tx
      refine own_by (T' := T51) (g' := (mkF m 31 #[.val (.ref tb), .val (.ref tx), .val (.int 2), .val (.int 3), .val (.int 2), .val (.int o2)] [])) (fun t k => st51 t k) ?_
      refine own_by (T' := T51) (g' := (mkF m 34 #[.val (.ref tb), .val (.ref tx), .val (.int 2), .val (.int 3), .val (.int 3), .val (.int o2)] [])) (fun t k => XS.iinc X51.here hx rfl (hb hby d6_31) rfl (l' := #[.val (.ref tb), .val (.ref tx), .val (.int 2), .val (.int 3), .val (.int 3), .val (.int o2)]) rfl k) ?_
      refine own_by (T' := T51) (g' := (mkF m 3 #[.val (.ref tb), .val (.ref tx), .val (.int 2), .val (.int 3), .val (.int 3), .val (.int o2)] [])) (fun t k => XS.goto X51.here hx rfl (pc0 := 34) (pc' := 3) rfl (hb hby d6_34) (by decide) (by decide) k) ?_
      refine own_by (T' := T51) (g' := (mkF m 5 #[.val (.ref tb), .val (.ref tx), .val (.int 2), .val (.int 3), .val (.int 3), .val (.int o2)] [(.int 3)])) (fun t k => XS.iload X51.here hx rfl (hb hby d6_3) rfl k) ?_
      refine own_by (T' := T51) (g' := (mkF m 6 #[.val (.ref tb), .val (.ref tx), .val (.int 2), .val (.int 3), .val (.int 3), .val (.int o2)] [(.int 3), (.int 3)])) (fun t k => XS.iloadN X51.here hx rfl (hb hby d6_5) rfl k) ?_
      refine own_by (T' := T51) (g' := (mkF m 37 #[.val (.ref tb), .val (.ref tx), .val (.int 2), .val (.int 3), .val (.int 3), .val (.int o2)] [])) (fun t k => XS.icmpYes X51.here hx rfl (pc0 := 6) (pc' := 37) rfl (hb hby d6_6) rfl (flt (by decide)).2.1 (by decide) (by decide) k) ?_
      refine own_by (T' := T51) (g' := (mkF m 39 #[.val (.ref tb), .val (.ref tx), .val (.int 2), .val (.int 3), .val (.int 3), .val (.int o2)] [(.int 3)])) (fun t k => XS.iload X51.here hx rfl (hb hby d6_37) rfl k) ?_
      have hR : own_R (2 : Int32) (3 : Int32) o0 o1 o2 o3 = (3 : Int32) := by simp [own_R, own_rs, hc17_50]
      exact own_retI X51 hx Bd.notSynchronized Bd.returns (hb hby d6_39) (by decide) (by decide) (by rw [e51]; exact ⟨by rw [hR], N_, K_, by rw [hR]; exact V_tx⟩)
  · refine own_by (T' := s₁) (g' := (mkF m 1 #[.val (.ref tb), .val (.ref tx), .val (.int 2), .val (.int 4), .unset, .unset] [(.int 2)])) (fun t k => XS.iloadN X0.here hx rfl (hb hby d6_0) rfl k) ?_
    refine own_by (T' := s₁) (g' := (mkF m 3 #[.val (.ref tb), .val (.ref tx), .val (.int 2), .val (.int 4), .val (.int 2), .unset] [])) (fun t k => XS.istore X0.here hx rfl (hb hby d6_1) rfl (l' := #[.val (.ref tb), .val (.ref tx), .val (.int 2), .val (.int 4), .val (.int 2), .unset]) rfl k) ?_
    refine own_by (T' := s₁) (g' := (mkF m 5 #[.val (.ref tb), .val (.ref tx), .val (.int 2), .val (.int 4), .val (.int 2), .unset] [(.int 2)])) (fun t k => XS.iload X0.here hx rfl (hb hby d6_3) rfl k) ?_
    refine own_by (T' := s₁) (g' := (mkF m 6 #[.val (.ref tb), .val (.ref tx), .val (.int 2), .val (.int 4), .val (.int 2), .unset] [(.int 4), (.int 2)])) (fun t k => XS.iloadN X0.here hx rfl (hb hby d6_5) rfl k) ?_
    refine own_by (T' := s₁) (g' := (mkF m 9 #[.val (.ref tb), .val (.ref tx), .val (.int 2), .val (.int 4), .val (.int 2), .unset] [])) (fun t k => XS.icmpNo X0.here hx rfl (hb hby d6_6) rfl (tlt (by decide)).2.1 k) ?_
    refine own_by (T' := s₁) (g' := (mkF m 10 #[.val (.ref tb), .val (.ref tx), .val (.int 2), .val (.int 4), .val (.int 2), .unset] [(.ref tx)])) (fun t k => XS.aloadN X0.here hx rfl (hb hby d6_9) rfl rfl k) ?_
    refine own_by (T' := s₁) (g' := (mkF m 12 #[.val (.ref tb), .val (.ref tx), .val (.int 2), .val (.int 4), .val (.int 2), .unset] [(.int 2), (.ref tx)])) (fun t k => XS.iload X0.here hx rfl (hb hby d6_10) rfl k) ?_
    obtain ⟨cl52, Ar52, q52, S52, N52, Hs52, G52⟩ := id V_tx
    have hin52 : ¬ ((2 : Int32) < 0 ∨ cl52.slots.size ≤ ((2 : Int32)).toNatClampNeg) := inb_of S52 ⟨by decide, by decide⟩
    have hat52 : cl52.slots[((2 : Int32)).toNatClampNeg]? = some (.int o2) := Hs52.at hin52 rfl
    refine own_by (T' := s₁) (g' := (mkF m 13 #[.val (.ref tb), .val (.ref tx), .val (.int 2), .val (.int 4), .val (.int 2), .unset] [(.int o2)])) (fun t k => X0.baloadBytes hx (j := (2 : Int32)) (v := (.int o2)) (by rw [e0]; exact Ar52.1) (State.isArrayOf_alike hZ.alike Ar52.2.1) Ar52.2.2 hin52 hat52 (g := (mkF m 12 #[.val (.ref tb), .val (.ref tx), .val (.int 2), .val (.int 4), .val (.int 2), .unset] [(.int 2), (.ref tx)])) rfl rfl (hb hby d6_12) _ k) ?_
    refine own_by (T' := s₁) (g' := (mkF m 15 #[.val (.ref tb), .val (.ref tx), .val (.int 2), .val (.int 4), .val (.int 2), .val (.int o2)] [])) (fun t k => XS.istore X0.here hx rfl (hb hby d6_13) rfl (l' := #[.val (.ref tb), .val (.ref tx), .val (.int 2), .val (.int 4), .val (.int 2), .val (.int o2)]) rfl k) ?_
    refine own_by (T' := s₁) (g' := (mkF m 17 #[.val (.ref tb), .val (.ref tx), .val (.int 2), .val (.int 4), .val (.int 2), .val (.int o2)] [(.int o2)])) (fun t k => XS.iload X0.here hx rfl (hb hby d6_15) rfl k) ?_
    by_cases hc17_53 : o2 < (0 : Int32)
    · refine own_by (T' := s₁) (g' := (mkF m 20 #[.val (.ref tb), .val (.ref tx), .val (.int 2), .val (.int 4), .val (.int 2), .val (.int o2)] [])) (fun t k => XS.ifNo X0.here hx rfl (hb hby d6_17) rfl ((if0 _ _).trans (tlt hc17_53).2.1) k) ?_
      refine own_by (T' := s₁) (g' := (mkF m 37 #[.val (.ref tb), .val (.ref tx), .val (.int 2), .val (.int 4), .val (.int 2), .val (.int o2)] [])) (fun t k => XS.goto X0.here hx rfl (pc0 := 20) (pc' := 37) rfl (hb hby d6_20) (by decide) (by decide) k) ?_
      refine own_by (T' := s₁) (g' := (mkF m 39 #[.val (.ref tb), .val (.ref tx), .val (.int 2), .val (.int 4), .val (.int 2), .val (.int o2)] [(.int 2)])) (fun t k => XS.iload X0.here hx rfl (hb hby d6_37) rfl k) ?_
      have hR : own_R (2 : Int32) (4 : Int32) o0 o1 o2 o3 = (2 : Int32) := by simp [own_R, own_rs, hc17_53]
      exact own_retI X0 hx Bd.notSynchronized Bd.returns (hb hby d6_39) (by decide) (by decide) (by rw [e0]; exact ⟨by rw [hR], N_, K_, by rw [hR]; exact V_tx⟩)
    · refine own_by (T' := s₁) (g' := (mkF m 23 #[.val (.ref tb), .val (.ref tx), .val (.int 2), .val (.int 4), .val (.int 2), .val (.int o2)] [])) (fun t k => XS.ifYes X0.here hx rfl (pc0 := 17) (pc' := 23) rfl (hb hby d6_17) rfl ((if0 _ _).trans (flt hc17_53).2.1) (by decide) (by decide) k) ?_
      refine own_by (T' := s₁) (g' := (mkF m 24 #[.val (.ref tb), .val (.ref tx), .val (.int 2), .val (.int 4), .val (.int 2), .val (.int o2)] [(.ref tx)])) (fun t k => XS.aloadN X0.here hx rfl (hb hby d6_23) rfl rfl k) ?_
      refine own_by (T' := s₁) (g' := (mkF m 26 #[.val (.ref tb), .val (.ref tx), .val (.int 2), .val (.int 4), .val (.int 2), .val (.int o2)] [(.int 2), (.ref tx)])) (fun t k => XS.iload X0.here hx rfl (hb hby d6_24) rfl k) ?_
      refine own_by (T' := s₁) (g' := (mkF m 27 #[.val (.ref tb), .val (.ref tx), .val (.int 2), .val (.int 4), .val (.int 2), .val (.int o2)] [(.ref tb), (.int 2), (.ref tx)])) (fun t k => XS.aloadN X0.here hx rfl (hb hby d6_26) rfl rfl k) ?_
      refine own_by (T' := s₁) (g' := (mkF m 29 #[.val (.ref tb), .val (.ref tx), .val (.int 2), .val (.int 4), .val (.int 2), .val (.int o2)] [(.int o2), (.ref tb), (.int 2), (.ref tx)])) (fun t k => XS.iload X0.here hx rfl (hb hby d6_27) rfl k) ?_
      refine own_by (T' := s₁) (g' := (mkF m 30 #[.val (.ref tb), .val (.ref tx), .val (.int 2), .val (.int 4), .val (.int 2), .val (.int o2)] [(.int (atv ct o2)), (.int 2), (.ref tx)])) (fun t k => X0.baloadBytes hx (j := o2) (v := (.int (atv ct o2))) (by rw [e0]; exact A_tb.1) (State.isArrayOf_alike hZ.alike A_tb.2.1) A_tb.2.2 (own_inb hB hc17_53 hby2) (own_at hB hc17_53 hby2) (g := (mkF m 29 #[.val (.ref tb), .val (.ref tx), .val (.int 2), .val (.int 4), .val (.int 2), .val (.int o2)] [(.int o2), (.ref tb), (.int 2), (.ref tx)])) rfl rfl (hb hby d6_29) _ k) ?_
      obtain ⟨cl54, Ar54, q54, S54, N54, Hs54, G54⟩ := id V_tx
      have hin54 : ¬ ((2 : Int32) < 0 ∨ cl54.slots.size ≤ ((2 : Int32)).toNatClampNeg) := inb_of S54 ⟨by decide, by decide⟩
      obtain ⟨T54, h54, X54, e54, W54, st54⟩ := stB X0 hx hZ e0 Ar54 (j := (2 : Int32)) hin54 (g := (mkF m 30 #[.val (.ref tb), .val (.ref tx), .val (.int 2), .val (.int 4), .val (.int 2), .val (.int o2)] [(.int (atv ct o2)), (.int 2), (.ref tx)])) rfl rfl (hb hby d6_30)
      have V_tx_ : Arv Z h54 tx kt .byte (4 : Int32) [(.int o0), (.int o1), (.int (nar .byte (atv ct o2))), (.int o3)] (.int 0) := Arv.set Ar54 q54 S54 N54 Hs54 G54 (fits_nar_byte _) W54 2 rfl (Nat.le_of_ble_eq_true rfl)
      have A_tb := A_tb.other W54 ne_tb_tx
      have Zle := Nat.le_trans Zle (Keep.of_wr W54).1
      have K_ := K_.wr W54 (Or.inl (List.mem_of_getElem? (i := 0) rfl))
      have V_tx := V_tx_
      have N_ := Fr.snoc X54 N_ g_tx
      refine own_by (T' := T54) (g' := (mkF m 31 #[.val (.ref tb), .val (.ref tx), .val (.int 2), .val (.int 4), .val (.int 2), .val (.int o2)] [])) (fun t k => st54 t k) ?_
      refine own_by (T' := T54) (g' := (mkF m 34 #[.val (.ref tb), .val (.ref tx), .val (.int 2), .val (.int 4), .val (.int 3), .val (.int o2)] [])) (fun t k => XS.iinc X54.here hx rfl (hb hby d6_31) rfl (l' := #[.val (.ref tb), .val (.ref tx), .val (.int 2), .val (.int 4), .val (.int 3), .val (.int o2)]) rfl k) ?_
      refine own_by (T' := T54) (g' := (mkF m 3 #[.val (.ref tb), .val (.ref tx), .val (.int 2), .val (.int 4), .val (.int 3), .val (.int o2)] [])) (fun t k => XS.goto X54.here hx rfl (pc0 := 34) (pc' := 3) rfl (hb hby d6_34) (by decide) (by decide) k) ?_
      refine own_by (T' := T54) (g' := (mkF m 5 #[.val (.ref tb), .val (.ref tx), .val (.int 2), .val (.int 4), .val (.int 3), .val (.int o2)] [(.int 3)])) (fun t k => XS.iload X54.here hx rfl (hb hby d6_3) rfl k) ?_
      refine own_by (T' := T54) (g' := (mkF m 6 #[.val (.ref tb), .val (.ref tx), .val (.int 2), .val (.int 4), .val (.int 3), .val (.int o2)] [(.int 4), (.int 3)])) (fun t k => XS.iloadN X54.here hx rfl (hb hby d6_5) rfl k) ?_
      refine own_by (T' := T54) (g' := (mkF m 9 #[.val (.ref tb), .val (.ref tx), .val (.int 2), .val (.int 4), .val (.int 3), .val (.int o2)] [])) (fun t k => XS.icmpNo X54.here hx rfl (hb hby d6_6) rfl (tlt (by decide)).2.1 k) ?_
      refine own_by (T' := T54) (g' := (mkF m 10 #[.val (.ref tb), .val (.ref tx), .val (.int 2), .val (.int 4), .val (.int 3), .val (.int o2)] [(.ref tx)])) (fun t k => XS.aloadN X54.here hx rfl (hb hby d6_9) rfl rfl k) ?_
      refine own_by (T' := T54) (g' := (mkF m 12 #[.val (.ref tb), .val (.ref tx), .val (.int 2), .val (.int 4), .val (.int 3), .val (.int o2)] [(.int 3), (.ref tx)])) (fun t k => XS.iload X54.here hx rfl (hb hby d6_10) rfl k) ?_
      obtain ⟨cl55, Ar55, q55, S55, N55, Hs55, G55⟩ := id V_tx
      have hin55 : ¬ ((3 : Int32) < 0 ∨ cl55.slots.size ≤ ((3 : Int32)).toNatClampNeg) := inb_of S55 ⟨by decide, by decide⟩
      have hat55 : cl55.slots[((3 : Int32)).toNatClampNeg]? = some (.int o3) := Hs55.at hin55 rfl
      refine own_by (T' := T54) (g' := (mkF m 13 #[.val (.ref tb), .val (.ref tx), .val (.int 2), .val (.int 4), .val (.int 3), .val (.int o2)] [(.int o3)])) (fun t k => X54.baloadBytes hx (j := (3 : Int32)) (v := (.int o3)) (by rw [e54]; exact Ar55.1) (State.isArrayOf_alike hZ.alike Ar55.2.1) Ar55.2.2 hin55 hat55 (g := (mkF m 12 #[.val (.ref tb), .val (.ref tx), .val (.int 2), .val (.int 4), .val (.int 3), .val (.int o2)] [(.int 3), (.ref tx)])) rfl rfl (hb hby d6_12) _ k) ?_
      refine own_by (T' := T54) (g' := (mkF m 15 #[.val (.ref tb), .val (.ref tx), .val (.int 2), .val (.int 4), .val (.int 3), .val (.int o3)] [])) (fun t k => XS.istore X54.here hx rfl (hb hby d6_13) rfl (l' := #[.val (.ref tb), .val (.ref tx), .val (.int 2), .val (.int 4), .val (.int 3), .val (.int o3)]) rfl k) ?_
      refine own_by (T' := T54) (g' := (mkF m 17 #[.val (.ref tb), .val (.ref tx), .val (.int 2), .val (.int 4), .val (.int 3), .val (.int o3)] [(.int o3)])) (fun t k => XS.iload X54.here hx rfl (hb hby d6_15) rfl k) ?_
      by_cases hc17_56 : o3 < (0 : Int32)
      · refine own_by (T' := T54) (g' := (mkF m 20 #[.val (.ref tb), .val (.ref tx), .val (.int 2), .val (.int 4), .val (.int 3), .val (.int o3)] [])) (fun t k => XS.ifNo X54.here hx rfl (hb hby d6_17) rfl ((if0 _ _).trans (tlt hc17_56).2.1) k) ?_
        refine own_by (T' := T54) (g' := (mkF m 37 #[.val (.ref tb), .val (.ref tx), .val (.int 2), .val (.int 4), .val (.int 3), .val (.int o3)] [])) (fun t k => XS.goto X54.here hx rfl (pc0 := 20) (pc' := 37) rfl (hb hby d6_20) (by decide) (by decide) k) ?_
        refine own_by (T' := T54) (g' := (mkF m 39 #[.val (.ref tb), .val (.ref tx), .val (.int 2), .val (.int 4), .val (.int 3), .val (.int o3)] [(.int 3)])) (fun t k => XS.iload X54.here hx rfl (hb hby d6_37) rfl k) ?_
        have hR : own_R (2 : Int32) (4 : Int32) o0 o1 o2 o3 = (3 : Int32) := by simp [own_R, own_rs, hc17_53, hc17_56]
        exact own_retI X54 hx Bd.notSynchronized Bd.returns (hb hby d6_39) (by decide) (by decide) (by rw [e54]; exact ⟨by rw [hR], N_, K_, by rw [hR]; exact V_tx⟩)
      · refine own_by (T' := T54) (g' := (mkF m 23 #[.val (.ref tb), .val (.ref tx), .val (.int 2), .val (.int 4), .val (.int 3), .val (.int o3)] [])) (fun t k => XS.ifYes X54.here hx rfl (pc0 := 17) (pc' := 23) rfl (hb hby d6_17) rfl ((if0 _ _).trans (flt hc17_56).2.1) (by decide) (by decide) k) ?_
        refine own_by (T' := T54) (g' := (mkF m 24 #[.val (.ref tb), .val (.ref tx), .val (.int 2), .val (.int 4), .val (.int 3), .val (.int o3)] [(.ref tx)])) (fun t k => XS.aloadN X54.here hx rfl (hb hby d6_23) rfl rfl k) ?_
        refine own_by (T' := T54) (g' := (mkF m 26 #[.val (.ref tb), .val (.ref tx), .val (.int 2), .val (.int 4), .val (.int 3), .val (.int o3)] [(.int 3), (.ref tx)])) (fun t k => XS.iload X54.here hx rfl (hb hby d6_24) rfl k) ?_
        refine own_by (T' := T54) (g' := (mkF m 27 #[.val (.ref tb), .val (.ref tx), .val (.int 2), .val (.int 4), .val (.int 3), .val (.int o3)] [(.ref tb), (.int 3), (.ref tx)])) (fun t k => XS.aloadN X54.here hx rfl (hb hby d6_26) rfl rfl k) ?_
        refine own_by (T' := T54) (g' := (mkF m 29 #[.val (.ref tb), .val (.ref tx), .val (.int 2), .val (.int 4), .val (.int 3), .val (.int o3)] [(.int o3), (.ref tb), (.int 3), (.ref tx)])) (fun t k => XS.iload X54.here hx rfl (hb hby d6_27) rfl k) ?_
        refine own_by (T' := T54) (g' := (mkF m 30 #[.val (.ref tb), .val (.ref tx), .val (.int 2), .val (.int 4), .val (.int 3), .val (.int o3)] [(.int (atv ct o3)), (.int 3), (.ref tx)])) (fun t k => X54.baloadBytes hx (j := o3) (v := (.int (atv ct o3))) (by rw [e54]; exact A_tb.1) (State.isArrayOf_alike hZ.alike A_tb.2.1) A_tb.2.2 (own_inb hB hc17_56 hby3) (own_at hB hc17_56 hby3) (g := (mkF m 29 #[.val (.ref tb), .val (.ref tx), .val (.int 2), .val (.int 4), .val (.int 3), .val (.int o3)] [(.int o3), (.ref tb), (.int 3), (.ref tx)])) rfl rfl (hb hby d6_29) _ k) ?_
        obtain ⟨cl57, Ar57, q57, S57, N57, Hs57, G57⟩ := id V_tx
        have hin57 : ¬ ((3 : Int32) < 0 ∨ cl57.slots.size ≤ ((3 : Int32)).toNatClampNeg) := inb_of S57 ⟨by decide, by decide⟩
        obtain ⟨T57, h57, X57, e57, W57, st57⟩ := stB X54 hx hZ e54 Ar57 (j := (3 : Int32)) hin57 (g := (mkF m 30 #[.val (.ref tb), .val (.ref tx), .val (.int 2), .val (.int 4), .val (.int 3), .val (.int o3)] [(.int (atv ct o3)), (.int 3), (.ref tx)])) rfl rfl (hb hby d6_30)
        have V_tx_ : Arv Z h57 tx kt .byte (4 : Int32) [(.int o0), (.int o1), (.int (nar .byte (atv ct o2))), (.int (nar .byte (atv ct o3)))] (.int 0) := Arv.set Ar57 q57 S57 N57 Hs57 G57 (fits_nar_byte _) W57 3 rfl (Nat.le_of_ble_eq_true rfl)
        have A_tb := A_tb.other W57 ne_tb_tx
        have Zle := Nat.le_trans Zle (Keep.of_wr W57).1
        have K_ := K_.wr W57 (Or.inl (List.mem_of_getElem? (i := 0) rfl))
        have V_tx := V_tx_
        have N_ := Fr.snoc X57 N_ g_tx
        refine own_by (T' := T57) (g' := (mkF m 31 #[.val (.ref tb), .val (.ref tx), .val (.int 2), .val (.int 4), .val (.int 3), .val (.int o3)] [])) (fun t k => st57 t k) ?_
        refine own_by (T' := T57) (g' := (mkF m 34 #[.val (.ref tb), .val (.ref tx), .val (.int 2), .val (.int 4), .val (.int 4), .val (.int o3)] [])) (fun t k => XS.iinc X57.here hx rfl (hb hby d6_31) rfl (l' := #[.val (.ref tb), .val (.ref tx), .val (.int 2), .val (.int 4), .val (.int 4), .val (.int o3)]) rfl k) ?_
        refine own_by (T' := T57) (g' := (mkF m 3 #[.val (.ref tb), .val (.ref tx), .val (.int 2), .val (.int 4), .val (.int 4), .val (.int o3)] [])) (fun t k => XS.goto X57.here hx rfl (pc0 := 34) (pc' := 3) rfl (hb hby d6_34) (by decide) (by decide) k) ?_
        refine own_by (T' := T57) (g' := (mkF m 5 #[.val (.ref tb), .val (.ref tx), .val (.int 2), .val (.int 4), .val (.int 4), .val (.int o3)] [(.int 4)])) (fun t k => XS.iload X57.here hx rfl (hb hby d6_3) rfl k) ?_
        refine own_by (T' := T57) (g' := (mkF m 6 #[.val (.ref tb), .val (.ref tx), .val (.int 2), .val (.int 4), .val (.int 4), .val (.int o3)] [(.int 4), (.int 4)])) (fun t k => XS.iloadN X57.here hx rfl (hb hby d6_5) rfl k) ?_
        refine own_by (T' := T57) (g' := (mkF m 37 #[.val (.ref tb), .val (.ref tx), .val (.int 2), .val (.int 4), .val (.int 4), .val (.int o3)] [])) (fun t k => XS.icmpYes X57.here hx rfl (pc0 := 6) (pc' := 37) rfl (hb hby d6_6) rfl (flt (by decide)).2.1 (by decide) (by decide) k) ?_
        refine own_by (T' := T57) (g' := (mkF m 39 #[.val (.ref tb), .val (.ref tx), .val (.int 2), .val (.int 4), .val (.int 4), .val (.int o3)] [(.int 4)])) (fun t k => XS.iload X57.here hx rfl (hb hby d6_37) rfl k) ?_
        have hR : own_R (2 : Int32) (4 : Int32) o0 o1 o2 o3 = (4 : Int32) := by simp [own_R, own_rs, hc17_53, hc17_56]
        exact own_retI X57 hx Bd.notSynchronized Bd.returns (hb hby d6_39) (by decide) (by decide) (by rw [e57]; exact ⟨by rw [hR], N_, K_, by rw [hR]; exact V_tx⟩)
  · refine own_by (T' := s₁) (g' := (mkF m 1 #[.val (.ref tb), .val (.ref tx), .val (.int 3), .val (.int 3), .unset, .unset] [(.int 3)])) (fun t k => XS.iloadN X0.here hx rfl (hb hby d6_0) rfl k) ?_
    refine own_by (T' := s₁) (g' := (mkF m 3 #[.val (.ref tb), .val (.ref tx), .val (.int 3), .val (.int 3), .val (.int 3), .unset] [])) (fun t k => XS.istore X0.here hx rfl (hb hby d6_1) rfl (l' := #[.val (.ref tb), .val (.ref tx), .val (.int 3), .val (.int 3), .val (.int 3), .unset]) rfl k) ?_
    refine own_by (T' := s₁) (g' := (mkF m 5 #[.val (.ref tb), .val (.ref tx), .val (.int 3), .val (.int 3), .val (.int 3), .unset] [(.int 3)])) (fun t k => XS.iload X0.here hx rfl (hb hby d6_3) rfl k) ?_
    refine own_by (T' := s₁) (g' := (mkF m 6 #[.val (.ref tb), .val (.ref tx), .val (.int 3), .val (.int 3), .val (.int 3), .unset] [(.int 3), (.int 3)])) (fun t k => XS.iloadN X0.here hx rfl (hb hby d6_5) rfl k) ?_
    refine own_by (T' := s₁) (g' := (mkF m 37 #[.val (.ref tb), .val (.ref tx), .val (.int 3), .val (.int 3), .val (.int 3), .unset] [])) (fun t k => XS.icmpYes X0.here hx rfl (pc0 := 6) (pc' := 37) rfl (hb hby d6_6) rfl (flt (by decide)).2.1 (by decide) (by decide) k) ?_
    refine own_by (T' := s₁) (g' := (mkF m 39 #[.val (.ref tb), .val (.ref tx), .val (.int 3), .val (.int 3), .val (.int 3), .unset] [(.int 3)])) (fun t k => XS.iload X0.here hx rfl (hb hby d6_37) rfl k) ?_
    have hR : own_R (3 : Int32) (3 : Int32) o0 o1 o2 o3 = (3 : Int32) := by simp [own_R, own_rs]
    exact own_retI X0 hx Bd.notSynchronized Bd.returns (hb hby d6_39) (by decide) (by decide) (by rw [e0]; exact ⟨by rw [hR], N_, K_, by rw [hR]; exact V_tx⟩)
  · refine own_by (T' := s₁) (g' := (mkF m 1 #[.val (.ref tb), .val (.ref tx), .val (.int 3), .val (.int 4), .unset, .unset] [(.int 3)])) (fun t k => XS.iloadN X0.here hx rfl (hb hby d6_0) rfl k) ?_
    refine own_by (T' := s₁) (g' := (mkF m 3 #[.val (.ref tb), .val (.ref tx), .val (.int 3), .val (.int 4), .val (.int 3), .unset] [])) (fun t k => XS.istore X0.here hx rfl (hb hby d6_1) rfl (l' := #[.val (.ref tb), .val (.ref tx), .val (.int 3), .val (.int 4), .val (.int 3), .unset]) rfl k) ?_
    refine own_by (T' := s₁) (g' := (mkF m 5 #[.val (.ref tb), .val (.ref tx), .val (.int 3), .val (.int 4), .val (.int 3), .unset] [(.int 3)])) (fun t k => XS.iload X0.here hx rfl (hb hby d6_3) rfl k) ?_
    refine own_by (T' := s₁) (g' := (mkF m 6 #[.val (.ref tb), .val (.ref tx), .val (.int 3), .val (.int 4), .val (.int 3), .unset] [(.int 4), (.int 3)])) (fun t k => XS.iloadN X0.here hx rfl (hb hby d6_5) rfl k) ?_
    refine own_by (T' := s₁) (g' := (mkF m 9 #[.val (.ref tb), .val (.ref tx), .val (.int 3), .val (.int 4), .val (.int 3), .unset] [])) (fun t k => XS.icmpNo X0.here hx rfl (hb hby d6_6) rfl (tlt (by decide)).2.1 k) ?_
    refine own_by (T' := s₁) (g' := (mkF m 10 #[.val (.ref tb), .val (.ref tx), .val (.int 3), .val (.int 4), .val (.int 3), .unset] [(.ref tx)])) (fun t k => XS.aloadN X0.here hx rfl (hb hby d6_9) rfl rfl k) ?_
    refine own_by (T' := s₁) (g' := (mkF m 12 #[.val (.ref tb), .val (.ref tx), .val (.int 3), .val (.int 4), .val (.int 3), .unset] [(.int 3), (.ref tx)])) (fun t k => XS.iload X0.here hx rfl (hb hby d6_10) rfl k) ?_
    obtain ⟨cl58, Ar58, q58, S58, N58, Hs58, G58⟩ := id V_tx
    have hin58 : ¬ ((3 : Int32) < 0 ∨ cl58.slots.size ≤ ((3 : Int32)).toNatClampNeg) := inb_of S58 ⟨by decide, by decide⟩
    have hat58 : cl58.slots[((3 : Int32)).toNatClampNeg]? = some (.int o3) := Hs58.at hin58 rfl
    refine own_by (T' := s₁) (g' := (mkF m 13 #[.val (.ref tb), .val (.ref tx), .val (.int 3), .val (.int 4), .val (.int 3), .unset] [(.int o3)])) (fun t k => X0.baloadBytes hx (j := (3 : Int32)) (v := (.int o3)) (by rw [e0]; exact Ar58.1) (State.isArrayOf_alike hZ.alike Ar58.2.1) Ar58.2.2 hin58 hat58 (g := (mkF m 12 #[.val (.ref tb), .val (.ref tx), .val (.int 3), .val (.int 4), .val (.int 3), .unset] [(.int 3), (.ref tx)])) rfl rfl (hb hby d6_12) _ k) ?_
    refine own_by (T' := s₁) (g' := (mkF m 15 #[.val (.ref tb), .val (.ref tx), .val (.int 3), .val (.int 4), .val (.int 3), .val (.int o3)] [])) (fun t k => XS.istore X0.here hx rfl (hb hby d6_13) rfl (l' := #[.val (.ref tb), .val (.ref tx), .val (.int 3), .val (.int 4), .val (.int 3), .val (.int o3)]) rfl k) ?_
    refine own_by (T' := s₁) (g' := (mkF m 17 #[.val (.ref tb), .val (.ref tx), .val (.int 3), .val (.int 4), .val (.int 3), .val (.int o3)] [(.int o3)])) (fun t k => XS.iload X0.here hx rfl (hb hby d6_15) rfl k) ?_
    by_cases hc17_59 : o3 < (0 : Int32)
    · refine own_by (T' := s₁) (g' := (mkF m 20 #[.val (.ref tb), .val (.ref tx), .val (.int 3), .val (.int 4), .val (.int 3), .val (.int o3)] [])) (fun t k => XS.ifNo X0.here hx rfl (hb hby d6_17) rfl ((if0 _ _).trans (tlt hc17_59).2.1) k) ?_
      refine own_by (T' := s₁) (g' := (mkF m 37 #[.val (.ref tb), .val (.ref tx), .val (.int 3), .val (.int 4), .val (.int 3), .val (.int o3)] [])) (fun t k => XS.goto X0.here hx rfl (pc0 := 20) (pc' := 37) rfl (hb hby d6_20) (by decide) (by decide) k) ?_
      refine own_by (T' := s₁) (g' := (mkF m 39 #[.val (.ref tb), .val (.ref tx), .val (.int 3), .val (.int 4), .val (.int 3), .val (.int o3)] [(.int 3)])) (fun t k => XS.iload X0.here hx rfl (hb hby d6_37) rfl k) ?_
      have hR : own_R (3 : Int32) (4 : Int32) o0 o1 o2 o3 = (3 : Int32) := by simp [own_R, own_rs, hc17_59]
      exact own_retI X0 hx Bd.notSynchronized Bd.returns (hb hby d6_39) (by decide) (by decide) (by rw [e0]; exact ⟨by rw [hR], N_, K_, by rw [hR]; exact V_tx⟩)
    · refine own_by (T' := s₁) (g' := (mkF m 23 #[.val (.ref tb), .val (.ref tx), .val (.int 3), .val (.int 4), .val (.int 3), .val (.int o3)] [])) (fun t k => XS.ifYes X0.here hx rfl (pc0 := 17) (pc' := 23) rfl (hb hby d6_17) rfl ((if0 _ _).trans (flt hc17_59).2.1) (by decide) (by decide) k) ?_
      refine own_by (T' := s₁) (g' := (mkF m 24 #[.val (.ref tb), .val (.ref tx), .val (.int 3), .val (.int 4), .val (.int 3), .val (.int o3)] [(.ref tx)])) (fun t k => XS.aloadN X0.here hx rfl (hb hby d6_23) rfl rfl k) ?_
      refine own_by (T' := s₁) (g' := (mkF m 26 #[.val (.ref tb), .val (.ref tx), .val (.int 3), .val (.int 4), .val (.int 3), .val (.int o3)] [(.int 3), (.ref tx)])) (fun t k => XS.iload X0.here hx rfl (hb hby d6_24) rfl k) ?_
      refine own_by (T' := s₁) (g' := (mkF m 27 #[.val (.ref tb), .val (.ref tx), .val (.int 3), .val (.int 4), .val (.int 3), .val (.int o3)] [(.ref tb), (.int 3), (.ref tx)])) (fun t k => XS.aloadN X0.here hx rfl (hb hby d6_26) rfl rfl k) ?_
      refine own_by (T' := s₁) (g' := (mkF m 29 #[.val (.ref tb), .val (.ref tx), .val (.int 3), .val (.int 4), .val (.int 3), .val (.int o3)] [(.int o3), (.ref tb), (.int 3), (.ref tx)])) (fun t k => XS.iload X0.here hx rfl (hb hby d6_27) rfl k) ?_
      refine own_by (T' := s₁) (g' := (mkF m 30 #[.val (.ref tb), .val (.ref tx), .val (.int 3), .val (.int 4), .val (.int 3), .val (.int o3)] [(.int (atv ct o3)), (.int 3), (.ref tx)])) (fun t k => X0.baloadBytes hx (j := o3) (v := (.int (atv ct o3))) (by rw [e0]; exact A_tb.1) (State.isArrayOf_alike hZ.alike A_tb.2.1) A_tb.2.2 (own_inb hB hc17_59 hby3) (own_at hB hc17_59 hby3) (g := (mkF m 29 #[.val (.ref tb), .val (.ref tx), .val (.int 3), .val (.int 4), .val (.int 3), .val (.int o3)] [(.int o3), (.ref tb), (.int 3), (.ref tx)])) rfl rfl (hb hby d6_29) _ k) ?_
      obtain ⟨cl60, Ar60, q60, S60, N60, Hs60, G60⟩ := id V_tx
      have hin60 : ¬ ((3 : Int32) < 0 ∨ cl60.slots.size ≤ ((3 : Int32)).toNatClampNeg) := inb_of S60 ⟨by decide, by decide⟩
      obtain ⟨T60, h60, X60, e60, W60, st60⟩ := stB X0 hx hZ e0 Ar60 (j := (3 : Int32)) hin60 (g := (mkF m 30 #[.val (.ref tb), .val (.ref tx), .val (.int 3), .val (.int 4), .val (.int 3), .val (.int o3)] [(.int (atv ct o3)), (.int 3), (.ref tx)])) rfl rfl (hb hby d6_30)
      have V_tx_ : Arv Z h60 tx kt .byte (4 : Int32) [(.int o0), (.int o1), (.int o2), (.int (nar .byte (atv ct o3)))] (.int 0) := Arv.set Ar60 q60 S60 N60 Hs60 G60 (fits_nar_byte _) W60 3 rfl (Nat.le_of_ble_eq_true rfl)
      have A_tb := A_tb.other W60 ne_tb_tx
      have Zle := Nat.le_trans Zle (Keep.of_wr W60).1
      have K_ := K_.wr W60 (Or.inl (List.mem_of_getElem? (i := 0) rfl))
      have V_tx := V_tx_
      have N_ := Fr.snoc X60 N_ g_tx
      refine own_by (T' := T60) (g' := (mkF m 31 #[.val (.ref tb), .val (.ref tx), .val (.int 3), .val (.int 4), .val (.int 3), .val (.int o3)] [])) (fun t k => st60 t k) ?_
      refine own_by (T' := T60) (g' := (mkF m 34 #[.val (.ref tb), .val (.ref tx), .val (.int 3), .val (.int 4), .val (.int 4), .val (.int o3)] [])) (fun t k => XS.iinc X60.here hx rfl (hb hby d6_31) rfl (l' := #[.val (.ref tb), .val (.ref tx), .val (.int 3), .val (.int 4), .val (.int 4), .val (.int o3)]) rfl k) ?_
      refine own_by (T' := T60) (g' := (mkF m 3 #[.val (.ref tb), .val (.ref tx), .val (.int 3), .val (.int 4), .val (.int 4), .val (.int o3)] [])) (fun t k => XS.goto X60.here hx rfl (pc0 := 34) (pc' := 3) rfl (hb hby d6_34) (by decide) (by decide) k) ?_
      refine own_by (T' := T60) (g' := (mkF m 5 #[.val (.ref tb), .val (.ref tx), .val (.int 3), .val (.int 4), .val (.int 4), .val (.int o3)] [(.int 4)])) (fun t k => XS.iload X60.here hx rfl (hb hby d6_3) rfl k) ?_
      refine own_by (T' := T60) (g' := (mkF m 6 #[.val (.ref tb), .val (.ref tx), .val (.int 3), .val (.int 4), .val (.int 4), .val (.int o3)] [(.int 4), (.int 4)])) (fun t k => XS.iloadN X60.here hx rfl (hb hby d6_5) rfl k) ?_
      refine own_by (T' := T60) (g' := (mkF m 37 #[.val (.ref tb), .val (.ref tx), .val (.int 3), .val (.int 4), .val (.int 4), .val (.int o3)] [])) (fun t k => XS.icmpYes X60.here hx rfl (pc0 := 6) (pc' := 37) rfl (hb hby d6_6) rfl (flt (by decide)).2.1 (by decide) (by decide) k) ?_
      refine own_by (T' := T60) (g' := (mkF m 39 #[.val (.ref tb), .val (.ref tx), .val (.int 3), .val (.int 4), .val (.int 4), .val (.int o3)] [(.int 4)])) (fun t k => XS.iload X60.here hx rfl (hb hby d6_37) rfl k) ?_
      have hR : own_R (3 : Int32) (4 : Int32) o0 o1 o2 o3 = (4 : Int32) := by simp [own_R, own_rs, hc17_59]
      exact own_retI X60 hx Bd.notSynchronized Bd.returns (hb hby d6_39) (by decide) (by decide) (by rw [e60]; exact ⟨by rw [hR], N_, K_, by rw [hR]; exact V_tx⟩)
  · refine own_by (T' := s₁) (g' := (mkF m 1 #[.val (.ref tb), .val (.ref tx), .val (.int 4), .val (.int 4), .unset, .unset] [(.int 4)])) (fun t k => XS.iloadN X0.here hx rfl (hb hby d6_0) rfl k) ?_
    refine own_by (T' := s₁) (g' := (mkF m 3 #[.val (.ref tb), .val (.ref tx), .val (.int 4), .val (.int 4), .val (.int 4), .unset] [])) (fun t k => XS.istore X0.here hx rfl (hb hby d6_1) rfl (l' := #[.val (.ref tb), .val (.ref tx), .val (.int 4), .val (.int 4), .val (.int 4), .unset]) rfl k) ?_
    refine own_by (T' := s₁) (g' := (mkF m 5 #[.val (.ref tb), .val (.ref tx), .val (.int 4), .val (.int 4), .val (.int 4), .unset] [(.int 4)])) (fun t k => XS.iload X0.here hx rfl (hb hby d6_3) rfl k) ?_
    refine own_by (T' := s₁) (g' := (mkF m 6 #[.val (.ref tb), .val (.ref tx), .val (.int 4), .val (.int 4), .val (.int 4), .unset] [(.int 4), (.int 4)])) (fun t k => XS.iloadN X0.here hx rfl (hb hby d6_5) rfl k) ?_
    refine own_by (T' := s₁) (g' := (mkF m 37 #[.val (.ref tb), .val (.ref tx), .val (.int 4), .val (.int 4), .val (.int 4), .unset] [])) (fun t k => XS.icmpYes X0.here hx rfl (pc0 := 6) (pc' := 37) rfl (hb hby d6_6) rfl (flt (by decide)).2.1 (by decide) (by decide) k) ?_
    refine own_by (T' := s₁) (g' := (mkF m 39 #[.val (.ref tb), .val (.ref tx), .val (.int 4), .val (.int 4), .val (.int 4), .unset] [(.int 4)])) (fun t k => XS.iload X0.here hx rfl (hb hby d6_37) rfl k) ?_
    have hR : own_R (4 : Int32) (4 : Int32) o0 o1 o2 o3 = (4 : Int32) := by simp [own_R, own_rs]
    exact own_retI X0 hx Bd.notSynchronized Bd.returns (hb hby d6_39) (by decide) (by decide) (by rw [e0]; exact ⟨by rw [hR], N_, K_, by rw [hR]; exact V_tx⟩)

theorem ef_3 (m : MethodId) (ob : Addr) (tx : Addr) (off : Int32) (len : Int32) : entryFrame m #[(.ref ob), (.ref tx), (.int off), (.int len)] 4 = mkF m 0 #[.val (.ref ob), .val (.ref tx), .val (.int off), .val (.int len)] [] := by first | (simp [entryFrame, mkF, argsToLocals, Value.category]; done) | rfl
theorem d3_0 : decode prog_32_method_2_code 0 = .ok (.iload_n 2, 1) := by decide +kernel
theorem d3_1 : decode prog_32_method_2_code 1 = .ok (.iload_n 3, 1) := by decide +kernel
theorem d3_2 : decode prog_32_method_2_code 2 = .ok (.aload_n 1, 1) := by decide +kernel
theorem d3_3 : decode prog_32_method_2_code 3 = .ok (.arraylength, 1) := by decide +kernel
theorem d3_4 : decode prog_32_method_2_code 4 = .ok (.invokestatic 18, 3) := by decide +kernel
theorem pd_4 : parseMethodDescriptor "(III)I" = some ⟨[.int, .int, .int], some .int⟩ := by decide +kernel
theorem d3_7 : decode prog_32_method_2_code 7 = .ok (.pop, 1) := by decide +kernel
theorem d3_8 : decode prog_32_method_2_code 8 = .ok (.aload_n 0, 1) := by decide +kernel
theorem d3_9 : decode prog_32_method_2_code 9 = .ok (.getfield 13, 3) := by decide +kernel
theorem d3_12 : decode prog_32_method_2_code 12 = .ok (.aload_n 1, 1) := by decide +kernel
theorem d3_13 : decode prog_32_method_2_code 13 = .ok (.iload_n 2, 1) := by decide +kernel
theorem d3_14 : decode prog_32_method_2_code 14 = .ok (.iload_n 2, 1) := by decide +kernel
theorem d3_15 : decode prog_32_method_2_code 15 = .ok (.iload_n 3, 1) := by decide +kernel
theorem d3_16 : decode prog_32_method_2_code 16 = .ok (.iadd, 1) := by decide +kernel
theorem d3_17 : decode prog_32_method_2_code 17 = .ok (.invokestatic 24, 3) := by decide +kernel
theorem pd_6 : parseMethodDescriptor "([B[BII)I" = some ⟨[(.array .byte), (.array .byte), .int, .int], some .int⟩ := by decide +kernel
theorem d3_20 : decode prog_32_method_2_code 20 = .ok (.ireturn, 1) := by decide +kernel
def Q3 (Z : State) (ob : Addr) (tx : Addr) (off : Int32) (len : Int32) (tb : Addr) (ct : Cell) (kt : ClassId) (o0 : Int32) (o1 : Int32) (o2 : Int32) (o3 : Int32) (h0 : Heap) (n0 : Nat) (v : Option Value) (h : Heap) (L : List Loc) : Prop := v = some (.int (own_R off (off + len) o0 o1 o2 o3)) ∧ Fr n0 L ∧ Keep h0 h [tx] ∧ Arv Z h tx kt .byte (4 : Int32) [(.int (own_tx (0 : Int32) off (own_R off (off + len) o0 o1 o2 o3) o0 ct)), (.int (own_tx (1 : Int32) off (own_R off (off + len) o0 o1 o2 o3) o1 ct)), (.int (own_tx (2 : Int32) off (own_R off (off + len) o0 o1 o2 o3) o2 ct)), (.int (own_tx (3 : Int32) off (own_R off (off + len) o0 o1 o2 o3) o3 ct))] (.int 0)
set_option maxRecDepth 65536 in
set_option maxHeartbeats 40000000 in
theorem rm3 (l : Launch) (Z : State) (a0 : Array Value) (hw : ∀ d ∈ tables_1, d.before a0 Z = true) (ws : List Jvm.Cond) (ob : Addr) (tx : Addr) (off : Int32) (len : Int32) (tb : Addr) (ct : Cell) (kt : ClassId) (o0 : Int32) (o1 : Int32) (o2 : Int32) (o3 : Int32) (h0 : Heap) (n0 : Nat) (Zle : n0 ≤ h0.size) (F_bytes_ob : Fld Z h0 ob "com/example/cipherloom/cipherloom/core/AsciiTable" "bytes" "[B" (.ref tb)) (A_tb : Arr Z h0 tb ct .byte) (V_tx : Arv Z h0 tx kt .byte (4 : Int32) [(.int o0), (.int o1), (.int o2), (.int o3)] (.int 0)) (g_tx : n0 ≤ tx) (ne_tb_tx : tb ≠ tx) (ne_ob_tx : ob ≠ tx) (hB : own_B ct) (hoe : (off = 0 ∧ (off + len) = 0) ∨ (off = 0 ∧ (off + len) = 1) ∨ (off = 0 ∧ (off + len) = 2) ∨ (off = 0 ∧ (off + len) = 3) ∨ (off = 0 ∧ (off + len) = 4) ∨ (off = 1 ∧ (off + len) = 1) ∨ (off = 1 ∧ (off + len) = 2) ∨ (off = 1 ∧ (off + len) = 3) ∨ (off = 1 ∧ (off + len) = 4) ∨ (off = 2 ∧ (off + len) = 2) ∨ (off = 2 ∧ (off + len) = 3) ∨ (off = 2 ∧ (off + len) = 4) ∨ (off = 3 ∧ (off + len) = 3) ∨ (off = 3 ∧ (off + len) = 4) ∨ (off = 4 ∧ (off + len) = 4)) (hby0 : o0 < 128) (hby1 : o1 < 128) (hby2 : o2 < 128) (hby3 : o3 < 128) :
    MetFree l (⟨"com/example/cipherloom/cipherloom/core/AsciiTable", "transform", "([BII)I"⟩ : MethodName) (head1 (Jvm.Cond.code (⟨"com/example/cipherloom/cipherloom/core/AsciiTable", "transform", "([BII)I"⟩ : MethodName) prog_32_method_2_code 4 (some .int) :: ws) ({ frames := 2, cells := 0, slots := 0, locals := 40 } : Room)) (fun a U => a = #[(.ref ob), (.ref tx), (.int off), (.int len)] ∧ Z.Warmed39 U.vm ∧ U.heap = h0) (fun _ _ _ _ _ => True) (fun _ U o U' => ∃ v L, o = .returned v ∧ Q3 Z ob tx off len tb ct kt o0 o1 o2 o3 h0 n0 v U'.heap L ∧ FrameEnd U o U' L ({ frames := 2, cells := 0, slots := 0, locals := 40 } : Room).cells ({ frames := 2, cells := 0, slots := 0, locals := 40 } : Room).slots) := by
  refine MetFree.of_bodySF (plainFor_of_name pn_com_example_cipherloom_cipherloom_core_AsciiTable) hisR ?_
  intro p e s m args below meth c s₁ Bd hml0 hP hK
  obtain ⟨rfl, hZ, hh⟩ := hP
  have hx := Bd.exec
  have hby := Bd.bytes
  have hml : c.maxLocals = 4 := hml0
  have hown : s.vm.findClass "com/example/cipherloom/cipherloom/core/AsciiTable" = some m.cls := findClass_of_methodNamed Bd.named
  have hnm := (name_of_methodNamed Bd.named Bd.method).1
  have X0 : Stand p l e ({ frames := 2, cells := 0, slots := 0, locals := 40 } : Room) s m #[(.ref ob), (.ref tx), (.int off), (.int len)] below meth c s₁ [] 0 0 := Stand.of_body Bd
  have e0 : s₁.heap = h0 := by rw [← hh, Bd.state]; rfl
  have N_ := Fr.nil n0
  have K_ := Keep.refl h0 [tx]
  show own_Goes p.tables e below s (Q3 Z ob tx off len tb ct kt o0 o1 o2 o3 h0 n0) ({ frames := 2, cells := 0, slots := 0, locals := 40 } : Room).cells ({ frames := 2, cells := 0, slots := 0, locals := 40 } : Room).slots s₁ (entryFrame m #[(.ref ob), (.ref tx), (.int off), (.int len)] 4)
  refine own_by (T' := s₁) (g' := (mkF m 0 #[.val (.ref ob), .val (.ref tx), .val (.int off), .val (.int len)] [])) (fun t k => castTop (ef_3 m ob tx off len) k) ?_
  refine own_by (T' := s₁) (g' := (mkF m 1 #[.val (.ref ob), .val (.ref tx), .val (.int off), .val (.int len)] [(.int off)])) (fun t k => XS.iloadN X0.here hx rfl (hb hby d3_0) rfl k) ?_
  refine own_by (T' := s₁) (g' := (mkF m 2 #[.val (.ref ob), .val (.ref tx), .val (.int off), .val (.int len)] [(.int len), (.int off)])) (fun t k => XS.iloadN X0.here hx rfl (hb hby d3_1) rfl k) ?_
  refine own_by (T' := s₁) (g' := (mkF m 3 #[.val (.ref ob), .val (.ref tx), .val (.int off), .val (.int len)] [(.ref tx), (.int len), (.int off)])) (fun t k => XS.aloadN X0.here hx rfl (hb hby d3_2) rfl rfl k) ?_
  obtain ⟨cl1, Ar1, -, S1, N1, -, -⟩ := id V_tx
  have st1 : ∀ t, Steps p.tables e below (s₁.setTop (mkF m 4 #[.val (.ref ob), .val (.ref tx), .val (.int off), .val (.int len)] [(.int 4), (.int len), (.int off)])) t → Steps p.tables e below (s₁.setTop (mkF m 3 #[.val (.ref ob), .val (.ref tx), .val (.int off), .val (.int len)] [(.ref tx), (.int len), (.int off)])) t := fun t k => X0.arraylength hx (by rw [e0]; exact Ar1.1) (State.isArrayOf_alike hZ.alike Ar1.2.1) (g := (mkF m 3 #[.val (.ref ob), .val (.ref tx), .val (.int off), .val (.int len)] [(.ref tx), (.int len), (.int off)])) rfl rfl (hb hby d3_3) _ (by rw [len_of S1 N1]; exact k)
  refine own_by (T' := s₁) (g' := (mkF m 4 #[.val (.ref ob), .val (.ref tx), .val (.int off), .val (.int len)] [(.int 4), (.int len), (.int off)])) (fun t k => st1 t k) ?_
  obtain ⟨_, _, ⟨T2, L2, k2, n2⟩, -, X2, ⟨Lc2, hQ2, l2, y2, z2⟩, st2⟩ := Jvm.LawKit.callS X0 hx (y := (⟨"java/util/Objects", "checkFromIndexSize", "(III)I"⟩ : MethodName)) hown (mvT hZ (hw _ (own_m 27 rfl))) (mvT hZ (hw _ (own_m 28 rfl))) (mvT hZ (hw _ (own_m 29 rfl))) (mvT hZ (hw _ (own_m 30 rfl))) (by decide) (backOf (W := 0) (rm4 l Z a0 hw [] off len h0 n0 Zle (own_chk hoe)) hZ (hw _ (own_m 30 rfl)) (hw _ (own_m 29 rfl)) (by decide) (by decide)) (g := (mkF m 4 #[.val (.ref ob), .val (.ref tx), .val (.int off), .val (.int len)] [(.int 4), (.int len), (.int off)])) rfl (by rw [hml]; rfl) (argsL := [(.int off), (.int len), (.int 4)]) (rest := []) (lenOf pd_4 rfl) rfl (own_le rfl) (hb hby d3_4) (fun _ _ => ⟨rfl, e0, (by decide : 0 + 0 ≤ _), (by decide : 0 + 0 ≤ _)⟩)
  dsimp only [Pt.U, Pt.locs, Pt.cells, Pt.slots] at X2 l2 y2 z2 st2 hQ2
  subst l2 y2 z2
  obtain ⟨rfl, Nq2, e2⟩ := hQ2
  have N_ := Fr.app N_ Nq2
  refine own_by (T' := T2) (g' := (mkF m 7 #[.val (.ref ob), .val (.ref tx), .val (.int off), .val (.int len)] [(.int off)])) (fun t k => st2 _ k) ?_
  refine own_by (T' := T2) (g' := (mkF m 8 #[.val (.ref ob), .val (.ref tx), .val (.int off), .val (.int len)] [])) (fun t k => XS.pop X2.here hx rfl (hb hby d3_7) rfl rfl k) ?_
  refine own_by (T' := T2) (g' := (mkF m 9 #[.val (.ref ob), .val (.ref tx), .val (.int off), .val (.int len)] [(.ref ob)])) (fun t k => XS.aloadN X2.here hx rfl (hb hby d3_8) rfl rfl k) ?_
  obtain ⟨T3, X3, e3, st3⟩ := getF X2 hx hZ hown (host := "") (Or.inl (hw _ (own_m 19 rfl))) Via.refl e2 F_bytes_ob (g := (mkF m 9 #[.val (.ref ob), .val (.ref tx), .val (.int off), .val (.int len)] [(.ref ob)])) rfl rfl (hb hby d3_9)
  refine own_by (T' := T3) (g' := (mkF m 12 #[.val (.ref ob), .val (.ref tx), .val (.int off), .val (.int len)] [(.ref tb)])) (fun t k => st3 t k) ?_
  refine own_by (T' := T3) (g' := (mkF m 13 #[.val (.ref ob), .val (.ref tx), .val (.int off), .val (.int len)] [(.ref tx), (.ref tb)])) (fun t k => XS.aloadN X3.here hx rfl (hb hby d3_12) rfl rfl k) ?_
  refine own_by (T' := T3) (g' := (mkF m 14 #[.val (.ref ob), .val (.ref tx), .val (.int off), .val (.int len)] [(.int off), (.ref tx), (.ref tb)])) (fun t k => XS.iloadN X3.here hx rfl (hb hby d3_13) rfl k) ?_
  refine own_by (T' := T3) (g' := (mkF m 15 #[.val (.ref ob), .val (.ref tx), .val (.int off), .val (.int len)] [(.int off), (.int off), (.ref tx), (.ref tb)])) (fun t k => XS.iloadN X3.here hx rfl (hb hby d3_14) rfl k) ?_
  refine own_by (T' := T3) (g' := (mkF m 16 #[.val (.ref ob), .val (.ref tx), .val (.int off), .val (.int len)] [(.int len), (.int off), (.int off), (.ref tx), (.ref tb)])) (fun t k => XS.iloadN X3.here hx rfl (hb hby d3_15) rfl k) ?_
  refine own_by (T' := T3) (g' := (mkF m 17 #[.val (.ref ob), .val (.ref tx), .val (.int off), .val (.int len)] [(.int (off + len)), (.int off), (.ref tx), (.ref tb)])) (fun t k => XS.iadd X3.here hx rfl (hb hby d3_16) rfl k) ?_
  obtain ⟨_, _, ⟨T4, L4, k4, n4⟩, -, X4, ⟨Lc4, hQ4, l4, y4, z4⟩, st4⟩ := Jvm.LawKit.callS X3 hx (y := (⟨"com/example/cipherloom/cipherloom/core/AsciiTable", "transform", "([B[BII)I"⟩ : MethodName)) hown (mvT hZ (hw _ (own_m 35 rfl))) (mvT hZ (hw _ (own_m 36 rfl))) (mvT hZ (hw _ (own_m 3 rfl))) (mvT hZ (hw _ (own_m 37 rfl))) (by decide) (backOf (W := 0) (rm6 l Z a0 hw [] tb tx off (off + len) ct kt o0 o1 o2 o3 h0 n0 Zle A_tb V_tx g_tx (ne_tb_tx) (hB) (hoe) (hby0) (hby1) (hby2) (hby3)) hZ (hw _ (own_m 37 rfl)) (hw _ (own_m 3 rfl)) (by decide) (by decide)) (g := (mkF m 17 #[.val (.ref ob), .val (.ref tx), .val (.int off), .val (.int len)] [(.int (off + len)), (.int off), (.ref tx), (.ref tb)])) rfl (by rw [hml]; rfl) (argsL := [(.ref tb), (.ref tx), (.int off), (.int (off + len))]) (rest := []) (lenOf pd_6 rfl) rfl (own_le rfl) (hb hby d3_17) (fun _ _ => ⟨rfl, e3, (by decide : 0 + 0 ≤ _), (by decide : 0 + 0 ≤ _)⟩)
  dsimp only [Pt.U, Pt.locs, Pt.cells, Pt.slots] at X4 l4 y4 z4 st4 hQ4
  subst l4 y4 z4
  obtain ⟨rfl, Nq4, c4_0, c4_1⟩ := hQ4
  have N_ := Fr.app N_ Nq4
  have F_bytes_ob := F_bytes_ob.keep c4_0 (ninS ne_ob_tx nin0)
  have A_tb := own_arrKeep A_tb c4_0 (ninS ne_tb_tx nin0)
  have Zle := Nat.le_trans Zle c4_0.1
  have K_ := K_.trans c4_0 (allS (Or.inl (List.mem_of_getElem? (i := 0) rfl)) all0)
  refine own_by (T' := T4) (g' := (mkF m 20 #[.val (.ref ob), .val (.ref tx), .val (.int off), .val (.int len)] [(.int (own_R off (off + len) o0 o1 o2 o3))])) (fun t k => st4 _ k) ?_
  exact own_retI X4 hx Bd.notSynchronized Bd.returns (hb hby d3_20) (by decide) (by decide) (by exact ⟨rfl, N_, K_, c4_1⟩)

theorem pn_com_example_cipherloom_cipherloom_core_AsciiTableTransformPinLaw : plainName "com/example/cipherloom/cipherloom/core/AsciiTableTransformPinLaw" = true := by first | (simp [plainName, overriddenIn]; done) | decide +kernel
theorem ef_7 (m : MethodId) (tb : Addr) (yy : Int32) (ii : Int32) (off : Int32) (rr : Int32) : entryFrame m #[(.ref tb), (.int yy), (.int ii), (.int off), (.int rr)] 5 = mkF m 0 #[.val (.ref tb), .val (.int yy), .val (.int ii), .val (.int off), .val (.int rr)] [] := by first | (simp [entryFrame, mkF, argsToLocals, Value.category]; done) | rfl
theorem d7_0 : decode method_3_code 0 = .ok (.iload_n 2, 1) := by decide +kernel
theorem d7_1 : decode method_3_code 1 = .ok (.iload_n 3, 1) := by decide +kernel
theorem d7_2 : decode method_3_code 2 = .ok (.if_icmp .lt 13, 3) := by decide +kernel
theorem d7_15 : decode method_3_code 15 = .ok (.iload_n 1, 1) := by decide +kernel
theorem d7_16 : decode method_3_code 16 = .ok (.ireturn, 1) := by decide +kernel
theorem d7_5 : decode method_3_code 5 = .ok (.iload_n 2, 1) := by decide +kernel
theorem d7_6 : decode method_3_code 6 = .ok (.iload 4, 2) := by decide +kernel
theorem d7_8 : decode method_3_code 8 = .ok (.if_icmp .ge 7, 3) := by decide +kernel
theorem d7_11 : decode method_3_code 11 = .ok (.aload_n 0, 1) := by decide +kernel
theorem d7_12 : decode method_3_code 12 = .ok (.iload_n 1, 1) := by decide +kernel
theorem d7_13 : decode method_3_code 13 = .ok (.baload, 1) := by decide +kernel
theorem d7_14 : decode method_3_code 14 = .ok (.ireturn, 1) := by decide +kernel
def Q7 (Z : State) (tb : Addr) (yy : Int32) (ii : Int32) (off : Int32) (rr : Int32) (ct : Cell) (h0 : Heap) (n0 : Nat) (v : Option Value) (h : Heap) (L : List Loc) : Prop := v = some (.int (own_xp ii off rr yy ct)) ∧ Fr n0 L ∧ h = h0
set_option maxRecDepth 65536 in
set_option maxHeartbeats 40000000 in
theorem rm7 (l : Launch) (Z : State) (a0 : Array Value) (hw : ∀ d ∈ tables_1, d.before a0 Z = true) (ws : List Jvm.Cond) (tb : Addr) (yy : Int32) (ii : Int32) (off : Int32) (rr : Int32) (ct : Cell) (h0 : Heap) (n0 : Nat) (Zle : n0 ≤ h0.size) (A_tb : Arr Z h0 tb ct .byte) (hB : own_B ct) (hb1 : yy < 128) (hps : ¬ ii < off → ii < rr → ¬ yy < 0) :
    MetFree l (⟨"com/example/cipherloom/cipherloom/core/AsciiTableTransformPinLaw", "expect", "([BBIII)B"⟩ : MethodName) (head1 (Jvm.Cond.code (⟨"com/example/cipherloom/cipherloom/core/AsciiTableTransformPinLaw", "expect", "([BBIII)B"⟩ : MethodName) method_3_code 5 (some .byte) :: ws) ({ frames := 0, cells := 0, slots := 0, locals := 0 } : Room)) (fun a U => a = #[(.ref tb), (.int yy), (.int ii), (.int off), (.int rr)] ∧ Z.Warmed39 U.vm ∧ U.heap = h0) (fun _ _ _ _ _ => True) (fun _ U o U' => ∃ v L, o = .returned v ∧ Q7 Z tb yy ii off rr ct h0 n0 v U'.heap L ∧ FrameEnd U o U' L ({ frames := 0, cells := 0, slots := 0, locals := 0 } : Room).cells ({ frames := 0, cells := 0, slots := 0, locals := 0 } : Room).slots) := by
  refine MetFree.of_bodySF (plainFor_of_name pn_com_example_cipherloom_cipherloom_core_AsciiTableTransformPinLaw) hisR ?_
  intro p e s m args below meth c s₁ Bd hml0 hP hK
  obtain ⟨rfl, hZ, hh⟩ := hP
  have hx := Bd.exec
  have hby := Bd.bytes
  have hml : c.maxLocals = 5 := hml0
  have hown : s.vm.findClass "com/example/cipherloom/cipherloom/core/AsciiTableTransformPinLaw" = some m.cls := findClass_of_methodNamed Bd.named
  have hnm := (name_of_methodNamed Bd.named Bd.method).1
  have X0 : Stand p l e ({ frames := 0, cells := 0, slots := 0, locals := 0 } : Room) s m #[(.ref tb), (.int yy), (.int ii), (.int off), (.int rr)] below meth c s₁ [] 0 0 := Stand.of_body Bd
  have e0 : s₁.heap = h0 := by rw [← hh, Bd.state]; rfl
  have N_ := Fr.nil n0
  show own_Goes p.tables e below s (Q7 Z tb yy ii off rr ct h0 n0) ({ frames := 0, cells := 0, slots := 0, locals := 0 } : Room).cells ({ frames := 0, cells := 0, slots := 0, locals := 0 } : Room).slots s₁ (entryFrame m #[(.ref tb), (.int yy), (.int ii), (.int off), (.int rr)] 5)
  refine own_by (T' := s₁) (g' := (mkF m 0 #[.val (.ref tb), .val (.int yy), .val (.int ii), .val (.int off), .val (.int rr)] [])) (fun t k => castTop (ef_7 m tb yy ii off rr) k) ?_
  refine own_by (T' := s₁) (g' := (mkF m 1 #[.val (.ref tb), .val (.int yy), .val (.int ii), .val (.int off), .val (.int rr)] [(.int ii)])) (fun t k => XS.iloadN X0.here hx rfl (hb hby d7_0) rfl k) ?_
  refine own_by (T' := s₁) (g' := (mkF m 2 #[.val (.ref tb), .val (.int yy), .val (.int ii), .val (.int off), .val (.int rr)] [(.int off), (.int ii)])) (fun t k => XS.iloadN X0.here hx rfl (hb hby d7_1) rfl k) ?_
  by_cases hc2_1 : ii < off
  · refine own_by (T' := s₁) (g' := (mkF m 15 #[.val (.ref tb), .val (.int yy), .val (.int ii), .val (.int off), .val (.int rr)] [])) (fun t k => XS.icmpYes X0.here hx rfl (pc0 := 2) (pc' := 15) rfl (hb hby d7_2) rfl (tlt hc2_1).1 (by decide) (by decide) k) ?_
    refine own_by (T' := s₁) (g' := (mkF m 16 #[.val (.ref tb), .val (.int yy), .val (.int ii), .val (.int off), .val (.int rr)] [(.int yy)])) (fun t k => XS.iloadN X0.here hx rfl (hb hby d7_15) rfl k) ?_
    exact own_retN X0 hx (t := .byte) Bd.notSynchronized Bd.returns (by simp) (hb hby d7_16) (by decide) (by decide) (by rw [e0]; exact ⟨by unfold own_xp; rw [if_pos hc2_1], N_, rfl⟩)
  · refine own_by (T' := s₁) (g' := (mkF m 5 #[.val (.ref tb), .val (.int yy), .val (.int ii), .val (.int off), .val (.int rr)] [])) (fun t k => XS.icmpNo X0.here hx rfl (hb hby d7_2) rfl (flt hc2_1).1 k) ?_
    refine own_by (T' := s₁) (g' := (mkF m 6 #[.val (.ref tb), .val (.int yy), .val (.int ii), .val (.int off), .val (.int rr)] [(.int ii)])) (fun t k => XS.iloadN X0.here hx rfl (hb hby d7_5) rfl k) ?_
    refine own_by (T' := s₁) (g' := (mkF m 8 #[.val (.ref tb), .val (.int yy), .val (.int ii), .val (.int off), .val (.int rr)] [(.int rr), (.int ii)])) (fun t k => XS.iload X0.here hx rfl (hb hby d7_6) rfl k) ?_
    by_cases hc8_2 : ii < rr
    · refine own_by (T' := s₁) (g' := (mkF m 11 #[.val (.ref tb), .val (.int yy), .val (.int ii), .val (.int off), .val (.int rr)] [])) (fun t k => XS.icmpNo X0.here hx rfl (hb hby d7_8) rfl (tlt hc8_2).2.1 k) ?_
      refine own_by (T' := s₁) (g' := (mkF m 12 #[.val (.ref tb), .val (.int yy), .val (.int ii), .val (.int off), .val (.int rr)] [(.ref tb)])) (fun t k => XS.aloadN X0.here hx rfl (hb hby d7_11) rfl rfl k) ?_
      refine own_by (T' := s₁) (g' := (mkF m 13 #[.val (.ref tb), .val (.int yy), .val (.int ii), .val (.int off), .val (.int rr)] [(.int yy), (.ref tb)])) (fun t k => XS.iloadN X0.here hx rfl (hb hby d7_12) rfl k) ?_
      refine own_by (T' := s₁) (g' := (mkF m 14 #[.val (.ref tb), .val (.int yy), .val (.int ii), .val (.int off), .val (.int rr)] [(.int (atv ct yy))])) (fun t k => X0.baloadBytes hx (j := yy) (v := (.int (atv ct yy))) (by rw [e0]; exact A_tb.1) (State.isArrayOf_alike hZ.alike A_tb.2.1) A_tb.2.2 (own_inb hB (hps hc2_1 hc8_2) hb1) (own_at hB (hps hc2_1 hc8_2) hb1) (g := (mkF m 13 #[.val (.ref tb), .val (.int yy), .val (.int ii), .val (.int off), .val (.int rr)] [(.int yy), (.ref tb)])) rfl rfl (hb hby d7_13) _ k) ?_
      exact own_retN X0 hx (t := .byte) Bd.notSynchronized Bd.returns (by simp) (hb hby d7_14) (by decide) (by decide) (by rw [e0]; exact ⟨by unfold own_xp; rw [if_neg hc2_1, if_pos hc8_2], N_, rfl⟩)
    · refine own_by (T' := s₁) (g' := (mkF m 15 #[.val (.ref tb), .val (.int yy), .val (.int ii), .val (.int off), .val (.int rr)] [])) (fun t k => XS.icmpYes X0.here hx rfl (pc0 := 8) (pc' := 15) rfl (hb hby d7_8) rfl (flt hc8_2).2.1 (by decide) (by decide) k) ?_
      refine own_by (T' := s₁) (g' := (mkF m 16 #[.val (.ref tb), .val (.int yy), .val (.int ii), .val (.int off), .val (.int rr)] [(.int yy)])) (fun t k => XS.iloadN X0.here hx rfl (hb hby d7_15) rfl k) ?_
      exact own_retN X0 hx (t := .byte) Bd.notSynchronized Bd.returns (by simp) (hb hby d7_16) (by decide) (by decide) (by rw [e0]; exact ⟨by unfold own_xp; rw [if_neg hc2_1, if_neg hc8_2], N_, rfl⟩)

theorem ef_0 (m : MethodId) (x1 : Int32) (x2 : Int32) (x3 : Int32) : entryFrame m #[(.int x1), (.int x2), (.int x3)] maxLocals = mkF m 0 #[.val (.int x1), .val (.int x2), .val (.int x3), .unset, .unset, .unset, .unset, .unset, .unset, .unset, .unset, .unset, .unset, .unset, .unset] [] := by first | (simp [entryFrame, mkF, argsToLocals, Value.category, maxLocals]; done) | rfl
theorem pd_0 : parseMethodDescriptor "([B)V" = some ⟨[(.array .byte)], none⟩ := by decide +kernel
theorem pd_3 : parseMethodDescriptor "([BII)I" = some ⟨[(.array .byte), .int, .int], some .int⟩ := by decide +kernel
theorem pd_7 : parseMethodDescriptor "([BBIII)B" = some ⟨[(.array .byte), .byte, .int, .int, .int], some .byte⟩ := by decide +kernel
def Q0 (Z : State) (x1 : Int32) (x2 : Int32) (x3 : Int32) (h0 : Heap) (n0 : Nat) (v : Option Value) (h : Heap) (L : List Loc) : Prop := v = some (.int 1) ∧ Fr n0 L
set_option maxRecDepth 65536 in
set_option maxHeartbeats 40000000 in
theorem rm0 (l : Launch) (Z : State) (a0 : Array Value) (hw : ∀ d ∈ tables_1, d.before a0 Z = true) (ws : List Jvm.Cond) (x1 : Int32) (x2 : Int32) (x3 : Int32) (h0 : Heap) (n0 : Nat) (Zle : n0 ≤ h0.size) :
    MetFree l x (head1 (Jvm.Cond.code x code maxLocals ret :: ws) room_1) (fun a U => a = #[(.int x1), (.int x2), (.int x3)] ∧ Z.Warmed39 U.vm ∧ U.heap = h0) (fun _ _ _ _ _ => True) (fun _ U o U' => ∃ v L, o = .returned v ∧ Q0 Z x1 x2 x3 h0 n0 v U'.heap L ∧ FrameEnd U o U' L room_1.cells room_1.slots) := by
  refine MetFree.of_bodySF (plainFor_of_name pn_com_example_cipherloom_cipherloom_core_AsciiTableTransformPinLaw) hisR ?_
  intro p e s m args below meth c s₁ Bd hml0 hP hK
  obtain ⟨rfl, hZ, hh⟩ := hP
  have hx := Bd.exec
  have hby := Bd.bytes
  have hml : c.maxLocals = 15 := hml0
  have hown : s.vm.findClass "com/example/cipherloom/cipherloom/core/AsciiTableTransformPinLaw" = some m.cls := findClass_of_methodNamed Bd.named
  have hnm := (name_of_methodNamed Bd.named Bd.method).1
  have X0 : Stand p l e room_1 s m #[(.int x1), (.int x2), (.int x3)] below meth c s₁ [] 0 0 := Stand.of_body Bd
  have e0 : s₁.heap = h0 := by rw [← hh, Bd.state]; rfl
  have N_ := Fr.nil n0
  show own_Goes p.tables e below s (Q0 Z x1 x2 x3 h0 n0) room_1.cells room_1.slots s₁ (entryFrame m #[(.int x1), (.int x2), (.int x3)] maxLocals)
  refine own_by (T' := s₁) (g' := (mkF m 0 #[.val (.int x1), .val (.int x2), .val (.int x3), .unset, .unset, .unset, .unset, .unset, .unset, .unset, .unset, .unset, .unset, .unset, .unset] [])) (fun t k => castTop (ef_0 m x1 x2 x3) k) ?_
  refine own_by (T' := s₁) (g' := (mkF m 1 #[.val (.int x1), .val (.int x2), .val (.int x3), .unset, .unset, .unset, .unset, .unset, .unset, .unset, .unset, .unset, .unset, .unset, .unset] [(.int x1)])) (fun t k => XS.iloadN X0.here hx rfl (hb hby at_0) rfl k) ?_
  refine own_by (T' := s₁) (g' := (mkF m 2 #[.val (.int x1), .val (.int x2), .val (.int x3), .unset, .unset, .unset, .unset, .unset, .unset, .unset, .unset, .unset, .unset, .unset, .unset] [(.int (x1.toInt8.toInt32))])) (fun t k => XS.i2b X0.here hx rfl (hb hby at_1) rfl k) ?_
  refine own_by (T' := s₁) (g' := (mkF m 3 #[.val (.int x1), .val (.int x2), .val (.int x3), .val (.int (x1.toInt8.toInt32)), .unset, .unset, .unset, .unset, .unset, .unset, .unset, .unset, .unset, .unset, .unset] [])) (fun t k => XS.istoreN X0.here hx rfl (hb hby at_2) rfl (l' := #[.val (.int x1), .val (.int x2), .val (.int x3), .val (.int (x1.toInt8.toInt32)), .unset, .unset, .unset, .unset, .unset, .unset, .unset, .unset, .unset, .unset, .unset]) rfl k) ?_
  obtain ⟨o0, e_o0⟩ : ∃ z : Int32, z = (x1.toInt8.toInt32) := ⟨_, rfl⟩
  rw [← e_o0]
  refine own_by (T' := s₁) (g' := (mkF m 4 #[.val (.int x1), .val (.int x2), .val (.int x3), .val (.int o0), .unset, .unset, .unset, .unset, .unset, .unset, .unset, .unset, .unset, .unset, .unset] [(.int x1)])) (fun t k => XS.iloadN X0.here hx rfl (hb hby at_3) rfl k) ?_
  refine own_by (T' := s₁) (g' := (mkF m 6 #[.val (.int x1), .val (.int x2), .val (.int x3), .val (.int o0), .unset, .unset, .unset, .unset, .unset, .unset, .unset, .unset, .unset, .unset, .unset] [(.int 8), (.int x1)])) (fun t k => XS.bipush X0.here hx rfl (hb hby at_4) k) ?_
  refine own_by (T' := s₁) (g' := (mkF m 7 #[.val (.int x1), .val (.int x2), .val (.int x3), .val (.int o0), .unset, .unset, .unset, .unset, .unset, .unset, .unset, .unset, .unset, .unset, .unset] [(.int (x1 >>> ((8 : Int32) &&& 31)))])) (fun t k => XS.ishr X0.here hx rfl (hb hby at_6) rfl k) ?_
  refine own_by (T' := s₁) (g' := (mkF m 8 #[.val (.int x1), .val (.int x2), .val (.int x3), .val (.int o0), .unset, .unset, .unset, .unset, .unset, .unset, .unset, .unset, .unset, .unset, .unset] [(.int ((x1 >>> ((8 : Int32) &&& 31)).toInt8.toInt32))])) (fun t k => XS.i2b X0.here hx rfl (hb hby at_7) rfl k) ?_
  refine own_by (T' := s₁) (g' := (mkF m 10 #[.val (.int x1), .val (.int x2), .val (.int x3), .val (.int o0), .val (.int ((x1 >>> ((8 : Int32) &&& 31)).toInt8.toInt32)), .unset, .unset, .unset, .unset, .unset, .unset, .unset, .unset, .unset, .unset] [])) (fun t k => XS.istore X0.here hx rfl (hb hby at_8) rfl (l' := #[.val (.int x1), .val (.int x2), .val (.int x3), .val (.int o0), .val (.int ((x1 >>> ((8 : Int32) &&& 31)).toInt8.toInt32)), .unset, .unset, .unset, .unset, .unset, .unset, .unset, .unset, .unset, .unset]) rfl k) ?_
  obtain ⟨o1, e_o1⟩ : ∃ z : Int32, z = ((x1 >>> ((8 : Int32) &&& 31)).toInt8.toInt32) := ⟨_, rfl⟩
  rw [← e_o1]
  refine own_by (T' := s₁) (g' := (mkF m 11 #[.val (.int x1), .val (.int x2), .val (.int x3), .val (.int o0), .val (.int o1), .unset, .unset, .unset, .unset, .unset, .unset, .unset, .unset, .unset, .unset] [(.int x1)])) (fun t k => XS.iloadN X0.here hx rfl (hb hby at_10) rfl k) ?_
  refine own_by (T' := s₁) (g' := (mkF m 13 #[.val (.int x1), .val (.int x2), .val (.int x3), .val (.int o0), .val (.int o1), .unset, .unset, .unset, .unset, .unset, .unset, .unset, .unset, .unset, .unset] [(.int 16), (.int x1)])) (fun t k => XS.bipush X0.here hx rfl (hb hby at_11) k) ?_
  refine own_by (T' := s₁) (g' := (mkF m 14 #[.val (.int x1), .val (.int x2), .val (.int x3), .val (.int o0), .val (.int o1), .unset, .unset, .unset, .unset, .unset, .unset, .unset, .unset, .unset, .unset] [(.int (x1 >>> ((16 : Int32) &&& 31)))])) (fun t k => XS.ishr X0.here hx rfl (hb hby at_13) rfl k) ?_
  refine own_by (T' := s₁) (g' := (mkF m 15 #[.val (.int x1), .val (.int x2), .val (.int x3), .val (.int o0), .val (.int o1), .unset, .unset, .unset, .unset, .unset, .unset, .unset, .unset, .unset, .unset] [(.int ((x1 >>> ((16 : Int32) &&& 31)).toInt8.toInt32))])) (fun t k => XS.i2b X0.here hx rfl (hb hby at_14) rfl k) ?_
  refine own_by (T' := s₁) (g' := (mkF m 17 #[.val (.int x1), .val (.int x2), .val (.int x3), .val (.int o0), .val (.int o1), .val (.int ((x1 >>> ((16 : Int32) &&& 31)).toInt8.toInt32)), .unset, .unset, .unset, .unset, .unset, .unset, .unset, .unset, .unset] [])) (fun t k => XS.istore X0.here hx rfl (hb hby at_15) rfl (l' := #[.val (.int x1), .val (.int x2), .val (.int x3), .val (.int o0), .val (.int o1), .val (.int ((x1 >>> ((16 : Int32) &&& 31)).toInt8.toInt32)), .unset, .unset, .unset, .unset, .unset, .unset, .unset, .unset, .unset]) rfl k) ?_
  obtain ⟨o2, e_o2⟩ : ∃ z : Int32, z = ((x1 >>> ((16 : Int32) &&& 31)).toInt8.toInt32) := ⟨_, rfl⟩
  rw [← e_o2]
  refine own_by (T' := s₁) (g' := (mkF m 18 #[.val (.int x1), .val (.int x2), .val (.int x3), .val (.int o0), .val (.int o1), .val (.int o2), .unset, .unset, .unset, .unset, .unset, .unset, .unset, .unset, .unset] [(.int x1)])) (fun t k => XS.iloadN X0.here hx rfl (hb hby at_17) rfl k) ?_
  refine own_by (T' := s₁) (g' := (mkF m 20 #[.val (.int x1), .val (.int x2), .val (.int x3), .val (.int o0), .val (.int o1), .val (.int o2), .unset, .unset, .unset, .unset, .unset, .unset, .unset, .unset, .unset] [(.int 24), (.int x1)])) (fun t k => XS.bipush X0.here hx rfl (hb hby at_18) k) ?_
  refine own_by (T' := s₁) (g' := (mkF m 21 #[.val (.int x1), .val (.int x2), .val (.int x3), .val (.int o0), .val (.int o1), .val (.int o2), .unset, .unset, .unset, .unset, .unset, .unset, .unset, .unset, .unset] [(.int ((x1.toUInt32 >>> ((24 : Int32) &&& 31).toUInt32).toInt32))])) (fun t k => XS.iushr X0.here hx rfl (hb hby at_20) rfl k) ?_
  refine own_by (T' := s₁) (g' := (mkF m 22 #[.val (.int x1), .val (.int x2), .val (.int x3), .val (.int o0), .val (.int o1), .val (.int o2), .unset, .unset, .unset, .unset, .unset, .unset, .unset, .unset, .unset] [(.int (((x1.toUInt32 >>> ((24 : Int32) &&& 31).toUInt32).toInt32).toInt8.toInt32))])) (fun t k => XS.i2b X0.here hx rfl (hb hby at_21) rfl k) ?_
  refine own_by (T' := s₁) (g' := (mkF m 24 #[.val (.int x1), .val (.int x2), .val (.int x3), .val (.int o0), .val (.int o1), .val (.int o2), .val (.int (((x1.toUInt32 >>> ((24 : Int32) &&& 31).toUInt32).toInt32).toInt8.toInt32)), .unset, .unset, .unset, .unset, .unset, .unset, .unset, .unset] [])) (fun t k => XS.istore X0.here hx rfl (hb hby at_22) rfl (l' := #[.val (.int x1), .val (.int x2), .val (.int x3), .val (.int o0), .val (.int o1), .val (.int o2), .val (.int (((x1.toUInt32 >>> ((24 : Int32) &&& 31).toUInt32).toInt32).toInt8.toInt32)), .unset, .unset, .unset, .unset, .unset, .unset, .unset, .unset]) rfl k) ?_
  obtain ⟨o3, e_o3⟩ : ∃ z : Int32, z = (((x1.toUInt32 >>> ((24 : Int32) &&& 31).toUInt32).toInt32).toInt8.toInt32) := ⟨_, rfl⟩
  rw [← e_o3]
  obtain ⟨hnb0, hby0⟩ := own_nb x1 e_o0
  obtain ⟨hnb1, hby1⟩ := own_nb (x1 >>> ((8 : Int32) &&& 31)) e_o1
  obtain ⟨hnb2, hby2⟩ := own_nb (x1 >>> ((16 : Int32) &&& 31)) e_o2
  obtain ⟨hnb3, hby3⟩ := own_nb ((x1.toUInt32 >>> ((24 : Int32) &&& 31).toUInt32).toInt32) e_o3
  refine own_by (T' := s₁) (g' := (mkF m 27 #[.val (.int x1), .val (.int x2), .val (.int x3), .val (.int o0), .val (.int o1), .val (.int o2), .val (.int o3), .unset, .unset, .unset, .unset, .unset, .unset, .unset, .unset] [(.int 128)])) (fun t k => XS.sipush X0.here hx rfl (hb hby at_24) k) ?_
  obtain ⟨T1, h1, k1, X1, e1, E1, A1, AE1, st1⟩ := newPE X0 hx hZ (hw _ (own_m 0 rfl)) e0 (g := (mkF m 27 #[.val (.int x1), .val (.int x2), .val (.int x3), .val (.int o0), .val (.int o1), .val (.int o2), .val (.int o3), .unset, .unset, .unset, .unset, .unset, .unset, .unset, .unset] [(.int 128)])) rfl (hb hby at_27) rfl (by decide) (cap := 128) (by decide) (by decide) (by decide) (by decide) (ad := "[B") (by decide)
  obtain ⟨b1, g1⟩ : ∃ z, z = h0.size := ⟨_, rfl⟩
  rw [← g1] at A1 AE1 st1
  have g_b1 : n0 ≤ b1 := Nat.le_trans Zle (Nat.le_of_eq g1.symm)
  have Zle := Nat.le_trans Zle E1.1
  have E_b1 := AE1
  have V_b1 : Arv Z h1 b1 k1 .byte (128 : Int32) [] (.int 0) := Arv.new A1 (by decide)
  refine own_by (T' := T1) (g' := (mkF m 29 #[.val (.int x1), .val (.int x2), .val (.int x3), .val (.int o0), .val (.int o1), .val (.int o2), .val (.int o3), .unset, .unset, .unset, .unset, .unset, .unset, .unset, .unset] [(.ref b1)])) (fun t k => st1 t k) ?_
  have A_b1 : Arr Z h1 b1 (newA k1 .byte 128) .byte := A1
  have hB := own_B_new k1
  refine own_by (T' := T1) (g' := (mkF m 31 #[.val (.int x1), .val (.int x2), .val (.int x3), .val (.int o0), .val (.int o1), .val (.int o2), .val (.int o3), .val (.ref b1), .unset, .unset, .unset, .unset, .unset, .unset, .unset] [])) (fun t k => XS.astore X1.here hx rfl (hb hby at_29) rfl rfl (l' := #[.val (.int x1), .val (.int x2), .val (.int x3), .val (.int o0), .val (.int o1), .val (.int o2), .val (.int o3), .val (.ref b1), .unset, .unset, .unset, .unset, .unset, .unset, .unset]) rfl k) ?_
  have J44 : ∀ (T' : State) (h' : Heap) (locs' : List Loc) (cl' : Cell), Stand p l e room_1 s m #[(.int x1), (.int x2), (.int x3)] below meth c T' locs' 1 128 → T'.heap = h' → Fr n0 locs' → n0 ≤ h'.size → Arr Z h' b1 cl' .byte → own_B cl' → Exa Z h' b1 "[B" → own_Goes p.tables e below s (Q0 Z x1 x2 x3 h0 n0) room_1.cells room_1.slots T' (mkF m 44 #[.val (.int x1), .val (.int x2), .val (.int x3), .val (.int o0), .val (.int o1), .val (.int o2), .val (.int o3), .val (.ref b1), .unset, .unset, .unset, .unset, .unset, .unset, .unset] []) := by
    intro T_44 h_44 locs_44 cl_44 X_44 e_44 N_ Zle A_b1 hB E_b1
    have J62 : ∀ (T' : State) (h' : Heap) (locs' : List Loc) (cl' : Cell), Stand p l e room_1 s m #[(.int x1), (.int x2), (.int x3)] below meth c T' locs' 1 128 → T'.heap = h' → Fr n0 locs' → n0 ≤ h'.size → Arr Z h' b1 cl' .byte → own_B cl' → Exa Z h' b1 "[B" → own_Goes p.tables e below s (Q0 Z x1 x2 x3 h0 n0) room_1.cells room_1.slots T' (mkF m 62 #[.val (.int x1), .val (.int x2), .val (.int x3), .val (.int o0), .val (.int o1), .val (.int o2), .val (.int o3), .val (.ref b1), .unset, .unset, .unset, .unset, .unset, .unset, .unset] []) := by
      intro T_62 h_62 locs_62 cl_62 X_62 e_62 N_ Zle A_b1 hB E_b1
      have J80 : ∀ (T' : State) (h' : Heap) (locs' : List Loc) (cl' : Cell), Stand p l e room_1 s m #[(.int x1), (.int x2), (.int x3)] below meth c T' locs' 1 128 → T'.heap = h' → Fr n0 locs' → n0 ≤ h'.size → Arr Z h' b1 cl' .byte → own_B cl' → Exa Z h' b1 "[B" → own_Goes p.tables e below s (Q0 Z x1 x2 x3 h0 n0) room_1.cells room_1.slots T' (mkF m 80 #[.val (.int x1), .val (.int x2), .val (.int x3), .val (.int o0), .val (.int o1), .val (.int o2), .val (.int o3), .val (.ref b1), .unset, .unset, .unset, .unset, .unset, .unset, .unset] []) := by
        intro T_80 h_80 locs_80 cl_80 X_80 e_80 N_ Zle A_b1 hB E_b1
        have J98 : ∀ (T' : State) (h' : Heap) (locs' : List Loc) (cl' : Cell), Stand p l e room_1 s m #[(.int x1), (.int x2), (.int x3)] below meth c T' locs' 1 128 → T'.heap = h' → Fr n0 locs' → n0 ≤ h'.size → Arr Z h' b1 cl' .byte → own_B cl' → Exa Z h' b1 "[B" → own_Goes p.tables e below s (Q0 Z x1 x2 x3 h0 n0) room_1.cells room_1.slots T' (mkF m 98 #[.val (.int x1), .val (.int x2), .val (.int x3), .val (.int o0), .val (.int o1), .val (.int o2), .val (.int o3), .val (.ref b1), .unset, .unset, .unset, .unset, .unset, .unset, .unset] []) := by
          intro T_98 h_98 locs_98 cl_98 X_98 e_98 N_ Zle A_b1 hB E_b1
          obtain ⟨T2, h2, X2, e2, E2, A2, D2, -, st2⟩ := newO X_98 hx hZ hown (hw _ (own_m 1 rfl)) (hw _ (own_m 2 rfl)) (hw _ (own_m 3 rfl)) e_98 (g := (mkF m 98 #[.val (.int x1), .val (.int x2), .val (.int x3), .val (.int o0), .val (.int o1), .val (.int o2), .val (.int o3), .val (.ref b1), .unset, .unset, .unset, .unset, .unset, .unset, .unset] [])) rfl (hb hby at_98) (by decide) (by decide)
          obtain ⟨b2, g2⟩ : ∃ z, z = h_98.size := ⟨_, rfl⟩
          rw [← g2] at A2 D2 st2
          have ne_b1_b2 : b1 ≠ b2 := Nat.ne_of_lt (Nat.lt_of_lt_of_eq E_b1.lt g2.symm)
          have g_b2 : n0 ≤ b2 := Nat.le_trans Zle (Nat.le_of_eq g2.symm)
          have Zle := Nat.le_trans Zle E2.1
          have E_b1 := E_b1.ext E2
          have A_b1 := A_b1.ext E2
          have E_b2 := A2
          have F_bytes_b2 : Fld Z h2 b2 "com/example/cipherloom/cipherloom/core/AsciiTable" "bytes" "[B" .null := D2 (Or.inr (hw _ (own_m 20 rfl))) (ty := (.array .byte)) (by decide)
          refine own_by (T' := T2) (g' := (mkF m 101 #[.val (.int x1), .val (.int x2), .val (.int x3), .val (.int o0), .val (.int o1), .val (.int o2), .val (.int o3), .val (.ref b1), .unset, .unset, .unset, .unset, .unset, .unset, .unset] [(.ref b2)])) (fun t k => st2 t k) ?_
          refine own_by (T' := T2) (g' := (mkF m 102 #[.val (.int x1), .val (.int x2), .val (.int x3), .val (.int o0), .val (.int o1), .val (.int o2), .val (.int o3), .val (.ref b1), .unset, .unset, .unset, .unset, .unset, .unset, .unset] [(.ref b2), (.ref b2)])) (fun t k => XS.dup X2.here hx rfl (hb hby at_101) rfl rfl k) ?_
          refine own_by (T' := T2) (g' := (mkF m 104 #[.val (.int x1), .val (.int x2), .val (.int x3), .val (.int o0), .val (.int o1), .val (.int o2), .val (.int o3), .val (.ref b1), .unset, .unset, .unset, .unset, .unset, .unset, .unset] [(.ref b1), (.ref b2), (.ref b2)])) (fun t k => XS.aload X2.here hx rfl (hb hby at_102) rfl rfl k) ?_
          have lt_b1_3 := E_b1.lt
          have lt_b2_3 := E_b2.lt
          have Zpre3 := Zle
          obtain ⟨_, _, ⟨T3, L3, k3, n3⟩, -, X3, ⟨Lc3, hQ3, l3, y3, z3⟩, st3⟩ := X2.specialBack hx (y := (⟨"com/example/cipherloom/cipherloom/core/AsciiTable", "<init>", "([B)V"⟩ : MethodName)) rfl hown (mvT hZ (hw _ (own_m 4 rfl))) (mvT hZ (hw _ (own_m 5 rfl))) (mvT hZ (hw _ (own_m 6 rfl))) (by decide) (backOf (W := 1) (rm1 l Z a0 hw [] b2 b1 cl_98 h2 n0 Zle E_b2 g_b2 F_bytes_b2 A_b1 E_b1 (ne_b1_b2) (hB)) hZ (hw _ (own_m 6 rfl)) (hw _ (own_m 3 rfl)) (by decide) (by decide)) (g := (mkF m 104 #[.val (.int x1), .val (.int x2), .val (.int x3), .val (.int o0), .val (.int o1), .val (.int o2), .val (.int o3), .val (.ref b1), .unset, .unset, .unset, .unset, .unset, .unset, .unset] [(.ref b1), (.ref b2), (.ref b2)])) rfl (by rw [hml]; rfl) (Steps.refl _) (a := b2) (argsL := [(.ref b1)]) (rest := [(.ref b2)]) (lenOf pd_0 rfl) rfl (own_le rfl) (hb hby at_104) (fun _ _ => ⟨rfl, e2, (by decide : 2 + 1 ≤ _), (by decide : 129 + 128 ≤ _)⟩)
          dsimp only [Pt.U, Pt.locs, Pt.cells, Pt.slots] at X3 l3 y3 z3 st3 hQ3
          subst l3 y3 z3
          obtain ⟨t2_3, rfl, Nq3, c3_0, c3_1, c3_2, c3_3, c3_4⟩ := hQ3
          have N_ := Fr.app N_ Nq3
          have Zle := Nat.le_trans Zle c3_0.1
          have E_b1 := E_b1.keep c3_0
          have A_b1 := own_arrKeep A_b1 c3_0 (ninS ne_b1_b2 nin0)
          have E_b2 := E_b2.keep c3_0
          have ne_b1_t2_3 : b1 ≠ t2_3 := Nat.ne_of_lt (Nat.lt_of_lt_of_le lt_b1_3 c3_2)
          have ne_b2_t2_3 : b2 ≠ t2_3 := Nat.ne_of_lt (Nat.lt_of_lt_of_le lt_b2_3 c3_2)
          have g_t2_3 : n0 ≤ t2_3 := Nat.le_trans Zpre3 c3_2
          refine own_by (T' := T3) (g' := (mkF m 107 #[.val (.int x1), .val (.int x2), .val (.int x3), .val (.int o0), .val (.int o1), .val (.int o2), .val (.int o3), .val (.ref b1), .unset, .unset, .unset, .unset, .unset, .unset, .unset] [(.ref b2)])) (fun t k => st3.trans k) ?_
          refine own_by (T' := T3) (g' := (mkF m 109 #[.val (.int x1), .val (.int x2), .val (.int x3), .val (.int o0), .val (.int o1), .val (.int o2), .val (.int o3), .val (.ref b1), .val (.ref b2), .unset, .unset, .unset, .unset, .unset, .unset] [])) (fun t k => XS.astore X3.here hx rfl (hb hby at_107) rfl rfl (l' := #[.val (.int x1), .val (.int x2), .val (.int x3), .val (.int o0), .val (.int o1), .val (.int o2), .val (.int o3), .val (.ref b1), .val (.ref b2), .unset, .unset, .unset, .unset, .unset, .unset]) rfl k) ?_
          refine own_by (T' := T3) (g' := (mkF m 110 #[.val (.int x1), .val (.int x2), .val (.int x3), .val (.int o0), .val (.int o1), .val (.int o2), .val (.int o3), .val (.ref b1), .val (.ref b2), .unset, .unset, .unset, .unset, .unset, .unset] [(.int 4)])) (fun t k => XS.iconst X3.here hx rfl (hb hby at_109) k) ?_
          obtain ⟨T4, h4, k4, X4, e4, E4, A4, AE4, st4⟩ := newPE X3 hx hZ (hw _ (own_m 0 rfl)) rfl (g := (mkF m 110 #[.val (.int x1), .val (.int x2), .val (.int x3), .val (.int o0), .val (.int o1), .val (.int o2), .val (.int o3), .val (.ref b1), .val (.ref b2), .unset, .unset, .unset, .unset, .unset, .unset] [(.int 4)])) rfl (hb hby at_110) rfl (by decide) (cap := 4) (by decide) (by decide) (by decide) (by decide) (ad := "[B") (by decide)
          obtain ⟨b4, g4⟩ : ∃ z, z = T3.heap.size := ⟨_, rfl⟩
          rw [← g4] at A4 AE4 st4
          have ne_b1_b4 : b1 ≠ b4 := Nat.ne_of_lt (Nat.lt_of_lt_of_eq E_b1.lt g4.symm)
          have ne_b2_b4 : b2 ≠ b4 := Nat.ne_of_lt (Nat.lt_of_lt_of_eq c3_1.lt g4.symm)
          have ne_t2_3_b4 : t2_3 ≠ b4 := Nat.ne_of_lt (Nat.lt_of_lt_of_eq c3_4.lt g4.symm)
          have g_b4 : n0 ≤ b4 := Nat.le_trans Zle (Nat.le_of_eq g4.symm)
          have Zle := Nat.le_trans Zle E4.1
          have E_b1 := E_b1.ext E4
          have A_b1 := A_b1.ext E4
          have c3_1 := c3_1.ext E4
          have c3_3 := c3_3.ext E4
          have c3_4 := c3_4.ext E4
          have E_b4 := AE4
          have V_b4 : Arv Z h4 b4 k4 .byte (4 : Int32) [(.int 0), (.int 0), (.int 0), (.int 0)] (.int 0) := (Arv.new A4 (by decide)).pad (pad_rep [] (.int 0) 4)
          refine own_by (T' := T4) (g' := (mkF m 112 #[.val (.int x1), .val (.int x2), .val (.int x3), .val (.int o0), .val (.int o1), .val (.int o2), .val (.int o3), .val (.ref b1), .val (.ref b2), .unset, .unset, .unset, .unset, .unset, .unset] [(.ref b4)])) (fun t k => st4 t k) ?_
          refine own_by (T' := T4) (g' := (mkF m 113 #[.val (.int x1), .val (.int x2), .val (.int x3), .val (.int o0), .val (.int o1), .val (.int o2), .val (.int o3), .val (.ref b1), .val (.ref b2), .unset, .unset, .unset, .unset, .unset, .unset] [(.ref b4), (.ref b4)])) (fun t k => XS.dup X4.here hx rfl (hb hby at_112) rfl rfl k) ?_
          refine own_by (T' := T4) (g' := (mkF m 114 #[.val (.int x1), .val (.int x2), .val (.int x3), .val (.int o0), .val (.int o1), .val (.int o2), .val (.int o3), .val (.ref b1), .val (.ref b2), .unset, .unset, .unset, .unset, .unset, .unset] [(.int 0), (.ref b4), (.ref b4)])) (fun t k => XS.iconst X4.here hx rfl (hb hby at_113) k) ?_
          refine own_by (T' := T4) (g' := (mkF m 115 #[.val (.int x1), .val (.int x2), .val (.int x3), .val (.int o0), .val (.int o1), .val (.int o2), .val (.int o3), .val (.ref b1), .val (.ref b2), .unset, .unset, .unset, .unset, .unset, .unset] [(.int o0), (.int 0), (.ref b4), (.ref b4)])) (fun t k => XS.iloadN X4.here hx rfl (hb hby at_114) rfl k) ?_
          obtain ⟨cl5, Ar5, q5, S5, N5, Hs5, G5⟩ := id V_b4
          have hin5 : ¬ ((0 : Int32) < 0 ∨ cl5.slots.size ≤ ((0 : Int32)).toNatClampNeg) := inb_of S5 ⟨by decide, by decide⟩
          obtain ⟨T5, h5, X5, e5, W5, st5⟩ := stB X4 hx hZ e4 Ar5 (j := (0 : Int32)) hin5 (g := (mkF m 115 #[.val (.int x1), .val (.int x2), .val (.int x3), .val (.int o0), .val (.int o1), .val (.int o2), .val (.int o3), .val (.ref b1), .val (.ref b2), .unset, .unset, .unset, .unset, .unset, .unset] [(.int o0), (.int 0), (.ref b4), (.ref b4)])) rfl rfl (hb hby at_115)
          rw [hnb0] at W5
          have V_b4_ : Arv Z h5 b4 k4 .byte (4 : Int32) [(.int o0), (.int 0), (.int 0), (.int 0)] (.int 0) := Arv.set Ar5 q5 S5 N5 Hs5 G5 (by rw [← hnb0]; exact fits_nar_byte _) W5 0 rfl (Nat.le_of_ble_eq_true rfl)
          have Zle := Nat.le_trans Zle (Keep.of_wr W5).1
          have E_b1 := E_b1.wr W5
          have A_b1 := A_b1.other W5 ne_b1_b4
          have c3_1 := c3_1.wr W5
          have c3_3 := c3_3.other W5 (Or.inl ne_b2_b4)
          have c3_4 := c3_4.other W5 ne_t2_3_b4
          have E_b4 := E_b4.wr W5
          have V_b4 := V_b4_
          have N_ := Fr.snoc X5 N_ g_b4
          refine own_by (T' := T5) (g' := (mkF m 116 #[.val (.int x1), .val (.int x2), .val (.int x3), .val (.int o0), .val (.int o1), .val (.int o2), .val (.int o3), .val (.ref b1), .val (.ref b2), .unset, .unset, .unset, .unset, .unset, .unset] [(.ref b4)])) (fun t k => st5 t k) ?_
          refine own_by (T' := T5) (g' := (mkF m 117 #[.val (.int x1), .val (.int x2), .val (.int x3), .val (.int o0), .val (.int o1), .val (.int o2), .val (.int o3), .val (.ref b1), .val (.ref b2), .unset, .unset, .unset, .unset, .unset, .unset] [(.ref b4), (.ref b4)])) (fun t k => XS.dup X5.here hx rfl (hb hby at_116) rfl rfl k) ?_
          refine own_by (T' := T5) (g' := (mkF m 118 #[.val (.int x1), .val (.int x2), .val (.int x3), .val (.int o0), .val (.int o1), .val (.int o2), .val (.int o3), .val (.ref b1), .val (.ref b2), .unset, .unset, .unset, .unset, .unset, .unset] [(.int 1), (.ref b4), (.ref b4)])) (fun t k => XS.iconst X5.here hx rfl (hb hby at_117) k) ?_
          refine own_by (T' := T5) (g' := (mkF m 120 #[.val (.int x1), .val (.int x2), .val (.int x3), .val (.int o0), .val (.int o1), .val (.int o2), .val (.int o3), .val (.ref b1), .val (.ref b2), .unset, .unset, .unset, .unset, .unset, .unset] [(.int o1), (.int 1), (.ref b4), (.ref b4)])) (fun t k => XS.iload X5.here hx rfl (hb hby at_118) rfl k) ?_
          obtain ⟨cl6, Ar6, q6, S6, N6, Hs6, G6⟩ := id V_b4
          have hin6 : ¬ ((1 : Int32) < 0 ∨ cl6.slots.size ≤ ((1 : Int32)).toNatClampNeg) := inb_of S6 ⟨by decide, by decide⟩
          obtain ⟨T6, h6, X6, e6, W6, st6⟩ := stB X5 hx hZ e5 Ar6 (j := (1 : Int32)) hin6 (g := (mkF m 120 #[.val (.int x1), .val (.int x2), .val (.int x3), .val (.int o0), .val (.int o1), .val (.int o2), .val (.int o3), .val (.ref b1), .val (.ref b2), .unset, .unset, .unset, .unset, .unset, .unset] [(.int o1), (.int 1), (.ref b4), (.ref b4)])) rfl rfl (hb hby at_120)
          rw [hnb1] at W6
          have V_b4_ : Arv Z h6 b4 k4 .byte (4 : Int32) [(.int o0), (.int o1), (.int 0), (.int 0)] (.int 0) := Arv.set Ar6 q6 S6 N6 Hs6 G6 (by rw [← hnb1]; exact fits_nar_byte _) W6 1 rfl (Nat.le_of_ble_eq_true rfl)
          have Zle := Nat.le_trans Zle (Keep.of_wr W6).1
          have E_b1 := E_b1.wr W6
          have A_b1 := A_b1.other W6 ne_b1_b4
          have c3_1 := c3_1.wr W6
          have c3_3 := c3_3.other W6 (Or.inl ne_b2_b4)
          have c3_4 := c3_4.other W6 ne_t2_3_b4
          have E_b4 := E_b4.wr W6
          have V_b4 := V_b4_
          have N_ := Fr.snoc X6 N_ g_b4
          refine own_by (T' := T6) (g' := (mkF m 121 #[.val (.int x1), .val (.int x2), .val (.int x3), .val (.int o0), .val (.int o1), .val (.int o2), .val (.int o3), .val (.ref b1), .val (.ref b2), .unset, .unset, .unset, .unset, .unset, .unset] [(.ref b4)])) (fun t k => st6 t k) ?_
          refine own_by (T' := T6) (g' := (mkF m 122 #[.val (.int x1), .val (.int x2), .val (.int x3), .val (.int o0), .val (.int o1), .val (.int o2), .val (.int o3), .val (.ref b1), .val (.ref b2), .unset, .unset, .unset, .unset, .unset, .unset] [(.ref b4), (.ref b4)])) (fun t k => XS.dup X6.here hx rfl (hb hby at_121) rfl rfl k) ?_
          refine own_by (T' := T6) (g' := (mkF m 123 #[.val (.int x1), .val (.int x2), .val (.int x3), .val (.int o0), .val (.int o1), .val (.int o2), .val (.int o3), .val (.ref b1), .val (.ref b2), .unset, .unset, .unset, .unset, .unset, .unset] [(.int 2), (.ref b4), (.ref b4)])) (fun t k => XS.iconst X6.here hx rfl (hb hby at_122) k) ?_
          refine own_by (T' := T6) (g' := (mkF m 125 #[.val (.int x1), .val (.int x2), .val (.int x3), .val (.int o0), .val (.int o1), .val (.int o2), .val (.int o3), .val (.ref b1), .val (.ref b2), .unset, .unset, .unset, .unset, .unset, .unset] [(.int o2), (.int 2), (.ref b4), (.ref b4)])) (fun t k => XS.iload X6.here hx rfl (hb hby at_123) rfl k) ?_
          obtain ⟨cl7, Ar7, q7, S7, N7, Hs7, G7⟩ := id V_b4
          have hin7 : ¬ ((2 : Int32) < 0 ∨ cl7.slots.size ≤ ((2 : Int32)).toNatClampNeg) := inb_of S7 ⟨by decide, by decide⟩
          obtain ⟨T7, h7, X7, e7, W7, st7⟩ := stB X6 hx hZ e6 Ar7 (j := (2 : Int32)) hin7 (g := (mkF m 125 #[.val (.int x1), .val (.int x2), .val (.int x3), .val (.int o0), .val (.int o1), .val (.int o2), .val (.int o3), .val (.ref b1), .val (.ref b2), .unset, .unset, .unset, .unset, .unset, .unset] [(.int o2), (.int 2), (.ref b4), (.ref b4)])) rfl rfl (hb hby at_125)
          rw [hnb2] at W7
          have V_b4_ : Arv Z h7 b4 k4 .byte (4 : Int32) [(.int o0), (.int o1), (.int o2), (.int 0)] (.int 0) := Arv.set Ar7 q7 S7 N7 Hs7 G7 (by rw [← hnb2]; exact fits_nar_byte _) W7 2 rfl (Nat.le_of_ble_eq_true rfl)
          have Zle := Nat.le_trans Zle (Keep.of_wr W7).1
          have E_b1 := E_b1.wr W7
          have A_b1 := A_b1.other W7 ne_b1_b4
          have c3_1 := c3_1.wr W7
          have c3_3 := c3_3.other W7 (Or.inl ne_b2_b4)
          have c3_4 := c3_4.other W7 ne_t2_3_b4
          have E_b4 := E_b4.wr W7
          have V_b4 := V_b4_
          have N_ := Fr.snoc X7 N_ g_b4
          refine own_by (T' := T7) (g' := (mkF m 126 #[.val (.int x1), .val (.int x2), .val (.int x3), .val (.int o0), .val (.int o1), .val (.int o2), .val (.int o3), .val (.ref b1), .val (.ref b2), .unset, .unset, .unset, .unset, .unset, .unset] [(.ref b4)])) (fun t k => st7 t k) ?_
          refine own_by (T' := T7) (g' := (mkF m 127 #[.val (.int x1), .val (.int x2), .val (.int x3), .val (.int o0), .val (.int o1), .val (.int o2), .val (.int o3), .val (.ref b1), .val (.ref b2), .unset, .unset, .unset, .unset, .unset, .unset] [(.ref b4), (.ref b4)])) (fun t k => XS.dup X7.here hx rfl (hb hby at_126) rfl rfl k) ?_
          refine own_by (T' := T7) (g' := (mkF m 128 #[.val (.int x1), .val (.int x2), .val (.int x3), .val (.int o0), .val (.int o1), .val (.int o2), .val (.int o3), .val (.ref b1), .val (.ref b2), .unset, .unset, .unset, .unset, .unset, .unset] [(.int 3), (.ref b4), (.ref b4)])) (fun t k => XS.iconst X7.here hx rfl (hb hby at_127) k) ?_
          refine own_by (T' := T7) (g' := (mkF m 130 #[.val (.int x1), .val (.int x2), .val (.int x3), .val (.int o0), .val (.int o1), .val (.int o2), .val (.int o3), .val (.ref b1), .val (.ref b2), .unset, .unset, .unset, .unset, .unset, .unset] [(.int o3), (.int 3), (.ref b4), (.ref b4)])) (fun t k => XS.iload X7.here hx rfl (hb hby at_128) rfl k) ?_
          obtain ⟨cl8, Ar8, q8, S8, N8, Hs8, G8⟩ := id V_b4
          have hin8 : ¬ ((3 : Int32) < 0 ∨ cl8.slots.size ≤ ((3 : Int32)).toNatClampNeg) := inb_of S8 ⟨by decide, by decide⟩
          obtain ⟨T8, h8, X8, e8, W8, st8⟩ := stB X7 hx hZ e7 Ar8 (j := (3 : Int32)) hin8 (g := (mkF m 130 #[.val (.int x1), .val (.int x2), .val (.int x3), .val (.int o0), .val (.int o1), .val (.int o2), .val (.int o3), .val (.ref b1), .val (.ref b2), .unset, .unset, .unset, .unset, .unset, .unset] [(.int o3), (.int 3), (.ref b4), (.ref b4)])) rfl rfl (hb hby at_130)
          rw [hnb3] at W8
          have V_b4_ : Arv Z h8 b4 k4 .byte (4 : Int32) [(.int o0), (.int o1), (.int o2), (.int o3)] (.int 0) := Arv.set Ar8 q8 S8 N8 Hs8 G8 (by rw [← hnb3]; exact fits_nar_byte _) W8 3 rfl (Nat.le_of_ble_eq_true rfl)
          have Zle := Nat.le_trans Zle (Keep.of_wr W8).1
          have E_b1 := E_b1.wr W8
          have A_b1 := A_b1.other W8 ne_b1_b4
          have c3_1 := c3_1.wr W8
          have c3_3 := c3_3.other W8 (Or.inl ne_b2_b4)
          have c3_4 := c3_4.other W8 ne_t2_3_b4
          have E_b4 := E_b4.wr W8
          have V_b4 := V_b4_
          have N_ := Fr.snoc X8 N_ g_b4
          refine own_by (T' := T8) (g' := (mkF m 131 #[.val (.int x1), .val (.int x2), .val (.int x3), .val (.int o0), .val (.int o1), .val (.int o2), .val (.int o3), .val (.ref b1), .val (.ref b2), .unset, .unset, .unset, .unset, .unset, .unset] [(.ref b4)])) (fun t k => st8 t k) ?_
          refine own_by (T' := T8) (g' := (mkF m 133 #[.val (.int x1), .val (.int x2), .val (.int x3), .val (.int o0), .val (.int o1), .val (.int o2), .val (.int o3), .val (.ref b1), .val (.ref b2), .val (.ref b4), .unset, .unset, .unset, .unset, .unset] [])) (fun t k => XS.astore X8.here hx rfl (hb hby at_131) rfl rfl (l' := #[.val (.int x1), .val (.int x2), .val (.int x3), .val (.int o0), .val (.int o1), .val (.int o2), .val (.int o3), .val (.ref b1), .val (.ref b2), .val (.ref b4), .unset, .unset, .unset, .unset, .unset]) rfl k) ?_
          refine own_by (T' := T8) (g' := (mkF m 134 #[.val (.int x1), .val (.int x2), .val (.int x3), .val (.int o0), .val (.int o1), .val (.int o2), .val (.int o3), .val (.ref b1), .val (.ref b2), .val (.ref b4), .unset, .unset, .unset, .unset, .unset] [(.int x3)])) (fun t k => XS.iloadN X8.here hx rfl (hb hby at_133) rfl k) ?_
          refine own_by (T' := T8) (g' := (mkF m 136 #[.val (.int x1), .val (.int x2), .val (.int x3), .val (.int o0), .val (.int o1), .val (.int o2), .val (.int o3), .val (.ref b1), .val (.ref b2), .val (.ref b4), .unset, .unset, .unset, .unset, .unset] [(.int 2147483647), (.int x3)])) (fun t k => X8.ldcInt hx hown (mvT hZ (hw _ (own_m 21 rfl))) (g := (mkF m 134 #[.val (.int x1), .val (.int x2), .val (.int x3), .val (.int o0), .val (.int o1), .val (.int o2), .val (.int o3), .val (.ref b1), .val (.ref b2), .val (.ref b4), .unset, .unset, .unset, .unset, .unset] [(.int x3)])) rfl (hb hby at_134) _ k) ?_
          refine own_by (T' := T8) (g' := (mkF m 137 #[.val (.int x1), .val (.int x2), .val (.int x3), .val (.int o0), .val (.int o1), .val (.int o2), .val (.int o3), .val (.ref b1), .val (.ref b2), .val (.ref b4), .unset, .unset, .unset, .unset, .unset] [(.int (x3 &&& (2147483647 : Int32)))])) (fun t k => XS.iand X8.here hx rfl (hb hby at_136) rfl k) ?_
          refine own_by (T' := T8) (g' := (mkF m 138 #[.val (.int x1), .val (.int x2), .val (.int x3), .val (.int o0), .val (.int o1), .val (.int o2), .val (.int o3), .val (.ref b1), .val (.ref b2), .val (.ref b4), .unset, .unset, .unset, .unset, .unset] [(.int 5), (.int (x3 &&& (2147483647 : Int32)))])) (fun t k => XS.iconst X8.here hx rfl (hb hby at_137) k) ?_
          refine own_by (T' := T8) (g' := (mkF m 139 #[.val (.int x1), .val (.int x2), .val (.int x3), .val (.int o0), .val (.int o1), .val (.int o2), .val (.int o3), .val (.ref b1), .val (.ref b2), .val (.ref b4), .unset, .unset, .unset, .unset, .unset] [(.int ((x3 &&& (2147483647 : Int32)) % (5 : Int32)))])) (fun t k => iremM X8 hx rfl (hb hby at_138) rfl (by decide) k) ?_
          refine own_by (T' := T8) (g' := (mkF m 141 #[.val (.int x1), .val (.int x2), .val (.int x3), .val (.int o0), .val (.int o1), .val (.int o2), .val (.int o3), .val (.ref b1), .val (.ref b2), .val (.ref b4), .val (.int ((x3 &&& (2147483647 : Int32)) % (5 : Int32))), .unset, .unset, .unset, .unset] [])) (fun t k => XS.istore X8.here hx rfl (hb hby at_139) rfl (l' := #[.val (.int x1), .val (.int x2), .val (.int x3), .val (.int o0), .val (.int o1), .val (.int o2), .val (.int o3), .val (.ref b1), .val (.ref b2), .val (.ref b4), .val (.int ((x3 &&& (2147483647 : Int32)) % (5 : Int32))), .unset, .unset, .unset, .unset]) rfl k) ?_
          obtain ⟨off, e_off⟩ : ∃ z : Int32, z = ((x3 &&& (2147483647 : Int32)) % (5 : Int32)) := ⟨_, rfl⟩
          rw [← e_off]
          have hof := own_rem5 x3
          rw [← e_off] at hof
          have hz5 := own_nz5 hof
          refine own_by (T' := T8) (g' := (mkF m 142 #[.val (.int x1), .val (.int x2), .val (.int x3), .val (.int o0), .val (.int o1), .val (.int o2), .val (.int o3), .val (.ref b1), .val (.ref b2), .val (.ref b4), .val (.int off), .unset, .unset, .unset, .unset] [(.int x3)])) (fun t k => XS.iloadN X8.here hx rfl (hb hby at_141) rfl k) ?_
          refine own_by (T' := T8) (g' := (mkF m 144 #[.val (.int x1), .val (.int x2), .val (.int x3), .val (.int o0), .val (.int o1), .val (.int o2), .val (.int o3), .val (.ref b1), .val (.ref b2), .val (.ref b4), .val (.int off), .unset, .unset, .unset, .unset] [(.int 8), (.int x3)])) (fun t k => XS.bipush X8.here hx rfl (hb hby at_142) k) ?_
          refine own_by (T' := T8) (g' := (mkF m 145 #[.val (.int x1), .val (.int x2), .val (.int x3), .val (.int o0), .val (.int o1), .val (.int o2), .val (.int o3), .val (.ref b1), .val (.ref b2), .val (.ref b4), .val (.int off), .unset, .unset, .unset, .unset] [(.int ((x3.toUInt32 >>> ((8 : Int32) &&& 31).toUInt32).toInt32))])) (fun t k => XS.iushr X8.here hx rfl (hb hby at_144) rfl k) ?_
          refine own_by (T' := T8) (g' := (mkF m 148 #[.val (.int x1), .val (.int x2), .val (.int x3), .val (.int o0), .val (.int o1), .val (.int o2), .val (.int o3), .val (.ref b1), .val (.ref b2), .val (.ref b4), .val (.int off), .unset, .unset, .unset, .unset] [(.int 255), (.int ((x3.toUInt32 >>> ((8 : Int32) &&& 31).toUInt32).toInt32))])) (fun t k => XS.sipush X8.here hx rfl (hb hby at_145) k) ?_
          refine own_by (T' := T8) (g' := (mkF m 149 #[.val (.int x1), .val (.int x2), .val (.int x3), .val (.int o0), .val (.int o1), .val (.int o2), .val (.int o3), .val (.ref b1), .val (.ref b2), .val (.ref b4), .val (.int off), .unset, .unset, .unset, .unset] [(.int (((x3.toUInt32 >>> ((8 : Int32) &&& 31).toUInt32).toInt32) &&& (255 : Int32)))])) (fun t k => XS.iand X8.here hx rfl (hb hby at_148) rfl k) ?_
          refine own_by (T' := T8) (g' := (mkF m 150 #[.val (.int x1), .val (.int x2), .val (.int x3), .val (.int o0), .val (.int o1), .val (.int o2), .val (.int o3), .val (.ref b1), .val (.ref b2), .val (.ref b4), .val (.int off), .unset, .unset, .unset, .unset] [(.int 5), (.int (((x3.toUInt32 >>> ((8 : Int32) &&& 31).toUInt32).toInt32) &&& (255 : Int32)))])) (fun t k => XS.iconst X8.here hx rfl (hb hby at_149) k) ?_
          refine own_by (T' := T8) (g' := (mkF m 152 #[.val (.int x1), .val (.int x2), .val (.int x3), .val (.int o0), .val (.int o1), .val (.int o2), .val (.int o3), .val (.ref b1), .val (.ref b2), .val (.ref b4), .val (.int off), .unset, .unset, .unset, .unset] [(.int off), (.int 5), (.int (((x3.toUInt32 >>> ((8 : Int32) &&& 31).toUInt32).toInt32) &&& (255 : Int32)))])) (fun t k => XS.iload X8.here hx rfl (hb hby at_150) rfl k) ?_
          refine own_by (T' := T8) (g' := (mkF m 153 #[.val (.int x1), .val (.int x2), .val (.int x3), .val (.int o0), .val (.int o1), .val (.int o2), .val (.int o3), .val (.ref b1), .val (.ref b2), .val (.ref b4), .val (.int off), .unset, .unset, .unset, .unset] [(.int ((5 : Int32) - off)), (.int (((x3.toUInt32 >>> ((8 : Int32) &&& 31).toUInt32).toInt32) &&& (255 : Int32)))])) (fun t k => XS.isub X8.here hx rfl (hb hby at_152) rfl k) ?_
          refine own_by (T' := T8) (g' := (mkF m 154 #[.val (.int x1), .val (.int x2), .val (.int x3), .val (.int o0), .val (.int o1), .val (.int o2), .val (.int o3), .val (.ref b1), .val (.ref b2), .val (.ref b4), .val (.int off), .unset, .unset, .unset, .unset] [(.int ((((x3.toUInt32 >>> ((8 : Int32) &&& 31).toUInt32).toInt32) &&& (255 : Int32)) % ((5 : Int32) - off)))])) (fun t k => iremM X8 hx rfl (hb hby at_153) rfl hz5 k) ?_
          refine own_by (T' := T8) (g' := (mkF m 156 #[.val (.int x1), .val (.int x2), .val (.int x3), .val (.int o0), .val (.int o1), .val (.int o2), .val (.int o3), .val (.ref b1), .val (.ref b2), .val (.ref b4), .val (.int off), .val (.int ((((x3.toUInt32 >>> ((8 : Int32) &&& 31).toUInt32).toInt32) &&& (255 : Int32)) % ((5 : Int32) - off))), .unset, .unset, .unset] [])) (fun t k => XS.istore X8.here hx rfl (hb hby at_154) rfl (l' := #[.val (.int x1), .val (.int x2), .val (.int x3), .val (.int o0), .val (.int o1), .val (.int o2), .val (.int o3), .val (.ref b1), .val (.ref b2), .val (.ref b4), .val (.int off), .val (.int ((((x3.toUInt32 >>> ((8 : Int32) &&& 31).toUInt32).toInt32) &&& (255 : Int32)) % ((5 : Int32) - off))), .unset, .unset, .unset]) rfl k) ?_
          obtain ⟨ln, e_ln⟩ : ∃ z : Int32, z = ((((x3.toUInt32 >>> ((8 : Int32) &&& 31).toUInt32).toInt32) &&& (255 : Int32)) % ((5 : Int32) - off)) := ⟨_, rfl⟩
          rw [← e_ln]
          refine own_by (T' := T8) (g' := (mkF m 158 #[.val (.int x1), .val (.int x2), .val (.int x3), .val (.int o0), .val (.int o1), .val (.int o2), .val (.int o3), .val (.ref b1), .val (.ref b2), .val (.ref b4), .val (.int off), .val (.int ln), .unset, .unset, .unset] [(.int off)])) (fun t k => XS.iload X8.here hx rfl (hb hby at_156) rfl k) ?_
          refine own_by (T' := T8) (g' := (mkF m 160 #[.val (.int x1), .val (.int x2), .val (.int x3), .val (.int o0), .val (.int o1), .val (.int o2), .val (.int o3), .val (.ref b1), .val (.ref b2), .val (.ref b4), .val (.int off), .val (.int ln), .unset, .unset, .unset] [(.int ln), (.int off)])) (fun t k => XS.iload X8.here hx rfl (hb hby at_158) rfl k) ?_
          refine own_by (T' := T8) (g' := (mkF m 161 #[.val (.int x1), .val (.int x2), .val (.int x3), .val (.int o0), .val (.int o1), .val (.int o2), .val (.int o3), .val (.ref b1), .val (.ref b2), .val (.ref b4), .val (.int off), .val (.int ln), .unset, .unset, .unset] [(.int (off + ln))])) (fun t k => XS.iadd X8.here hx rfl (hb hby at_160) rfl k) ?_
          refine own_by (T' := T8) (g' := (mkF m 163 #[.val (.int x1), .val (.int x2), .val (.int x3), .val (.int o0), .val (.int o1), .val (.int o2), .val (.int o3), .val (.ref b1), .val (.ref b2), .val (.ref b4), .val (.int off), .val (.int ln), .val (.int (off + ln)), .unset, .unset] [])) (fun t k => XS.istore X8.here hx rfl (hb hby at_161) rfl (l' := #[.val (.int x1), .val (.int x2), .val (.int x3), .val (.int o0), .val (.int o1), .val (.int o2), .val (.int o3), .val (.ref b1), .val (.ref b2), .val (.ref b4), .val (.int off), .val (.int ln), .val (.int (off + ln)), .unset, .unset]) rfl k) ?_
          obtain ⟨en, e_en⟩ : ∃ z : Int32, z = (off + ln) := ⟨_, rfl⟩
          rw [← e_en]
          have hoe := own_ln (((x3.toUInt32 >>> ((8 : Int32) &&& 31).toUInt32).toInt32) &&& (255 : Int32)) off (by have := c_mask ((x3.toUInt32 >>> ((8 : Int32) &&& 31).toUInt32).toInt32) 255 8 (by decide) (by decide); omega) hof
          rw [← e_ln, ← e_en] at hoe
          have hoe2 := hoe
          rw [e_en] at hoe2
          have hpo := own_pos o0 o1 o2 o3 hoe
          refine own_by (T' := T8) (g' := (mkF m 165 #[.val (.int x1), .val (.int x2), .val (.int x3), .val (.int o0), .val (.int o1), .val (.int o2), .val (.int o3), .val (.ref b1), .val (.ref b2), .val (.ref b4), .val (.int off), .val (.int ln), .val (.int en), .unset, .unset] [(.int en)])) (fun t k => XS.iload X8.here hx rfl (hb hby at_163) rfl k) ?_
          refine own_by (T' := T8) (g' := (mkF m 167 #[.val (.int x1), .val (.int x2), .val (.int x3), .val (.int o0), .val (.int o1), .val (.int o2), .val (.int o3), .val (.ref b1), .val (.ref b2), .val (.ref b4), .val (.int off), .val (.int ln), .val (.int en), .val (.int en), .unset] [])) (fun t k => XS.istore X8.here hx rfl (hb hby at_165) rfl (l' := #[.val (.int x1), .val (.int x2), .val (.int x3), .val (.int o0), .val (.int o1), .val (.int o2), .val (.int o3), .val (.ref b1), .val (.ref b2), .val (.ref b4), .val (.int off), .val (.int ln), .val (.int en), .val (.int en), .unset]) rfl k) ?_
          have J187_9 : ∀ r1 : Int32, r1 = own_rs (3 : Int32) off en o3 en → own_Goes p.tables e below s (Q0 Z x1 x2 x3 h0 n0) room_1.cells room_1.slots T8 (mkF m 187 #[.val (.int x1), .val (.int x2), .val (.int x3), .val (.int o0), .val (.int o1), .val (.int o2), .val (.int o3), .val (.ref b1), .val (.ref b2), .val (.ref b4), .val (.int off), .val (.int ln), .val (.int en), .val (.int r1), .unset] []) := by
            intro r1 h_r1
            have J207_10 : ∀ r2 : Int32, r2 = own_rs (2 : Int32) off en o2 r1 → own_Goes p.tables e below s (Q0 Z x1 x2 x3 h0 n0) room_1.cells room_1.slots T8 (mkF m 207 #[.val (.int x1), .val (.int x2), .val (.int x3), .val (.int o0), .val (.int o1), .val (.int o2), .val (.int o3), .val (.ref b1), .val (.ref b2), .val (.ref b4), .val (.int off), .val (.int ln), .val (.int en), .val (.int r2), .unset] []) := by
              intro r2 h_r2
              have J227_11 : ∀ r3 : Int32, r3 = own_rs (1 : Int32) off en o1 r2 → own_Goes p.tables e below s (Q0 Z x1 x2 x3 h0 n0) room_1.cells room_1.slots T8 (mkF m 227 #[.val (.int x1), .val (.int x2), .val (.int x3), .val (.int o0), .val (.int o1), .val (.int o2), .val (.int o3), .val (.ref b1), .val (.ref b2), .val (.ref b4), .val (.int off), .val (.int ln), .val (.int en), .val (.int r3), .unset] []) := by
                intro r3 h_r3
                have J246_12 : ∀ r4 : Int32, r4 = own_rs (0 : Int32) off en o0 r3 → own_Goes p.tables e below s (Q0 Z x1 x2 x3 h0 n0) room_1.cells room_1.slots T8 (mkF m 246 #[.val (.int x1), .val (.int x2), .val (.int x3), .val (.int o0), .val (.int o1), .val (.int o2), .val (.int o3), .val (.ref b1), .val (.ref b2), .val (.ref b4), .val (.int off), .val (.int ln), .val (.int en), .val (.int r4), .unset] []) := by
                  intro r4 h_r4
                  have hR : own_R off (off + ln) o0 o1 o2 o3 = r4 := by rw [h_r4, h_r3, h_r2, h_r1, e_en]; rfl
                  rw [show own_R off en o0 o1 o2 o3 = r4 from by rw [e_en]; exact hR] at hpo
                  refine own_by (T' := T8) (g' := (mkF m 248 #[.val (.int x1), .val (.int x2), .val (.int x3), .val (.int o0), .val (.int o1), .val (.int o2), .val (.int o3), .val (.ref b1), .val (.ref b2), .val (.ref b4), .val (.int off), .val (.int ln), .val (.int en), .val (.int r4), .unset] [(.ref b2)])) (fun t k => XS.aload X8.here hx rfl (hb hby at_246) rfl rfl k) ?_
                  refine own_by (T' := T8) (g' := (mkF m 250 #[.val (.int x1), .val (.int x2), .val (.int x3), .val (.int o0), .val (.int o1), .val (.int o2), .val (.int o3), .val (.ref b1), .val (.ref b2), .val (.ref b4), .val (.int off), .val (.int ln), .val (.int en), .val (.int r4), .unset] [(.ref b4), (.ref b2)])) (fun t k => XS.aload X8.here hx rfl (hb hby at_248) rfl rfl k) ?_
                  refine own_by (T' := T8) (g' := (mkF m 252 #[.val (.int x1), .val (.int x2), .val (.int x3), .val (.int o0), .val (.int o1), .val (.int o2), .val (.int o3), .val (.ref b1), .val (.ref b2), .val (.ref b4), .val (.int off), .val (.int ln), .val (.int en), .val (.int r4), .unset] [(.int off), (.ref b4), (.ref b2)])) (fun t k => XS.iload X8.here hx rfl (hb hby at_250) rfl k) ?_
                  refine own_by (T' := T8) (g' := (mkF m 254 #[.val (.int x1), .val (.int x2), .val (.int x3), .val (.int o0), .val (.int o1), .val (.int o2), .val (.int o3), .val (.ref b1), .val (.ref b2), .val (.ref b4), .val (.int off), .val (.int ln), .val (.int en), .val (.int r4), .unset] [(.int ln), (.int off), (.ref b4), (.ref b2)])) (fun t k => XS.iload X8.here hx rfl (hb hby at_252) rfl k) ?_
                  obtain ⟨cq13, kq13, q13a, q13b, q13c⟩ := isOf hZ e8 c3_1
                  obtain ⟨_, _, ⟨T13, L13, k13, n13⟩, -, X13, ⟨Lc13, hQ13, l13, y13, z13⟩, st13⟩ := X8.virtualBack hx (y := (⟨"com/example/cipherloom/cipherloom/core/AsciiTable", "transform", "([BII)I"⟩ : MethodName)) (z := (⟨"com/example/cipherloom/cipherloom/core/AsciiTable", "transform", "([BII)I"⟩ : MethodName)) hown (mvT hZ (hw _ (own_m 22 rfl))) (mvT hZ (hw _ (own_m 23 rfl))) (notFace_of_selects (args := #[]) (mvT hZ (hw _ (own_m 25 rfl)))) (mvT hZ (hw _ (own_m 25 rfl))) (mvT hZ (hw _ (own_m 24 rfl))) (by decide) (backOf (W := 0) (rm3 l Z a0 hw [] b2 b4 off ln t2_3 (cloneOf cl_98) k4 o0 o1 o2 o3 h8 n0 Zle c3_3 c3_4 V_b4 g_b4 (ne_t2_3_b4) (ne_b2_b4) (hB) (hoe2) (hby0) (hby1) (hby2) (hby3)) hZ (hw _ (own_m 26 rfl)) (hw _ (own_m 3 rfl)) (by decide) (by decide)) q13a q13c (g := (mkF m 254 #[.val (.int x1), .val (.int x2), .val (.int x3), .val (.int o0), .val (.int o1), .val (.int o2), .val (.int o3), .val (.ref b1), .val (.ref b2), .val (.ref b4), .val (.int off), .val (.int ln), .val (.int en), .val (.int r4), .unset] [(.int ln), (.int off), (.ref b4), (.ref b2)])) rfl (by rw [hml]; rfl) (Steps.refl _) (argsL := [(.ref b4), (.int off), (.int ln)]) (rest := []) (lenOf pd_3 rfl) rfl (own_le rfl) (hb hby at_254) (fun _ _ => ⟨rfl, e8, (by decide : 4 + 0 ≤ _), (by decide : 261 + 0 ≤ _)⟩)
                  dsimp only [Pt.U, Pt.locs, Pt.cells, Pt.slots] at X13 l13 y13 z13 st13 hQ13
                  subst l13 y13 z13
                  obtain ⟨rfl, Nq13, c13_0, c13_1⟩ := hQ13
                  have N_ := Fr.app N_ Nq13
                  have Zle := Nat.le_trans Zle c13_0.1
                  have E_b1 := E_b1.keep c13_0
                  have A_b1 := own_arrKeep A_b1 c13_0 (ninS ne_b1_b4 nin0)
                  have c3_1 := c3_1.keep c13_0
                  have c3_3 := c3_3.keep c13_0 (ninS ne_b2_b4 nin0)
                  have c3_4 := own_arrKeep c3_4 c13_0 (ninS ne_t2_3_b4 nin0)
                  have E_b4 := E_b4.keep c13_0
                  refine own_by (T' := T13) (g' := (mkF m 257 #[.val (.int x1), .val (.int x2), .val (.int x3), .val (.int o0), .val (.int o1), .val (.int o2), .val (.int o3), .val (.ref b1), .val (.ref b2), .val (.ref b4), .val (.int off), .val (.int ln), .val (.int en), .val (.int r4), .unset] [(.int (own_R off (off + ln) o0 o1 o2 o3))])) (fun t k => st13.trans k) ?_
                  refine own_by (T' := T13) (g' := (mkF m 259 #[.val (.int x1), .val (.int x2), .val (.int x3), .val (.int o0), .val (.int o1), .val (.int o2), .val (.int o3), .val (.ref b1), .val (.ref b2), .val (.ref b4), .val (.int off), .val (.int ln), .val (.int en), .val (.int r4), .val (.int (own_R off (off + ln) o0 o1 o2 o3))] [])) (fun t k => XS.istore X13.here hx rfl (hb hby at_257) rfl (l' := #[.val (.int x1), .val (.int x2), .val (.int x3), .val (.int o0), .val (.int o1), .val (.int o2), .val (.int o3), .val (.ref b1), .val (.ref b2), .val (.ref b4), .val (.int off), .val (.int ln), .val (.int en), .val (.int r4), .val (.int (own_R off (off + ln) o0 o1 o2 o3))]) rfl k) ?_
                  refine own_by (T' := T13) (g' := (mkF m 261 #[.val (.int x1), .val (.int x2), .val (.int x3), .val (.int o0), .val (.int o1), .val (.int o2), .val (.int o3), .val (.ref b1), .val (.ref b2), .val (.ref b4), .val (.int off), .val (.int ln), .val (.int en), .val (.int r4), .val (.int (own_R off (off + ln) o0 o1 o2 o3))] [(.int (own_R off (off + ln) o0 o1 o2 o3))])) (fun t k => XS.iload X13.here hx rfl (hb hby at_259) rfl k) ?_
                  refine own_by (T' := T13) (g' := (mkF m 263 #[.val (.int x1), .val (.int x2), .val (.int x3), .val (.int o0), .val (.int o1), .val (.int o2), .val (.int o3), .val (.ref b1), .val (.ref b2), .val (.ref b4), .val (.int off), .val (.int ln), .val (.int en), .val (.int r4), .val (.int (own_R off (off + ln) o0 o1 o2 o3))] [(.int r4), (.int (own_R off (off + ln) o0 o1 o2 o3))])) (fun t k => XS.iload X13.here hx rfl (hb hby at_261) rfl k) ?_
                  refine own_by (T' := T13) (g' := (mkF m 266 #[.val (.int x1), .val (.int x2), .val (.int x3), .val (.int o0), .val (.int o1), .val (.int o2), .val (.int o3), .val (.ref b1), .val (.ref b2), .val (.ref b4), .val (.int off), .val (.int ln), .val (.int en), .val (.int r4), .val (.int (own_R off (off + ln) o0 o1 o2 o3))] [])) (fun t k => XS.icmpNo X13.here hx rfl (hb hby at_263) rfl (teq hR).2 k) ?_
                  refine own_by (T' := T13) (g' := (mkF m 268 #[.val (.int x1), .val (.int x2), .val (.int x3), .val (.int o0), .val (.int o1), .val (.int o2), .val (.int o3), .val (.ref b1), .val (.ref b2), .val (.ref b4), .val (.int off), .val (.int ln), .val (.int en), .val (.int r4), .val (.int (own_R off (off + ln) o0 o1 o2 o3))] [(.ref b4)])) (fun t k => XS.aload X13.here hx rfl (hb hby at_266) rfl rfl k) ?_
                  refine own_by (T' := T13) (g' := (mkF m 269 #[.val (.int x1), .val (.int x2), .val (.int x3), .val (.int o0), .val (.int o1), .val (.int o2), .val (.int o3), .val (.ref b1), .val (.ref b2), .val (.ref b4), .val (.int off), .val (.int ln), .val (.int en), .val (.int r4), .val (.int (own_R off (off + ln) o0 o1 o2 o3))] [(.int 0), (.ref b4)])) (fun t k => XS.iconst X13.here hx rfl (hb hby at_268) k) ?_
                  obtain ⟨cl14, Ar14, q14, S14, N14, Hs14, G14⟩ := id c13_1
                  have hin14 : ¬ ((0 : Int32) < 0 ∨ cl14.slots.size ≤ ((0 : Int32)).toNatClampNeg) := inb_of S14 ⟨by decide, by decide⟩
                  have hat14 : cl14.slots[((0 : Int32)).toNatClampNeg]? = some (.int (own_tx (0 : Int32) off (own_R off (off + ln) o0 o1 o2 o3) o0 (cloneOf cl_98))) := Hs14.at hin14 rfl
                  refine own_by (T' := T13) (g' := (mkF m 270 #[.val (.int x1), .val (.int x2), .val (.int x3), .val (.int o0), .val (.int o1), .val (.int o2), .val (.int o3), .val (.ref b1), .val (.ref b2), .val (.ref b4), .val (.int off), .val (.int ln), .val (.int en), .val (.int r4), .val (.int (own_R off (off + ln) o0 o1 o2 o3))] [(.int (own_tx (0 : Int32) off (own_R off (off + ln) o0 o1 o2 o3) o0 (cloneOf cl_98)))])) (fun t k => X13.baloadBytes hx (j := (0 : Int32)) (v := (.int (own_tx (0 : Int32) off (own_R off (off + ln) o0 o1 o2 o3) o0 (cloneOf cl_98)))) (by exact Ar14.1) (State.isArrayOf_alike hZ.alike Ar14.2.1) Ar14.2.2 hin14 hat14 (g := (mkF m 269 #[.val (.int x1), .val (.int x2), .val (.int x3), .val (.int o0), .val (.int o1), .val (.int o2), .val (.int o3), .val (.ref b1), .val (.ref b2), .val (.ref b4), .val (.int off), .val (.int ln), .val (.int en), .val (.int r4), .val (.int (own_R off (off + ln) o0 o1 o2 o3))] [(.int 0), (.ref b4)])) rfl rfl (hb hby at_269) _ k) ?_
                  refine own_by (T' := T13) (g' := (mkF m 272 #[.val (.int x1), .val (.int x2), .val (.int x3), .val (.int o0), .val (.int o1), .val (.int o2), .val (.int o3), .val (.ref b1), .val (.ref b2), .val (.ref b4), .val (.int off), .val (.int ln), .val (.int en), .val (.int r4), .val (.int (own_R off (off + ln) o0 o1 o2 o3))] [(.ref b1), (.int (own_tx (0 : Int32) off (own_R off (off + ln) o0 o1 o2 o3) o0 (cloneOf cl_98)))])) (fun t k => XS.aload X13.here hx rfl (hb hby at_270) rfl rfl k) ?_
                  refine own_by (T' := T13) (g' := (mkF m 273 #[.val (.int x1), .val (.int x2), .val (.int x3), .val (.int o0), .val (.int o1), .val (.int o2), .val (.int o3), .val (.ref b1), .val (.ref b2), .val (.ref b4), .val (.int off), .val (.int ln), .val (.int en), .val (.int r4), .val (.int (own_R off (off + ln) o0 o1 o2 o3))] [(.int o0), (.ref b1), (.int (own_tx (0 : Int32) off (own_R off (off + ln) o0 o1 o2 o3) o0 (cloneOf cl_98)))])) (fun t k => XS.iloadN X13.here hx rfl (hb hby at_272) rfl k) ?_
                  refine own_by (T' := T13) (g' := (mkF m 274 #[.val (.int x1), .val (.int x2), .val (.int x3), .val (.int o0), .val (.int o1), .val (.int o2), .val (.int o3), .val (.ref b1), .val (.ref b2), .val (.ref b4), .val (.int off), .val (.int ln), .val (.int en), .val (.int r4), .val (.int (own_R off (off + ln) o0 o1 o2 o3))] [(.int 0), (.int o0), (.ref b1), (.int (own_tx (0 : Int32) off (own_R off (off + ln) o0 o1 o2 o3) o0 (cloneOf cl_98)))])) (fun t k => XS.iconst X13.here hx rfl (hb hby at_273) k) ?_
                  refine own_by (T' := T13) (g' := (mkF m 276 #[.val (.int x1), .val (.int x2), .val (.int x3), .val (.int o0), .val (.int o1), .val (.int o2), .val (.int o3), .val (.ref b1), .val (.ref b2), .val (.ref b4), .val (.int off), .val (.int ln), .val (.int en), .val (.int r4), .val (.int (own_R off (off + ln) o0 o1 o2 o3))] [(.int off), (.int 0), (.int o0), (.ref b1), (.int (own_tx (0 : Int32) off (own_R off (off + ln) o0 o1 o2 o3) o0 (cloneOf cl_98)))])) (fun t k => XS.iload X13.here hx rfl (hb hby at_274) rfl k) ?_
                  refine own_by (T' := T13) (g' := (mkF m 278 #[.val (.int x1), .val (.int x2), .val (.int x3), .val (.int o0), .val (.int o1), .val (.int o2), .val (.int o3), .val (.ref b1), .val (.ref b2), .val (.ref b4), .val (.int off), .val (.int ln), .val (.int en), .val (.int r4), .val (.int (own_R off (off + ln) o0 o1 o2 o3))] [(.int r4), (.int off), (.int 0), (.int o0), (.ref b1), (.int (own_tx (0 : Int32) off (own_R off (off + ln) o0 o1 o2 o3) o0 (cloneOf cl_98)))])) (fun t k => XS.iload X13.here hx rfl (hb hby at_276) rfl k) ?_
                  obtain ⟨_, _, ⟨T15, L15, k15, n15⟩, -, X15, ⟨Lc15, hQ15, l15, y15, z15⟩, st15⟩ := Jvm.LawKit.callS X13 hx (y := (⟨"com/example/cipherloom/cipherloom/core/AsciiTableTransformPinLaw", "expect", "([BBIII)B"⟩ : MethodName)) hown (mvT hZ (hw _ (own_m 38 rfl))) (mvT hZ (hw _ (own_m 39 rfl))) (mvT hZ (hw _ (own_m 40 rfl))) (mvT hZ (hw _ (own_m 41 rfl))) (by decide) (backOf (W := 1) (rm7 l Z a0 hw [] b1 o0 (0 : Int32) off r4 cl_98 T13.heap n0 Zle A_b1 (hB) (hby0) ((hpo).1)) hZ (hw _ (own_m 41 rfl)) (hw _ (own_m 40 rfl)) (by decide) (by decide)) (g := (mkF m 278 #[.val (.int x1), .val (.int x2), .val (.int x3), .val (.int o0), .val (.int o1), .val (.int o2), .val (.int o3), .val (.ref b1), .val (.ref b2), .val (.ref b4), .val (.int off), .val (.int ln), .val (.int en), .val (.int r4), .val (.int (own_R off (off + ln) o0 o1 o2 o3))] [(.int r4), (.int off), (.int 0), (.int o0), (.ref b1), (.int (own_tx (0 : Int32) off (own_R off (off + ln) o0 o1 o2 o3) o0 (cloneOf cl_98)))])) rfl (by rw [hml]; rfl) (argsL := [(.ref b1), (.int o0), (.int 0), (.int off), (.int r4)]) (rest := [(.int (own_tx (0 : Int32) off (own_R off (off + ln) o0 o1 o2 o3) o0 (cloneOf cl_98)))]) (lenOf pd_7 rfl) rfl (own_le rfl) (hb hby at_278) (fun _ _ => ⟨rfl, rfl, (by decide : 4 + 0 ≤ _), (by decide : 261 + 0 ≤ _)⟩)
                  dsimp only [Pt.U, Pt.locs, Pt.cells, Pt.slots] at X15 l15 y15 z15 st15 hQ15
                  subst l15 y15 z15
                  obtain ⟨rfl, Nq15, e15⟩ := hQ15
                  have N_ := Fr.app N_ Nq15
                  refine own_by (T' := T15) (g' := (mkF m 281 #[.val (.int x1), .val (.int x2), .val (.int x3), .val (.int o0), .val (.int o1), .val (.int o2), .val (.int o3), .val (.ref b1), .val (.ref b2), .val (.ref b4), .val (.int off), .val (.int ln), .val (.int en), .val (.int r4), .val (.int (own_R off (off + ln) o0 o1 o2 o3))] [(.int (own_xp (0 : Int32) off r4 o0 cl_98)), (.int (own_tx (0 : Int32) off (own_R off (off + ln) o0 o1 o2 o3) o0 (cloneOf cl_98)))])) (fun t k => st15 _ k) ?_
                  refine own_by (T' := T15) (g' := (mkF m 284 #[.val (.int x1), .val (.int x2), .val (.int x3), .val (.int o0), .val (.int o1), .val (.int o2), .val (.int o3), .val (.ref b1), .val (.ref b2), .val (.ref b4), .val (.int off), .val (.int ln), .val (.int en), .val (.int r4), .val (.int (own_R off (off + ln) o0 o1 o2 o3))] [])) (fun t k => XS.icmpNo X15.here hx rfl (hb hby at_281) rfl (teq (by rw [hR, own_txp hnb0]; exact own_xpc)).2 k) ?_
                  refine own_by (T' := T15) (g' := (mkF m 286 #[.val (.int x1), .val (.int x2), .val (.int x3), .val (.int o0), .val (.int o1), .val (.int o2), .val (.int o3), .val (.ref b1), .val (.ref b2), .val (.ref b4), .val (.int off), .val (.int ln), .val (.int en), .val (.int r4), .val (.int (own_R off (off + ln) o0 o1 o2 o3))] [(.ref b4)])) (fun t k => XS.aload X15.here hx rfl (hb hby at_284) rfl rfl k) ?_
                  refine own_by (T' := T15) (g' := (mkF m 287 #[.val (.int x1), .val (.int x2), .val (.int x3), .val (.int o0), .val (.int o1), .val (.int o2), .val (.int o3), .val (.ref b1), .val (.ref b2), .val (.ref b4), .val (.int off), .val (.int ln), .val (.int en), .val (.int r4), .val (.int (own_R off (off + ln) o0 o1 o2 o3))] [(.int 1), (.ref b4)])) (fun t k => XS.iconst X15.here hx rfl (hb hby at_286) k) ?_
                  obtain ⟨cl16, Ar16, q16, S16, N16, Hs16, G16⟩ := id c13_1
                  have hin16 : ¬ ((1 : Int32) < 0 ∨ cl16.slots.size ≤ ((1 : Int32)).toNatClampNeg) := inb_of S16 ⟨by decide, by decide⟩
                  have hat16 : cl16.slots[((1 : Int32)).toNatClampNeg]? = some (.int (own_tx (1 : Int32) off (own_R off (off + ln) o0 o1 o2 o3) o1 (cloneOf cl_98))) := Hs16.at hin16 rfl
                  refine own_by (T' := T15) (g' := (mkF m 288 #[.val (.int x1), .val (.int x2), .val (.int x3), .val (.int o0), .val (.int o1), .val (.int o2), .val (.int o3), .val (.ref b1), .val (.ref b2), .val (.ref b4), .val (.int off), .val (.int ln), .val (.int en), .val (.int r4), .val (.int (own_R off (off + ln) o0 o1 o2 o3))] [(.int (own_tx (1 : Int32) off (own_R off (off + ln) o0 o1 o2 o3) o1 (cloneOf cl_98)))])) (fun t k => X15.baloadBytes hx (j := (1 : Int32)) (v := (.int (own_tx (1 : Int32) off (own_R off (off + ln) o0 o1 o2 o3) o1 (cloneOf cl_98)))) (by rw [e15]; exact Ar16.1) (State.isArrayOf_alike hZ.alike Ar16.2.1) Ar16.2.2 hin16 hat16 (g := (mkF m 287 #[.val (.int x1), .val (.int x2), .val (.int x3), .val (.int o0), .val (.int o1), .val (.int o2), .val (.int o3), .val (.ref b1), .val (.ref b2), .val (.ref b4), .val (.int off), .val (.int ln), .val (.int en), .val (.int r4), .val (.int (own_R off (off + ln) o0 o1 o2 o3))] [(.int 1), (.ref b4)])) rfl rfl (hb hby at_287) _ k) ?_
                  refine own_by (T' := T15) (g' := (mkF m 290 #[.val (.int x1), .val (.int x2), .val (.int x3), .val (.int o0), .val (.int o1), .val (.int o2), .val (.int o3), .val (.ref b1), .val (.ref b2), .val (.ref b4), .val (.int off), .val (.int ln), .val (.int en), .val (.int r4), .val (.int (own_R off (off + ln) o0 o1 o2 o3))] [(.ref b1), (.int (own_tx (1 : Int32) off (own_R off (off + ln) o0 o1 o2 o3) o1 (cloneOf cl_98)))])) (fun t k => XS.aload X15.here hx rfl (hb hby at_288) rfl rfl k) ?_
                  refine own_by (T' := T15) (g' := (mkF m 292 #[.val (.int x1), .val (.int x2), .val (.int x3), .val (.int o0), .val (.int o1), .val (.int o2), .val (.int o3), .val (.ref b1), .val (.ref b2), .val (.ref b4), .val (.int off), .val (.int ln), .val (.int en), .val (.int r4), .val (.int (own_R off (off + ln) o0 o1 o2 o3))] [(.int o1), (.ref b1), (.int (own_tx (1 : Int32) off (own_R off (off + ln) o0 o1 o2 o3) o1 (cloneOf cl_98)))])) (fun t k => XS.iload X15.here hx rfl (hb hby at_290) rfl k) ?_
                  refine own_by (T' := T15) (g' := (mkF m 293 #[.val (.int x1), .val (.int x2), .val (.int x3), .val (.int o0), .val (.int o1), .val (.int o2), .val (.int o3), .val (.ref b1), .val (.ref b2), .val (.ref b4), .val (.int off), .val (.int ln), .val (.int en), .val (.int r4), .val (.int (own_R off (off + ln) o0 o1 o2 o3))] [(.int 1), (.int o1), (.ref b1), (.int (own_tx (1 : Int32) off (own_R off (off + ln) o0 o1 o2 o3) o1 (cloneOf cl_98)))])) (fun t k => XS.iconst X15.here hx rfl (hb hby at_292) k) ?_
                  refine own_by (T' := T15) (g' := (mkF m 295 #[.val (.int x1), .val (.int x2), .val (.int x3), .val (.int o0), .val (.int o1), .val (.int o2), .val (.int o3), .val (.ref b1), .val (.ref b2), .val (.ref b4), .val (.int off), .val (.int ln), .val (.int en), .val (.int r4), .val (.int (own_R off (off + ln) o0 o1 o2 o3))] [(.int off), (.int 1), (.int o1), (.ref b1), (.int (own_tx (1 : Int32) off (own_R off (off + ln) o0 o1 o2 o3) o1 (cloneOf cl_98)))])) (fun t k => XS.iload X15.here hx rfl (hb hby at_293) rfl k) ?_
                  refine own_by (T' := T15) (g' := (mkF m 297 #[.val (.int x1), .val (.int x2), .val (.int x3), .val (.int o0), .val (.int o1), .val (.int o2), .val (.int o3), .val (.ref b1), .val (.ref b2), .val (.ref b4), .val (.int off), .val (.int ln), .val (.int en), .val (.int r4), .val (.int (own_R off (off + ln) o0 o1 o2 o3))] [(.int r4), (.int off), (.int 1), (.int o1), (.ref b1), (.int (own_tx (1 : Int32) off (own_R off (off + ln) o0 o1 o2 o3) o1 (cloneOf cl_98)))])) (fun t k => XS.iload X15.here hx rfl (hb hby at_295) rfl k) ?_
                  obtain ⟨_, _, ⟨T17, L17, k17, n17⟩, -, X17, ⟨Lc17, hQ17, l17, y17, z17⟩, st17⟩ := Jvm.LawKit.callS X15 hx (y := (⟨"com/example/cipherloom/cipherloom/core/AsciiTableTransformPinLaw", "expect", "([BBIII)B"⟩ : MethodName)) hown (mvT hZ (hw _ (own_m 38 rfl))) (mvT hZ (hw _ (own_m 39 rfl))) (mvT hZ (hw _ (own_m 40 rfl))) (mvT hZ (hw _ (own_m 41 rfl))) (by decide) (backOf (W := 1) (rm7 l Z a0 hw [] b1 o1 (1 : Int32) off r4 cl_98 T13.heap n0 Zle A_b1 (hB) (hby1) ((hpo).2.1)) hZ (hw _ (own_m 41 rfl)) (hw _ (own_m 40 rfl)) (by decide) (by decide)) (g := (mkF m 297 #[.val (.int x1), .val (.int x2), .val (.int x3), .val (.int o0), .val (.int o1), .val (.int o2), .val (.int o3), .val (.ref b1), .val (.ref b2), .val (.ref b4), .val (.int off), .val (.int ln), .val (.int en), .val (.int r4), .val (.int (own_R off (off + ln) o0 o1 o2 o3))] [(.int r4), (.int off), (.int 1), (.int o1), (.ref b1), (.int (own_tx (1 : Int32) off (own_R off (off + ln) o0 o1 o2 o3) o1 (cloneOf cl_98)))])) rfl (by rw [hml]; rfl) (argsL := [(.ref b1), (.int o1), (.int 1), (.int off), (.int r4)]) (rest := [(.int (own_tx (1 : Int32) off (own_R off (off + ln) o0 o1 o2 o3) o1 (cloneOf cl_98)))]) (lenOf pd_7 rfl) rfl (own_le rfl) (hb hby at_297) (fun _ _ => ⟨rfl, e15, (by decide : 4 + 0 ≤ _), (by decide : 261 + 0 ≤ _)⟩)
                  dsimp only [Pt.U, Pt.locs, Pt.cells, Pt.slots] at X17 l17 y17 z17 st17 hQ17
                  subst l17 y17 z17
                  obtain ⟨rfl, Nq17, e17⟩ := hQ17
                  have N_ := Fr.app N_ Nq17
                  refine own_by (T' := T17) (g' := (mkF m 300 #[.val (.int x1), .val (.int x2), .val (.int x3), .val (.int o0), .val (.int o1), .val (.int o2), .val (.int o3), .val (.ref b1), .val (.ref b2), .val (.ref b4), .val (.int off), .val (.int ln), .val (.int en), .val (.int r4), .val (.int (own_R off (off + ln) o0 o1 o2 o3))] [(.int (own_xp (1 : Int32) off r4 o1 cl_98)), (.int (own_tx (1 : Int32) off (own_R off (off + ln) o0 o1 o2 o3) o1 (cloneOf cl_98)))])) (fun t k => st17 _ k) ?_
                  refine own_by (T' := T17) (g' := (mkF m 303 #[.val (.int x1), .val (.int x2), .val (.int x3), .val (.int o0), .val (.int o1), .val (.int o2), .val (.int o3), .val (.ref b1), .val (.ref b2), .val (.ref b4), .val (.int off), .val (.int ln), .val (.int en), .val (.int r4), .val (.int (own_R off (off + ln) o0 o1 o2 o3))] [])) (fun t k => XS.icmpNo X17.here hx rfl (hb hby at_300) rfl (teq (by rw [hR, own_txp hnb1]; exact own_xpc)).2 k) ?_
                  refine own_by (T' := T17) (g' := (mkF m 305 #[.val (.int x1), .val (.int x2), .val (.int x3), .val (.int o0), .val (.int o1), .val (.int o2), .val (.int o3), .val (.ref b1), .val (.ref b2), .val (.ref b4), .val (.int off), .val (.int ln), .val (.int en), .val (.int r4), .val (.int (own_R off (off + ln) o0 o1 o2 o3))] [(.ref b4)])) (fun t k => XS.aload X17.here hx rfl (hb hby at_303) rfl rfl k) ?_
                  refine own_by (T' := T17) (g' := (mkF m 306 #[.val (.int x1), .val (.int x2), .val (.int x3), .val (.int o0), .val (.int o1), .val (.int o2), .val (.int o3), .val (.ref b1), .val (.ref b2), .val (.ref b4), .val (.int off), .val (.int ln), .val (.int en), .val (.int r4), .val (.int (own_R off (off + ln) o0 o1 o2 o3))] [(.int 2), (.ref b4)])) (fun t k => XS.iconst X17.here hx rfl (hb hby at_305) k) ?_
                  obtain ⟨cl18, Ar18, q18, S18, N18, Hs18, G18⟩ := id c13_1
                  have hin18 : ¬ ((2 : Int32) < 0 ∨ cl18.slots.size ≤ ((2 : Int32)).toNatClampNeg) := inb_of S18 ⟨by decide, by decide⟩
                  have hat18 : cl18.slots[((2 : Int32)).toNatClampNeg]? = some (.int (own_tx (2 : Int32) off (own_R off (off + ln) o0 o1 o2 o3) o2 (cloneOf cl_98))) := Hs18.at hin18 rfl
                  refine own_by (T' := T17) (g' := (mkF m 307 #[.val (.int x1), .val (.int x2), .val (.int x3), .val (.int o0), .val (.int o1), .val (.int o2), .val (.int o3), .val (.ref b1), .val (.ref b2), .val (.ref b4), .val (.int off), .val (.int ln), .val (.int en), .val (.int r4), .val (.int (own_R off (off + ln) o0 o1 o2 o3))] [(.int (own_tx (2 : Int32) off (own_R off (off + ln) o0 o1 o2 o3) o2 (cloneOf cl_98)))])) (fun t k => X17.baloadBytes hx (j := (2 : Int32)) (v := (.int (own_tx (2 : Int32) off (own_R off (off + ln) o0 o1 o2 o3) o2 (cloneOf cl_98)))) (by rw [e17]; exact Ar18.1) (State.isArrayOf_alike hZ.alike Ar18.2.1) Ar18.2.2 hin18 hat18 (g := (mkF m 306 #[.val (.int x1), .val (.int x2), .val (.int x3), .val (.int o0), .val (.int o1), .val (.int o2), .val (.int o3), .val (.ref b1), .val (.ref b2), .val (.ref b4), .val (.int off), .val (.int ln), .val (.int en), .val (.int r4), .val (.int (own_R off (off + ln) o0 o1 o2 o3))] [(.int 2), (.ref b4)])) rfl rfl (hb hby at_306) _ k) ?_
                  refine own_by (T' := T17) (g' := (mkF m 309 #[.val (.int x1), .val (.int x2), .val (.int x3), .val (.int o0), .val (.int o1), .val (.int o2), .val (.int o3), .val (.ref b1), .val (.ref b2), .val (.ref b4), .val (.int off), .val (.int ln), .val (.int en), .val (.int r4), .val (.int (own_R off (off + ln) o0 o1 o2 o3))] [(.ref b1), (.int (own_tx (2 : Int32) off (own_R off (off + ln) o0 o1 o2 o3) o2 (cloneOf cl_98)))])) (fun t k => XS.aload X17.here hx rfl (hb hby at_307) rfl rfl k) ?_
                  refine own_by (T' := T17) (g' := (mkF m 311 #[.val (.int x1), .val (.int x2), .val (.int x3), .val (.int o0), .val (.int o1), .val (.int o2), .val (.int o3), .val (.ref b1), .val (.ref b2), .val (.ref b4), .val (.int off), .val (.int ln), .val (.int en), .val (.int r4), .val (.int (own_R off (off + ln) o0 o1 o2 o3))] [(.int o2), (.ref b1), (.int (own_tx (2 : Int32) off (own_R off (off + ln) o0 o1 o2 o3) o2 (cloneOf cl_98)))])) (fun t k => XS.iload X17.here hx rfl (hb hby at_309) rfl k) ?_
                  refine own_by (T' := T17) (g' := (mkF m 312 #[.val (.int x1), .val (.int x2), .val (.int x3), .val (.int o0), .val (.int o1), .val (.int o2), .val (.int o3), .val (.ref b1), .val (.ref b2), .val (.ref b4), .val (.int off), .val (.int ln), .val (.int en), .val (.int r4), .val (.int (own_R off (off + ln) o0 o1 o2 o3))] [(.int 2), (.int o2), (.ref b1), (.int (own_tx (2 : Int32) off (own_R off (off + ln) o0 o1 o2 o3) o2 (cloneOf cl_98)))])) (fun t k => XS.iconst X17.here hx rfl (hb hby at_311) k) ?_
                  refine own_by (T' := T17) (g' := (mkF m 314 #[.val (.int x1), .val (.int x2), .val (.int x3), .val (.int o0), .val (.int o1), .val (.int o2), .val (.int o3), .val (.ref b1), .val (.ref b2), .val (.ref b4), .val (.int off), .val (.int ln), .val (.int en), .val (.int r4), .val (.int (own_R off (off + ln) o0 o1 o2 o3))] [(.int off), (.int 2), (.int o2), (.ref b1), (.int (own_tx (2 : Int32) off (own_R off (off + ln) o0 o1 o2 o3) o2 (cloneOf cl_98)))])) (fun t k => XS.iload X17.here hx rfl (hb hby at_312) rfl k) ?_
                  refine own_by (T' := T17) (g' := (mkF m 316 #[.val (.int x1), .val (.int x2), .val (.int x3), .val (.int o0), .val (.int o1), .val (.int o2), .val (.int o3), .val (.ref b1), .val (.ref b2), .val (.ref b4), .val (.int off), .val (.int ln), .val (.int en), .val (.int r4), .val (.int (own_R off (off + ln) o0 o1 o2 o3))] [(.int r4), (.int off), (.int 2), (.int o2), (.ref b1), (.int (own_tx (2 : Int32) off (own_R off (off + ln) o0 o1 o2 o3) o2 (cloneOf cl_98)))])) (fun t k => XS.iload X17.here hx rfl (hb hby at_314) rfl k) ?_
                  obtain ⟨_, _, ⟨T19, L19, k19, n19⟩, -, X19, ⟨Lc19, hQ19, l19, y19, z19⟩, st19⟩ := Jvm.LawKit.callS X17 hx (y := (⟨"com/example/cipherloom/cipherloom/core/AsciiTableTransformPinLaw", "expect", "([BBIII)B"⟩ : MethodName)) hown (mvT hZ (hw _ (own_m 38 rfl))) (mvT hZ (hw _ (own_m 39 rfl))) (mvT hZ (hw _ (own_m 40 rfl))) (mvT hZ (hw _ (own_m 41 rfl))) (by decide) (backOf (W := 1) (rm7 l Z a0 hw [] b1 o2 (2 : Int32) off r4 cl_98 T13.heap n0 Zle A_b1 (hB) (hby2) ((hpo).2.2.1)) hZ (hw _ (own_m 41 rfl)) (hw _ (own_m 40 rfl)) (by decide) (by decide)) (g := (mkF m 316 #[.val (.int x1), .val (.int x2), .val (.int x3), .val (.int o0), .val (.int o1), .val (.int o2), .val (.int o3), .val (.ref b1), .val (.ref b2), .val (.ref b4), .val (.int off), .val (.int ln), .val (.int en), .val (.int r4), .val (.int (own_R off (off + ln) o0 o1 o2 o3))] [(.int r4), (.int off), (.int 2), (.int o2), (.ref b1), (.int (own_tx (2 : Int32) off (own_R off (off + ln) o0 o1 o2 o3) o2 (cloneOf cl_98)))])) rfl (by rw [hml]; rfl) (argsL := [(.ref b1), (.int o2), (.int 2), (.int off), (.int r4)]) (rest := [(.int (own_tx (2 : Int32) off (own_R off (off + ln) o0 o1 o2 o3) o2 (cloneOf cl_98)))]) (lenOf pd_7 rfl) rfl (own_le rfl) (hb hby at_316) (fun _ _ => ⟨rfl, e17, (by decide : 4 + 0 ≤ _), (by decide : 261 + 0 ≤ _)⟩)
                  dsimp only [Pt.U, Pt.locs, Pt.cells, Pt.slots] at X19 l19 y19 z19 st19 hQ19
                  subst l19 y19 z19
                  obtain ⟨rfl, Nq19, e19⟩ := hQ19
                  have N_ := Fr.app N_ Nq19
                  refine own_by (T' := T19) (g' := (mkF m 319 #[.val (.int x1), .val (.int x2), .val (.int x3), .val (.int o0), .val (.int o1), .val (.int o2), .val (.int o3), .val (.ref b1), .val (.ref b2), .val (.ref b4), .val (.int off), .val (.int ln), .val (.int en), .val (.int r4), .val (.int (own_R off (off + ln) o0 o1 o2 o3))] [(.int (own_xp (2 : Int32) off r4 o2 cl_98)), (.int (own_tx (2 : Int32) off (own_R off (off + ln) o0 o1 o2 o3) o2 (cloneOf cl_98)))])) (fun t k => st19 _ k) ?_
                  refine own_by (T' := T19) (g' := (mkF m 322 #[.val (.int x1), .val (.int x2), .val (.int x3), .val (.int o0), .val (.int o1), .val (.int o2), .val (.int o3), .val (.ref b1), .val (.ref b2), .val (.ref b4), .val (.int off), .val (.int ln), .val (.int en), .val (.int r4), .val (.int (own_R off (off + ln) o0 o1 o2 o3))] [])) (fun t k => XS.icmpNo X19.here hx rfl (hb hby at_319) rfl (teq (by rw [hR, own_txp hnb2]; exact own_xpc)).2 k) ?_
                  refine own_by (T' := T19) (g' := (mkF m 324 #[.val (.int x1), .val (.int x2), .val (.int x3), .val (.int o0), .val (.int o1), .val (.int o2), .val (.int o3), .val (.ref b1), .val (.ref b2), .val (.ref b4), .val (.int off), .val (.int ln), .val (.int en), .val (.int r4), .val (.int (own_R off (off + ln) o0 o1 o2 o3))] [(.ref b4)])) (fun t k => XS.aload X19.here hx rfl (hb hby at_322) rfl rfl k) ?_
                  refine own_by (T' := T19) (g' := (mkF m 325 #[.val (.int x1), .val (.int x2), .val (.int x3), .val (.int o0), .val (.int o1), .val (.int o2), .val (.int o3), .val (.ref b1), .val (.ref b2), .val (.ref b4), .val (.int off), .val (.int ln), .val (.int en), .val (.int r4), .val (.int (own_R off (off + ln) o0 o1 o2 o3))] [(.int 3), (.ref b4)])) (fun t k => XS.iconst X19.here hx rfl (hb hby at_324) k) ?_
                  obtain ⟨cl20, Ar20, q20, S20, N20, Hs20, G20⟩ := id c13_1
                  have hin20 : ¬ ((3 : Int32) < 0 ∨ cl20.slots.size ≤ ((3 : Int32)).toNatClampNeg) := inb_of S20 ⟨by decide, by decide⟩
                  have hat20 : cl20.slots[((3 : Int32)).toNatClampNeg]? = some (.int (own_tx (3 : Int32) off (own_R off (off + ln) o0 o1 o2 o3) o3 (cloneOf cl_98))) := Hs20.at hin20 rfl
                  refine own_by (T' := T19) (g' := (mkF m 326 #[.val (.int x1), .val (.int x2), .val (.int x3), .val (.int o0), .val (.int o1), .val (.int o2), .val (.int o3), .val (.ref b1), .val (.ref b2), .val (.ref b4), .val (.int off), .val (.int ln), .val (.int en), .val (.int r4), .val (.int (own_R off (off + ln) o0 o1 o2 o3))] [(.int (own_tx (3 : Int32) off (own_R off (off + ln) o0 o1 o2 o3) o3 (cloneOf cl_98)))])) (fun t k => X19.baloadBytes hx (j := (3 : Int32)) (v := (.int (own_tx (3 : Int32) off (own_R off (off + ln) o0 o1 o2 o3) o3 (cloneOf cl_98)))) (by rw [e19]; exact Ar20.1) (State.isArrayOf_alike hZ.alike Ar20.2.1) Ar20.2.2 hin20 hat20 (g := (mkF m 325 #[.val (.int x1), .val (.int x2), .val (.int x3), .val (.int o0), .val (.int o1), .val (.int o2), .val (.int o3), .val (.ref b1), .val (.ref b2), .val (.ref b4), .val (.int off), .val (.int ln), .val (.int en), .val (.int r4), .val (.int (own_R off (off + ln) o0 o1 o2 o3))] [(.int 3), (.ref b4)])) rfl rfl (hb hby at_325) _ k) ?_
                  refine own_by (T' := T19) (g' := (mkF m 328 #[.val (.int x1), .val (.int x2), .val (.int x3), .val (.int o0), .val (.int o1), .val (.int o2), .val (.int o3), .val (.ref b1), .val (.ref b2), .val (.ref b4), .val (.int off), .val (.int ln), .val (.int en), .val (.int r4), .val (.int (own_R off (off + ln) o0 o1 o2 o3))] [(.ref b1), (.int (own_tx (3 : Int32) off (own_R off (off + ln) o0 o1 o2 o3) o3 (cloneOf cl_98)))])) (fun t k => XS.aload X19.here hx rfl (hb hby at_326) rfl rfl k) ?_
                  refine own_by (T' := T19) (g' := (mkF m 330 #[.val (.int x1), .val (.int x2), .val (.int x3), .val (.int o0), .val (.int o1), .val (.int o2), .val (.int o3), .val (.ref b1), .val (.ref b2), .val (.ref b4), .val (.int off), .val (.int ln), .val (.int en), .val (.int r4), .val (.int (own_R off (off + ln) o0 o1 o2 o3))] [(.int o3), (.ref b1), (.int (own_tx (3 : Int32) off (own_R off (off + ln) o0 o1 o2 o3) o3 (cloneOf cl_98)))])) (fun t k => XS.iload X19.here hx rfl (hb hby at_328) rfl k) ?_
                  refine own_by (T' := T19) (g' := (mkF m 331 #[.val (.int x1), .val (.int x2), .val (.int x3), .val (.int o0), .val (.int o1), .val (.int o2), .val (.int o3), .val (.ref b1), .val (.ref b2), .val (.ref b4), .val (.int off), .val (.int ln), .val (.int en), .val (.int r4), .val (.int (own_R off (off + ln) o0 o1 o2 o3))] [(.int 3), (.int o3), (.ref b1), (.int (own_tx (3 : Int32) off (own_R off (off + ln) o0 o1 o2 o3) o3 (cloneOf cl_98)))])) (fun t k => XS.iconst X19.here hx rfl (hb hby at_330) k) ?_
                  refine own_by (T' := T19) (g' := (mkF m 333 #[.val (.int x1), .val (.int x2), .val (.int x3), .val (.int o0), .val (.int o1), .val (.int o2), .val (.int o3), .val (.ref b1), .val (.ref b2), .val (.ref b4), .val (.int off), .val (.int ln), .val (.int en), .val (.int r4), .val (.int (own_R off (off + ln) o0 o1 o2 o3))] [(.int off), (.int 3), (.int o3), (.ref b1), (.int (own_tx (3 : Int32) off (own_R off (off + ln) o0 o1 o2 o3) o3 (cloneOf cl_98)))])) (fun t k => XS.iload X19.here hx rfl (hb hby at_331) rfl k) ?_
                  refine own_by (T' := T19) (g' := (mkF m 335 #[.val (.int x1), .val (.int x2), .val (.int x3), .val (.int o0), .val (.int o1), .val (.int o2), .val (.int o3), .val (.ref b1), .val (.ref b2), .val (.ref b4), .val (.int off), .val (.int ln), .val (.int en), .val (.int r4), .val (.int (own_R off (off + ln) o0 o1 o2 o3))] [(.int r4), (.int off), (.int 3), (.int o3), (.ref b1), (.int (own_tx (3 : Int32) off (own_R off (off + ln) o0 o1 o2 o3) o3 (cloneOf cl_98)))])) (fun t k => XS.iload X19.here hx rfl (hb hby at_333) rfl k) ?_
                  obtain ⟨_, _, ⟨T21, L21, k21, n21⟩, -, X21, ⟨Lc21, hQ21, l21, y21, z21⟩, st21⟩ := Jvm.LawKit.callS X19 hx (y := (⟨"com/example/cipherloom/cipherloom/core/AsciiTableTransformPinLaw", "expect", "([BBIII)B"⟩ : MethodName)) hown (mvT hZ (hw _ (own_m 38 rfl))) (mvT hZ (hw _ (own_m 39 rfl))) (mvT hZ (hw _ (own_m 40 rfl))) (mvT hZ (hw _ (own_m 41 rfl))) (by decide) (backOf (W := 1) (rm7 l Z a0 hw [] b1 o3 (3 : Int32) off r4 cl_98 T13.heap n0 Zle A_b1 (hB) (hby3) ((hpo).2.2.2)) hZ (hw _ (own_m 41 rfl)) (hw _ (own_m 40 rfl)) (by decide) (by decide)) (g := (mkF m 335 #[.val (.int x1), .val (.int x2), .val (.int x3), .val (.int o0), .val (.int o1), .val (.int o2), .val (.int o3), .val (.ref b1), .val (.ref b2), .val (.ref b4), .val (.int off), .val (.int ln), .val (.int en), .val (.int r4), .val (.int (own_R off (off + ln) o0 o1 o2 o3))] [(.int r4), (.int off), (.int 3), (.int o3), (.ref b1), (.int (own_tx (3 : Int32) off (own_R off (off + ln) o0 o1 o2 o3) o3 (cloneOf cl_98)))])) rfl (by rw [hml]; rfl) (argsL := [(.ref b1), (.int o3), (.int 3), (.int off), (.int r4)]) (rest := [(.int (own_tx (3 : Int32) off (own_R off (off + ln) o0 o1 o2 o3) o3 (cloneOf cl_98)))]) (lenOf pd_7 rfl) rfl (own_le rfl) (hb hby at_335) (fun _ _ => ⟨rfl, e19, (by decide : 4 + 0 ≤ _), (by decide : 261 + 0 ≤ _)⟩)
                  dsimp only [Pt.U, Pt.locs, Pt.cells, Pt.slots] at X21 l21 y21 z21 st21 hQ21
                  subst l21 y21 z21
                  obtain ⟨rfl, Nq21, e21⟩ := hQ21
                  have N_ := Fr.app N_ Nq21
                  refine own_by (T' := T21) (g' := (mkF m 338 #[.val (.int x1), .val (.int x2), .val (.int x3), .val (.int o0), .val (.int o1), .val (.int o2), .val (.int o3), .val (.ref b1), .val (.ref b2), .val (.ref b4), .val (.int off), .val (.int ln), .val (.int en), .val (.int r4), .val (.int (own_R off (off + ln) o0 o1 o2 o3))] [(.int (own_xp (3 : Int32) off r4 o3 cl_98)), (.int (own_tx (3 : Int32) off (own_R off (off + ln) o0 o1 o2 o3) o3 (cloneOf cl_98)))])) (fun t k => st21 _ k) ?_
                  refine own_by (T' := T21) (g' := (mkF m 341 #[.val (.int x1), .val (.int x2), .val (.int x3), .val (.int o0), .val (.int o1), .val (.int o2), .val (.int o3), .val (.ref b1), .val (.ref b2), .val (.ref b4), .val (.int off), .val (.int ln), .val (.int en), .val (.int r4), .val (.int (own_R off (off + ln) o0 o1 o2 o3))] [])) (fun t k => XS.icmpNo X21.here hx rfl (hb hby at_338) rfl (teq (by rw [hR, own_txp hnb3]; exact own_xpc)).2 k) ?_
                  refine own_by (T' := T21) (g' := (mkF m 342 #[.val (.int x1), .val (.int x2), .val (.int x3), .val (.int o0), .val (.int o1), .val (.int o2), .val (.int o3), .val (.ref b1), .val (.ref b2), .val (.ref b4), .val (.int off), .val (.int ln), .val (.int en), .val (.int r4), .val (.int (own_R off (off + ln) o0 o1 o2 o3))] [(.int 1)])) (fun t k => XS.iconst X21.here hx rfl (hb hby at_341) k) ?_
                  refine own_by (T' := T21) (g' := (mkF m 346 #[.val (.int x1), .val (.int x2), .val (.int x3), .val (.int o0), .val (.int o1), .val (.int o2), .val (.int o3), .val (.ref b1), .val (.ref b2), .val (.ref b4), .val (.int off), .val (.int ln), .val (.int en), .val (.int r4), .val (.int (own_R off (off + ln) o0 o1 o2 o3))] [(.int 1)])) (fun t k => XS.goto X21.here hx rfl (pc0 := 342) (pc' := 346) rfl (hb hby at_342) (by decide) (by decide) k) ?_
                  exact own_retN X21 hx (t := .boolean) Bd.notSynchronized Bd.returns (by simp) (hb hby at_346) (by decide) (by decide) (by rw [e21]; exact ⟨rfl, N_⟩)
                refine own_by (T' := T8) (g' := (mkF m 228 #[.val (.int x1), .val (.int x2), .val (.int x3), .val (.int o0), .val (.int o1), .val (.int o2), .val (.int o3), .val (.ref b1), .val (.ref b2), .val (.ref b4), .val (.int off), .val (.int ln), .val (.int en), .val (.int r3), .unset] [(.int 0)])) (fun t k => XS.iconst X8.here hx rfl (hb hby at_227) k) ?_
                refine own_by (T' := T8) (g' := (mkF m 230 #[.val (.int x1), .val (.int x2), .val (.int x3), .val (.int o0), .val (.int o1), .val (.int o2), .val (.int o3), .val (.ref b1), .val (.ref b2), .val (.ref b4), .val (.int off), .val (.int ln), .val (.int en), .val (.int r3), .unset] [(.int off), (.int 0)])) (fun t k => XS.iload X8.here hx rfl (hb hby at_228) rfl k) ?_
                by_cases hc230_22 : (0 : Int32) < off
                · refine own_by (T' := T8) (g' := (mkF m 246 #[.val (.int x1), .val (.int x2), .val (.int x3), .val (.int o0), .val (.int o1), .val (.int o2), .val (.int o3), .val (.ref b1), .val (.ref b2), .val (.ref b4), .val (.int off), .val (.int ln), .val (.int en), .val (.int r3), .unset] [])) (fun t k => XS.icmpYes X8.here hx rfl (pc0 := 230) (pc' := 246) rfl (hb hby at_230) rfl (tlt hc230_22).1 (by decide) (by decide) k) ?_
                  exact J246_12 _ (by unfold own_rs; rw [if_pos hc230_22])
                · refine own_by (T' := T8) (g' := (mkF m 233 #[.val (.int x1), .val (.int x2), .val (.int x3), .val (.int o0), .val (.int o1), .val (.int o2), .val (.int o3), .val (.ref b1), .val (.ref b2), .val (.ref b4), .val (.int off), .val (.int ln), .val (.int en), .val (.int r3), .unset] [])) (fun t k => XS.icmpNo X8.here hx rfl (hb hby at_230) rfl (flt hc230_22).1 k) ?_
                  refine own_by (T' := T8) (g' := (mkF m 234 #[.val (.int x1), .val (.int x2), .val (.int x3), .val (.int o0), .val (.int o1), .val (.int o2), .val (.int o3), .val (.ref b1), .val (.ref b2), .val (.ref b4), .val (.int off), .val (.int ln), .val (.int en), .val (.int r3), .unset] [(.int 0)])) (fun t k => XS.iconst X8.here hx rfl (hb hby at_233) k) ?_
                  refine own_by (T' := T8) (g' := (mkF m 236 #[.val (.int x1), .val (.int x2), .val (.int x3), .val (.int o0), .val (.int o1), .val (.int o2), .val (.int o3), .val (.ref b1), .val (.ref b2), .val (.ref b4), .val (.int off), .val (.int ln), .val (.int en), .val (.int r3), .unset] [(.int en), (.int 0)])) (fun t k => XS.iload X8.here hx rfl (hb hby at_234) rfl k) ?_
                  by_cases hc236_23 : (0 : Int32) < en
                  · refine own_by (T' := T8) (g' := (mkF m 239 #[.val (.int x1), .val (.int x2), .val (.int x3), .val (.int o0), .val (.int o1), .val (.int o2), .val (.int o3), .val (.ref b1), .val (.ref b2), .val (.ref b4), .val (.int off), .val (.int ln), .val (.int en), .val (.int r3), .unset] [])) (fun t k => XS.icmpNo X8.here hx rfl (hb hby at_236) rfl (tlt hc236_23).2.1 k) ?_
                    refine own_by (T' := T8) (g' := (mkF m 240 #[.val (.int x1), .val (.int x2), .val (.int x3), .val (.int o0), .val (.int o1), .val (.int o2), .val (.int o3), .val (.ref b1), .val (.ref b2), .val (.ref b4), .val (.int off), .val (.int ln), .val (.int en), .val (.int r3), .unset] [(.int o0)])) (fun t k => XS.iloadN X8.here hx rfl (hb hby at_239) rfl k) ?_
                    by_cases hc240_24 : o0 < (0 : Int32)
                    · refine own_by (T' := T8) (g' := (mkF m 243 #[.val (.int x1), .val (.int x2), .val (.int x3), .val (.int o0), .val (.int o1), .val (.int o2), .val (.int o3), .val (.ref b1), .val (.ref b2), .val (.ref b4), .val (.int off), .val (.int ln), .val (.int en), .val (.int r3), .unset] [])) (fun t k => XS.ifNo X8.here hx rfl (hb hby at_240) rfl ((if0 _ _).trans (tlt hc240_24).2.1) k) ?_
                      refine own_by (T' := T8) (g' := (mkF m 244 #[.val (.int x1), .val (.int x2), .val (.int x3), .val (.int o0), .val (.int o1), .val (.int o2), .val (.int o3), .val (.ref b1), .val (.ref b2), .val (.ref b4), .val (.int off), .val (.int ln), .val (.int en), .val (.int r3), .unset] [(.int 0)])) (fun t k => XS.iconst X8.here hx rfl (hb hby at_243) k) ?_
                      refine own_by (T' := T8) (g' := (mkF m 246 #[.val (.int x1), .val (.int x2), .val (.int x3), .val (.int o0), .val (.int o1), .val (.int o2), .val (.int o3), .val (.ref b1), .val (.ref b2), .val (.ref b4), .val (.int off), .val (.int ln), .val (.int en), .val (.int 0), .unset] [])) (fun t k => XS.istore X8.here hx rfl (hb hby at_244) rfl (l' := #[.val (.int x1), .val (.int x2), .val (.int x3), .val (.int o0), .val (.int o1), .val (.int o2), .val (.int o3), .val (.ref b1), .val (.ref b2), .val (.ref b4), .val (.int off), .val (.int ln), .val (.int en), .val (.int 0), .unset]) rfl k) ?_
                      exact J246_12 _ (by unfold own_rs; rw [if_neg hc230_22, if_pos hc236_23, if_pos hc240_24])
                    · refine own_by (T' := T8) (g' := (mkF m 246 #[.val (.int x1), .val (.int x2), .val (.int x3), .val (.int o0), .val (.int o1), .val (.int o2), .val (.int o3), .val (.ref b1), .val (.ref b2), .val (.ref b4), .val (.int off), .val (.int ln), .val (.int en), .val (.int r3), .unset] [])) (fun t k => XS.ifYes X8.here hx rfl (pc0 := 240) (pc' := 246) rfl (hb hby at_240) rfl ((if0 _ _).trans (flt hc240_24).2.1) (by decide) (by decide) k) ?_
                      exact J246_12 _ (by unfold own_rs; rw [if_neg hc230_22, if_pos hc236_23, if_neg hc240_24])
                  · refine own_by (T' := T8) (g' := (mkF m 246 #[.val (.int x1), .val (.int x2), .val (.int x3), .val (.int o0), .val (.int o1), .val (.int o2), .val (.int o3), .val (.ref b1), .val (.ref b2), .val (.ref b4), .val (.int off), .val (.int ln), .val (.int en), .val (.int r3), .unset] [])) (fun t k => XS.icmpYes X8.here hx rfl (pc0 := 236) (pc' := 246) rfl (hb hby at_236) rfl (flt hc236_23).2.1 (by decide) (by decide) k) ?_
                    exact J246_12 _ (by unfold own_rs; rw [if_neg hc230_22, if_neg hc236_23])
              refine own_by (T' := T8) (g' := (mkF m 208 #[.val (.int x1), .val (.int x2), .val (.int x3), .val (.int o0), .val (.int o1), .val (.int o2), .val (.int o3), .val (.ref b1), .val (.ref b2), .val (.ref b4), .val (.int off), .val (.int ln), .val (.int en), .val (.int r2), .unset] [(.int 1)])) (fun t k => XS.iconst X8.here hx rfl (hb hby at_207) k) ?_
              refine own_by (T' := T8) (g' := (mkF m 210 #[.val (.int x1), .val (.int x2), .val (.int x3), .val (.int o0), .val (.int o1), .val (.int o2), .val (.int o3), .val (.ref b1), .val (.ref b2), .val (.ref b4), .val (.int off), .val (.int ln), .val (.int en), .val (.int r2), .unset] [(.int off), (.int 1)])) (fun t k => XS.iload X8.here hx rfl (hb hby at_208) rfl k) ?_
              by_cases hc210_25 : (1 : Int32) < off
              · refine own_by (T' := T8) (g' := (mkF m 227 #[.val (.int x1), .val (.int x2), .val (.int x3), .val (.int o0), .val (.int o1), .val (.int o2), .val (.int o3), .val (.ref b1), .val (.ref b2), .val (.ref b4), .val (.int off), .val (.int ln), .val (.int en), .val (.int r2), .unset] [])) (fun t k => XS.icmpYes X8.here hx rfl (pc0 := 210) (pc' := 227) rfl (hb hby at_210) rfl (tlt hc210_25).1 (by decide) (by decide) k) ?_
                exact J227_11 _ (by unfold own_rs; rw [if_pos hc210_25])
              · refine own_by (T' := T8) (g' := (mkF m 213 #[.val (.int x1), .val (.int x2), .val (.int x3), .val (.int o0), .val (.int o1), .val (.int o2), .val (.int o3), .val (.ref b1), .val (.ref b2), .val (.ref b4), .val (.int off), .val (.int ln), .val (.int en), .val (.int r2), .unset] [])) (fun t k => XS.icmpNo X8.here hx rfl (hb hby at_210) rfl (flt hc210_25).1 k) ?_
                refine own_by (T' := T8) (g' := (mkF m 214 #[.val (.int x1), .val (.int x2), .val (.int x3), .val (.int o0), .val (.int o1), .val (.int o2), .val (.int o3), .val (.ref b1), .val (.ref b2), .val (.ref b4), .val (.int off), .val (.int ln), .val (.int en), .val (.int r2), .unset] [(.int 1)])) (fun t k => XS.iconst X8.here hx rfl (hb hby at_213) k) ?_
                refine own_by (T' := T8) (g' := (mkF m 216 #[.val (.int x1), .val (.int x2), .val (.int x3), .val (.int o0), .val (.int o1), .val (.int o2), .val (.int o3), .val (.ref b1), .val (.ref b2), .val (.ref b4), .val (.int off), .val (.int ln), .val (.int en), .val (.int r2), .unset] [(.int en), (.int 1)])) (fun t k => XS.iload X8.here hx rfl (hb hby at_214) rfl k) ?_
                by_cases hc216_26 : (1 : Int32) < en
                · refine own_by (T' := T8) (g' := (mkF m 219 #[.val (.int x1), .val (.int x2), .val (.int x3), .val (.int o0), .val (.int o1), .val (.int o2), .val (.int o3), .val (.ref b1), .val (.ref b2), .val (.ref b4), .val (.int off), .val (.int ln), .val (.int en), .val (.int r2), .unset] [])) (fun t k => XS.icmpNo X8.here hx rfl (hb hby at_216) rfl (tlt hc216_26).2.1 k) ?_
                  refine own_by (T' := T8) (g' := (mkF m 221 #[.val (.int x1), .val (.int x2), .val (.int x3), .val (.int o0), .val (.int o1), .val (.int o2), .val (.int o3), .val (.ref b1), .val (.ref b2), .val (.ref b4), .val (.int off), .val (.int ln), .val (.int en), .val (.int r2), .unset] [(.int o1)])) (fun t k => XS.iload X8.here hx rfl (hb hby at_219) rfl k) ?_
                  by_cases hc221_27 : o1 < (0 : Int32)
                  · refine own_by (T' := T8) (g' := (mkF m 224 #[.val (.int x1), .val (.int x2), .val (.int x3), .val (.int o0), .val (.int o1), .val (.int o2), .val (.int o3), .val (.ref b1), .val (.ref b2), .val (.ref b4), .val (.int off), .val (.int ln), .val (.int en), .val (.int r2), .unset] [])) (fun t k => XS.ifNo X8.here hx rfl (hb hby at_221) rfl ((if0 _ _).trans (tlt hc221_27).2.1) k) ?_
                    refine own_by (T' := T8) (g' := (mkF m 225 #[.val (.int x1), .val (.int x2), .val (.int x3), .val (.int o0), .val (.int o1), .val (.int o2), .val (.int o3), .val (.ref b1), .val (.ref b2), .val (.ref b4), .val (.int off), .val (.int ln), .val (.int en), .val (.int r2), .unset] [(.int 1)])) (fun t k => XS.iconst X8.here hx rfl (hb hby at_224) k) ?_
                    refine own_by (T' := T8) (g' := (mkF m 227 #[.val (.int x1), .val (.int x2), .val (.int x3), .val (.int o0), .val (.int o1), .val (.int o2), .val (.int o3), .val (.ref b1), .val (.ref b2), .val (.ref b4), .val (.int off), .val (.int ln), .val (.int en), .val (.int 1), .unset] [])) (fun t k => XS.istore X8.here hx rfl (hb hby at_225) rfl (l' := #[.val (.int x1), .val (.int x2), .val (.int x3), .val (.int o0), .val (.int o1), .val (.int o2), .val (.int o3), .val (.ref b1), .val (.ref b2), .val (.ref b4), .val (.int off), .val (.int ln), .val (.int en), .val (.int 1), .unset]) rfl k) ?_
                    exact J227_11 _ (by unfold own_rs; rw [if_neg hc210_25, if_pos hc216_26, if_pos hc221_27])
                  · refine own_by (T' := T8) (g' := (mkF m 227 #[.val (.int x1), .val (.int x2), .val (.int x3), .val (.int o0), .val (.int o1), .val (.int o2), .val (.int o3), .val (.ref b1), .val (.ref b2), .val (.ref b4), .val (.int off), .val (.int ln), .val (.int en), .val (.int r2), .unset] [])) (fun t k => XS.ifYes X8.here hx rfl (pc0 := 221) (pc' := 227) rfl (hb hby at_221) rfl ((if0 _ _).trans (flt hc221_27).2.1) (by decide) (by decide) k) ?_
                    exact J227_11 _ (by unfold own_rs; rw [if_neg hc210_25, if_pos hc216_26, if_neg hc221_27])
                · refine own_by (T' := T8) (g' := (mkF m 227 #[.val (.int x1), .val (.int x2), .val (.int x3), .val (.int o0), .val (.int o1), .val (.int o2), .val (.int o3), .val (.ref b1), .val (.ref b2), .val (.ref b4), .val (.int off), .val (.int ln), .val (.int en), .val (.int r2), .unset] [])) (fun t k => XS.icmpYes X8.here hx rfl (pc0 := 216) (pc' := 227) rfl (hb hby at_216) rfl (flt hc216_26).2.1 (by decide) (by decide) k) ?_
                  exact J227_11 _ (by unfold own_rs; rw [if_neg hc210_25, if_neg hc216_26])
            refine own_by (T' := T8) (g' := (mkF m 188 #[.val (.int x1), .val (.int x2), .val (.int x3), .val (.int o0), .val (.int o1), .val (.int o2), .val (.int o3), .val (.ref b1), .val (.ref b2), .val (.ref b4), .val (.int off), .val (.int ln), .val (.int en), .val (.int r1), .unset] [(.int 2)])) (fun t k => XS.iconst X8.here hx rfl (hb hby at_187) k) ?_
            refine own_by (T' := T8) (g' := (mkF m 190 #[.val (.int x1), .val (.int x2), .val (.int x3), .val (.int o0), .val (.int o1), .val (.int o2), .val (.int o3), .val (.ref b1), .val (.ref b2), .val (.ref b4), .val (.int off), .val (.int ln), .val (.int en), .val (.int r1), .unset] [(.int off), (.int 2)])) (fun t k => XS.iload X8.here hx rfl (hb hby at_188) rfl k) ?_
            by_cases hc190_28 : (2 : Int32) < off
            · refine own_by (T' := T8) (g' := (mkF m 207 #[.val (.int x1), .val (.int x2), .val (.int x3), .val (.int o0), .val (.int o1), .val (.int o2), .val (.int o3), .val (.ref b1), .val (.ref b2), .val (.ref b4), .val (.int off), .val (.int ln), .val (.int en), .val (.int r1), .unset] [])) (fun t k => XS.icmpYes X8.here hx rfl (pc0 := 190) (pc' := 207) rfl (hb hby at_190) rfl (tlt hc190_28).1 (by decide) (by decide) k) ?_
              exact J207_10 _ (by unfold own_rs; rw [if_pos hc190_28])
            · refine own_by (T' := T8) (g' := (mkF m 193 #[.val (.int x1), .val (.int x2), .val (.int x3), .val (.int o0), .val (.int o1), .val (.int o2), .val (.int o3), .val (.ref b1), .val (.ref b2), .val (.ref b4), .val (.int off), .val (.int ln), .val (.int en), .val (.int r1), .unset] [])) (fun t k => XS.icmpNo X8.here hx rfl (hb hby at_190) rfl (flt hc190_28).1 k) ?_
              refine own_by (T' := T8) (g' := (mkF m 194 #[.val (.int x1), .val (.int x2), .val (.int x3), .val (.int o0), .val (.int o1), .val (.int o2), .val (.int o3), .val (.ref b1), .val (.ref b2), .val (.ref b4), .val (.int off), .val (.int ln), .val (.int en), .val (.int r1), .unset] [(.int 2)])) (fun t k => XS.iconst X8.here hx rfl (hb hby at_193) k) ?_
              refine own_by (T' := T8) (g' := (mkF m 196 #[.val (.int x1), .val (.int x2), .val (.int x3), .val (.int o0), .val (.int o1), .val (.int o2), .val (.int o3), .val (.ref b1), .val (.ref b2), .val (.ref b4), .val (.int off), .val (.int ln), .val (.int en), .val (.int r1), .unset] [(.int en), (.int 2)])) (fun t k => XS.iload X8.here hx rfl (hb hby at_194) rfl k) ?_
              by_cases hc196_29 : (2 : Int32) < en
              · refine own_by (T' := T8) (g' := (mkF m 199 #[.val (.int x1), .val (.int x2), .val (.int x3), .val (.int o0), .val (.int o1), .val (.int o2), .val (.int o3), .val (.ref b1), .val (.ref b2), .val (.ref b4), .val (.int off), .val (.int ln), .val (.int en), .val (.int r1), .unset] [])) (fun t k => XS.icmpNo X8.here hx rfl (hb hby at_196) rfl (tlt hc196_29).2.1 k) ?_
                refine own_by (T' := T8) (g' := (mkF m 201 #[.val (.int x1), .val (.int x2), .val (.int x3), .val (.int o0), .val (.int o1), .val (.int o2), .val (.int o3), .val (.ref b1), .val (.ref b2), .val (.ref b4), .val (.int off), .val (.int ln), .val (.int en), .val (.int r1), .unset] [(.int o2)])) (fun t k => XS.iload X8.here hx rfl (hb hby at_199) rfl k) ?_
                by_cases hc201_30 : o2 < (0 : Int32)
                · refine own_by (T' := T8) (g' := (mkF m 204 #[.val (.int x1), .val (.int x2), .val (.int x3), .val (.int o0), .val (.int o1), .val (.int o2), .val (.int o3), .val (.ref b1), .val (.ref b2), .val (.ref b4), .val (.int off), .val (.int ln), .val (.int en), .val (.int r1), .unset] [])) (fun t k => XS.ifNo X8.here hx rfl (hb hby at_201) rfl ((if0 _ _).trans (tlt hc201_30).2.1) k) ?_
                  refine own_by (T' := T8) (g' := (mkF m 205 #[.val (.int x1), .val (.int x2), .val (.int x3), .val (.int o0), .val (.int o1), .val (.int o2), .val (.int o3), .val (.ref b1), .val (.ref b2), .val (.ref b4), .val (.int off), .val (.int ln), .val (.int en), .val (.int r1), .unset] [(.int 2)])) (fun t k => XS.iconst X8.here hx rfl (hb hby at_204) k) ?_
                  refine own_by (T' := T8) (g' := (mkF m 207 #[.val (.int x1), .val (.int x2), .val (.int x3), .val (.int o0), .val (.int o1), .val (.int o2), .val (.int o3), .val (.ref b1), .val (.ref b2), .val (.ref b4), .val (.int off), .val (.int ln), .val (.int en), .val (.int 2), .unset] [])) (fun t k => XS.istore X8.here hx rfl (hb hby at_205) rfl (l' := #[.val (.int x1), .val (.int x2), .val (.int x3), .val (.int o0), .val (.int o1), .val (.int o2), .val (.int o3), .val (.ref b1), .val (.ref b2), .val (.ref b4), .val (.int off), .val (.int ln), .val (.int en), .val (.int 2), .unset]) rfl k) ?_
                  exact J207_10 _ (by unfold own_rs; rw [if_neg hc190_28, if_pos hc196_29, if_pos hc201_30])
                · refine own_by (T' := T8) (g' := (mkF m 207 #[.val (.int x1), .val (.int x2), .val (.int x3), .val (.int o0), .val (.int o1), .val (.int o2), .val (.int o3), .val (.ref b1), .val (.ref b2), .val (.ref b4), .val (.int off), .val (.int ln), .val (.int en), .val (.int r1), .unset] [])) (fun t k => XS.ifYes X8.here hx rfl (pc0 := 201) (pc' := 207) rfl (hb hby at_201) rfl ((if0 _ _).trans (flt hc201_30).2.1) (by decide) (by decide) k) ?_
                  exact J207_10 _ (by unfold own_rs; rw [if_neg hc190_28, if_pos hc196_29, if_neg hc201_30])
              · refine own_by (T' := T8) (g' := (mkF m 207 #[.val (.int x1), .val (.int x2), .val (.int x3), .val (.int o0), .val (.int o1), .val (.int o2), .val (.int o3), .val (.ref b1), .val (.ref b2), .val (.ref b4), .val (.int off), .val (.int ln), .val (.int en), .val (.int r1), .unset] [])) (fun t k => XS.icmpYes X8.here hx rfl (pc0 := 196) (pc' := 207) rfl (hb hby at_196) rfl (flt hc196_29).2.1 (by decide) (by decide) k) ?_
                exact J207_10 _ (by unfold own_rs; rw [if_neg hc190_28, if_neg hc196_29])
          refine own_by (T' := T8) (g' := (mkF m 168 #[.val (.int x1), .val (.int x2), .val (.int x3), .val (.int o0), .val (.int o1), .val (.int o2), .val (.int o3), .val (.ref b1), .val (.ref b2), .val (.ref b4), .val (.int off), .val (.int ln), .val (.int en), .val (.int en), .unset] [(.int 3)])) (fun t k => XS.iconst X8.here hx rfl (hb hby at_167) k) ?_
          refine own_by (T' := T8) (g' := (mkF m 170 #[.val (.int x1), .val (.int x2), .val (.int x3), .val (.int o0), .val (.int o1), .val (.int o2), .val (.int o3), .val (.ref b1), .val (.ref b2), .val (.ref b4), .val (.int off), .val (.int ln), .val (.int en), .val (.int en), .unset] [(.int off), (.int 3)])) (fun t k => XS.iload X8.here hx rfl (hb hby at_168) rfl k) ?_
          by_cases hc170_31 : (3 : Int32) < off
          · refine own_by (T' := T8) (g' := (mkF m 187 #[.val (.int x1), .val (.int x2), .val (.int x3), .val (.int o0), .val (.int o1), .val (.int o2), .val (.int o3), .val (.ref b1), .val (.ref b2), .val (.ref b4), .val (.int off), .val (.int ln), .val (.int en), .val (.int en), .unset] [])) (fun t k => XS.icmpYes X8.here hx rfl (pc0 := 170) (pc' := 187) rfl (hb hby at_170) rfl (tlt hc170_31).1 (by decide) (by decide) k) ?_
            exact J187_9 _ (by unfold own_rs; rw [if_pos hc170_31])
          · refine own_by (T' := T8) (g' := (mkF m 173 #[.val (.int x1), .val (.int x2), .val (.int x3), .val (.int o0), .val (.int o1), .val (.int o2), .val (.int o3), .val (.ref b1), .val (.ref b2), .val (.ref b4), .val (.int off), .val (.int ln), .val (.int en), .val (.int en), .unset] [])) (fun t k => XS.icmpNo X8.here hx rfl (hb hby at_170) rfl (flt hc170_31).1 k) ?_
            refine own_by (T' := T8) (g' := (mkF m 174 #[.val (.int x1), .val (.int x2), .val (.int x3), .val (.int o0), .val (.int o1), .val (.int o2), .val (.int o3), .val (.ref b1), .val (.ref b2), .val (.ref b4), .val (.int off), .val (.int ln), .val (.int en), .val (.int en), .unset] [(.int 3)])) (fun t k => XS.iconst X8.here hx rfl (hb hby at_173) k) ?_
            refine own_by (T' := T8) (g' := (mkF m 176 #[.val (.int x1), .val (.int x2), .val (.int x3), .val (.int o0), .val (.int o1), .val (.int o2), .val (.int o3), .val (.ref b1), .val (.ref b2), .val (.ref b4), .val (.int off), .val (.int ln), .val (.int en), .val (.int en), .unset] [(.int en), (.int 3)])) (fun t k => XS.iload X8.here hx rfl (hb hby at_174) rfl k) ?_
            by_cases hc176_32 : (3 : Int32) < en
            · refine own_by (T' := T8) (g' := (mkF m 179 #[.val (.int x1), .val (.int x2), .val (.int x3), .val (.int o0), .val (.int o1), .val (.int o2), .val (.int o3), .val (.ref b1), .val (.ref b2), .val (.ref b4), .val (.int off), .val (.int ln), .val (.int en), .val (.int en), .unset] [])) (fun t k => XS.icmpNo X8.here hx rfl (hb hby at_176) rfl (tlt hc176_32).2.1 k) ?_
              refine own_by (T' := T8) (g' := (mkF m 181 #[.val (.int x1), .val (.int x2), .val (.int x3), .val (.int o0), .val (.int o1), .val (.int o2), .val (.int o3), .val (.ref b1), .val (.ref b2), .val (.ref b4), .val (.int off), .val (.int ln), .val (.int en), .val (.int en), .unset] [(.int o3)])) (fun t k => XS.iload X8.here hx rfl (hb hby at_179) rfl k) ?_
              by_cases hc181_33 : o3 < (0 : Int32)
              · refine own_by (T' := T8) (g' := (mkF m 184 #[.val (.int x1), .val (.int x2), .val (.int x3), .val (.int o0), .val (.int o1), .val (.int o2), .val (.int o3), .val (.ref b1), .val (.ref b2), .val (.ref b4), .val (.int off), .val (.int ln), .val (.int en), .val (.int en), .unset] [])) (fun t k => XS.ifNo X8.here hx rfl (hb hby at_181) rfl ((if0 _ _).trans (tlt hc181_33).2.1) k) ?_
                refine own_by (T' := T8) (g' := (mkF m 185 #[.val (.int x1), .val (.int x2), .val (.int x3), .val (.int o0), .val (.int o1), .val (.int o2), .val (.int o3), .val (.ref b1), .val (.ref b2), .val (.ref b4), .val (.int off), .val (.int ln), .val (.int en), .val (.int en), .unset] [(.int 3)])) (fun t k => XS.iconst X8.here hx rfl (hb hby at_184) k) ?_
                refine own_by (T' := T8) (g' := (mkF m 187 #[.val (.int x1), .val (.int x2), .val (.int x3), .val (.int o0), .val (.int o1), .val (.int o2), .val (.int o3), .val (.ref b1), .val (.ref b2), .val (.ref b4), .val (.int off), .val (.int ln), .val (.int en), .val (.int 3), .unset] [])) (fun t k => XS.istore X8.here hx rfl (hb hby at_185) rfl (l' := #[.val (.int x1), .val (.int x2), .val (.int x3), .val (.int o0), .val (.int o1), .val (.int o2), .val (.int o3), .val (.ref b1), .val (.ref b2), .val (.ref b4), .val (.int off), .val (.int ln), .val (.int en), .val (.int 3), .unset]) rfl k) ?_
                exact J187_9 _ (by unfold own_rs; rw [if_neg hc170_31, if_pos hc176_32, if_pos hc181_33])
              · refine own_by (T' := T8) (g' := (mkF m 187 #[.val (.int x1), .val (.int x2), .val (.int x3), .val (.int o0), .val (.int o1), .val (.int o2), .val (.int o3), .val (.ref b1), .val (.ref b2), .val (.ref b4), .val (.int off), .val (.int ln), .val (.int en), .val (.int en), .unset] [])) (fun t k => XS.ifYes X8.here hx rfl (pc0 := 181) (pc' := 187) rfl (hb hby at_181) rfl ((if0 _ _).trans (flt hc181_33).2.1) (by decide) (by decide) k) ?_
                exact J187_9 _ (by unfold own_rs; rw [if_neg hc170_31, if_pos hc176_32, if_neg hc181_33])
            · refine own_by (T' := T8) (g' := (mkF m 187 #[.val (.int x1), .val (.int x2), .val (.int x3), .val (.int o0), .val (.int o1), .val (.int o2), .val (.int o3), .val (.ref b1), .val (.ref b2), .val (.ref b4), .val (.int off), .val (.int ln), .val (.int en), .val (.int en), .unset] [])) (fun t k => XS.icmpYes X8.here hx rfl (pc0 := 176) (pc' := 187) rfl (hb hby at_176) rfl (flt hc176_32).2.1 (by decide) (by decide) k) ?_
              exact J187_9 _ (by unfold own_rs; rw [if_neg hc170_31, if_neg hc176_32])
        refine own_by (T' := T_80) (g' := (mkF m 82 #[.val (.int x1), .val (.int x2), .val (.int x3), .val (.int o0), .val (.int o1), .val (.int o2), .val (.int o3), .val (.ref b1), .unset, .unset, .unset, .unset, .unset, .unset, .unset] [(.int o3)])) (fun t k => XS.iload X_80.here hx rfl (hb hby at_80) rfl k) ?_
        by_cases hc82_34 : o3 < (0 : Int32)
        · refine own_by (T' := T_80) (g' := (mkF m 98 #[.val (.int x1), .val (.int x2), .val (.int x3), .val (.int o0), .val (.int o1), .val (.int o2), .val (.int o3), .val (.ref b1), .unset, .unset, .unset, .unset, .unset, .unset, .unset] [])) (fun t k => XS.ifYes X_80.here hx rfl (pc0 := 82) (pc' := 98) rfl (hb hby at_82) rfl ((if0 _ _).trans (tlt hc82_34).1) (by decide) (by decide) k) ?_
          exact J98 _ _ _ _ X_80 e_80 N_ Zle A_b1 hB E_b1
        · refine own_by (T' := T_80) (g' := (mkF m 85 #[.val (.int x1), .val (.int x2), .val (.int x3), .val (.int o0), .val (.int o1), .val (.int o2), .val (.int o3), .val (.ref b1), .unset, .unset, .unset, .unset, .unset, .unset, .unset] [])) (fun t k => XS.ifNo X_80.here hx rfl (hb hby at_82) rfl ((if0 _ _).trans (flt hc82_34).1) k) ?_
          refine own_by (T' := T_80) (g' := (mkF m 87 #[.val (.int x1), .val (.int x2), .val (.int x3), .val (.int o0), .val (.int o1), .val (.int o2), .val (.int o3), .val (.ref b1), .unset, .unset, .unset, .unset, .unset, .unset, .unset] [(.ref b1)])) (fun t k => XS.aload X_80.here hx rfl (hb hby at_85) rfl rfl k) ?_
          refine own_by (T' := T_80) (g' := (mkF m 89 #[.val (.int x1), .val (.int x2), .val (.int x3), .val (.int o0), .val (.int o1), .val (.int o2), .val (.int o3), .val (.ref b1), .unset, .unset, .unset, .unset, .unset, .unset, .unset] [(.int o3), (.ref b1)])) (fun t k => XS.iload X_80.here hx rfl (hb hby at_87) rfl k) ?_
          refine own_by (T' := T_80) (g' := (mkF m 90 #[.val (.int x1), .val (.int x2), .val (.int x3), .val (.int o0), .val (.int o1), .val (.int o2), .val (.int o3), .val (.ref b1), .unset, .unset, .unset, .unset, .unset, .unset, .unset] [(.int x2), (.int o3), (.ref b1)])) (fun t k => XS.iloadN X_80.here hx rfl (hb hby at_89) rfl k) ?_
          refine own_by (T' := T_80) (g' := (mkF m 92 #[.val (.int x1), .val (.int x2), .val (.int x3), .val (.int o0), .val (.int o1), .val (.int o2), .val (.int o3), .val (.ref b1), .unset, .unset, .unset, .unset, .unset, .unset, .unset] [(.int 21), (.int x2), (.int o3), (.ref b1)])) (fun t k => XS.bipush X_80.here hx rfl (hb hby at_90) k) ?_
          refine own_by (T' := T_80) (g' := (mkF m 93 #[.val (.int x1), .val (.int x2), .val (.int x3), .val (.int o0), .val (.int o1), .val (.int o2), .val (.int o3), .val (.ref b1), .unset, .unset, .unset, .unset, .unset, .unset, .unset] [(.int ((x2.toUInt32 >>> ((21 : Int32) &&& 31).toUInt32).toInt32)), (.int o3), (.ref b1)])) (fun t k => XS.iushr X_80.here hx rfl (hb hby at_92) rfl k) ?_
          refine own_by (T' := T_80) (g' := (mkF m 95 #[.val (.int x1), .val (.int x2), .val (.int x3), .val (.int o0), .val (.int o1), .val (.int o2), .val (.int o3), .val (.ref b1), .unset, .unset, .unset, .unset, .unset, .unset, .unset] [(.int 127), (.int ((x2.toUInt32 >>> ((21 : Int32) &&& 31).toUInt32).toInt32)), (.int o3), (.ref b1)])) (fun t k => XS.bipush X_80.here hx rfl (hb hby at_93) k) ?_
          refine own_by (T' := T_80) (g' := (mkF m 96 #[.val (.int x1), .val (.int x2), .val (.int x3), .val (.int o0), .val (.int o1), .val (.int o2), .val (.int o3), .val (.ref b1), .unset, .unset, .unset, .unset, .unset, .unset, .unset] [(.int (((x2.toUInt32 >>> ((21 : Int32) &&& 31).toUInt32).toInt32) &&& (127 : Int32))), (.int o3), (.ref b1)])) (fun t k => XS.iand X_80.here hx rfl (hb hby at_95) rfl k) ?_
          refine own_by (T' := T_80) (g' := (mkF m 97 #[.val (.int x1), .val (.int x2), .val (.int x3), .val (.int o0), .val (.int o1), .val (.int o2), .val (.int o3), .val (.ref b1), .unset, .unset, .unset, .unset, .unset, .unset, .unset] [(.int ((((x2.toUInt32 >>> ((21 : Int32) &&& 31).toUInt32).toInt32) &&& (127 : Int32)).toInt8.toInt32)), (.int o3), (.ref b1)])) (fun t k => XS.i2b X_80.here hx rfl (hb hby at_96) rfl k) ?_
          have hin35 := own_inb hB hc82_34 hby3
          obtain ⟨T35, h35, X35, e35, W35, st35⟩ := stB X_80 hx hZ e_80 A_b1 (j := o3) hin35 (g := (mkF m 97 #[.val (.int x1), .val (.int x2), .val (.int x3), .val (.int o0), .val (.int o1), .val (.int o2), .val (.int o3), .val (.ref b1), .unset, .unset, .unset, .unset, .unset, .unset, .unset] [(.int ((((x2.toUInt32 >>> ((21 : Int32) &&& 31).toUInt32).toInt32) &&& (127 : Int32)).toInt8.toInt32)), (.int o3), (.ref b1)])) rfl rfl (hb hby at_97)
          have A_b1_ := A_b1.same W35
          have Zle := Nat.le_trans Zle (Keep.of_wr W35).1
          have E_b1 := E_b1.wr W35
          have A_b1 := A_b1_
          have hB := own_B_set hB (y := ((((x2.toUInt32 >>> ((21 : Int32) &&& 31).toUInt32).toInt32) &&& (127 : Int32)).toInt8.toInt32)) hin35
          have N_ := Fr.snoc X35 N_ g_b1
          refine own_by (T' := T35) (g' := (mkF m 98 #[.val (.int x1), .val (.int x2), .val (.int x3), .val (.int o0), .val (.int o1), .val (.int o2), .val (.int o3), .val (.ref b1), .unset, .unset, .unset, .unset, .unset, .unset, .unset] [])) (fun t k => st35 t k) ?_
          exact J98 _ _ _ _ X35 e35 N_ Zle A_b1 hB E_b1
      refine own_by (T' := T_62) (g' := (mkF m 64 #[.val (.int x1), .val (.int x2), .val (.int x3), .val (.int o0), .val (.int o1), .val (.int o2), .val (.int o3), .val (.ref b1), .unset, .unset, .unset, .unset, .unset, .unset, .unset] [(.int o2)])) (fun t k => XS.iload X_62.here hx rfl (hb hby at_62) rfl k) ?_
      by_cases hc64_36 : o2 < (0 : Int32)
      · refine own_by (T' := T_62) (g' := (mkF m 80 #[.val (.int x1), .val (.int x2), .val (.int x3), .val (.int o0), .val (.int o1), .val (.int o2), .val (.int o3), .val (.ref b1), .unset, .unset, .unset, .unset, .unset, .unset, .unset] [])) (fun t k => XS.ifYes X_62.here hx rfl (pc0 := 64) (pc' := 80) rfl (hb hby at_64) rfl ((if0 _ _).trans (tlt hc64_36).1) (by decide) (by decide) k) ?_
        exact J80 _ _ _ _ X_62 e_62 N_ Zle A_b1 hB E_b1
      · refine own_by (T' := T_62) (g' := (mkF m 67 #[.val (.int x1), .val (.int x2), .val (.int x3), .val (.int o0), .val (.int o1), .val (.int o2), .val (.int o3), .val (.ref b1), .unset, .unset, .unset, .unset, .unset, .unset, .unset] [])) (fun t k => XS.ifNo X_62.here hx rfl (hb hby at_64) rfl ((if0 _ _).trans (flt hc64_36).1) k) ?_
        refine own_by (T' := T_62) (g' := (mkF m 69 #[.val (.int x1), .val (.int x2), .val (.int x3), .val (.int o0), .val (.int o1), .val (.int o2), .val (.int o3), .val (.ref b1), .unset, .unset, .unset, .unset, .unset, .unset, .unset] [(.ref b1)])) (fun t k => XS.aload X_62.here hx rfl (hb hby at_67) rfl rfl k) ?_
        refine own_by (T' := T_62) (g' := (mkF m 71 #[.val (.int x1), .val (.int x2), .val (.int x3), .val (.int o0), .val (.int o1), .val (.int o2), .val (.int o3), .val (.ref b1), .unset, .unset, .unset, .unset, .unset, .unset, .unset] [(.int o2), (.ref b1)])) (fun t k => XS.iload X_62.here hx rfl (hb hby at_69) rfl k) ?_
        refine own_by (T' := T_62) (g' := (mkF m 72 #[.val (.int x1), .val (.int x2), .val (.int x3), .val (.int o0), .val (.int o1), .val (.int o2), .val (.int o3), .val (.ref b1), .unset, .unset, .unset, .unset, .unset, .unset, .unset] [(.int x2), (.int o2), (.ref b1)])) (fun t k => XS.iloadN X_62.here hx rfl (hb hby at_71) rfl k) ?_
        refine own_by (T' := T_62) (g' := (mkF m 74 #[.val (.int x1), .val (.int x2), .val (.int x3), .val (.int o0), .val (.int o1), .val (.int o2), .val (.int o3), .val (.ref b1), .unset, .unset, .unset, .unset, .unset, .unset, .unset] [(.int 14), (.int x2), (.int o2), (.ref b1)])) (fun t k => XS.bipush X_62.here hx rfl (hb hby at_72) k) ?_
        refine own_by (T' := T_62) (g' := (mkF m 75 #[.val (.int x1), .val (.int x2), .val (.int x3), .val (.int o0), .val (.int o1), .val (.int o2), .val (.int o3), .val (.ref b1), .unset, .unset, .unset, .unset, .unset, .unset, .unset] [(.int ((x2.toUInt32 >>> ((14 : Int32) &&& 31).toUInt32).toInt32)), (.int o2), (.ref b1)])) (fun t k => XS.iushr X_62.here hx rfl (hb hby at_74) rfl k) ?_
        refine own_by (T' := T_62) (g' := (mkF m 77 #[.val (.int x1), .val (.int x2), .val (.int x3), .val (.int o0), .val (.int o1), .val (.int o2), .val (.int o3), .val (.ref b1), .unset, .unset, .unset, .unset, .unset, .unset, .unset] [(.int 127), (.int ((x2.toUInt32 >>> ((14 : Int32) &&& 31).toUInt32).toInt32)), (.int o2), (.ref b1)])) (fun t k => XS.bipush X_62.here hx rfl (hb hby at_75) k) ?_
        refine own_by (T' := T_62) (g' := (mkF m 78 #[.val (.int x1), .val (.int x2), .val (.int x3), .val (.int o0), .val (.int o1), .val (.int o2), .val (.int o3), .val (.ref b1), .unset, .unset, .unset, .unset, .unset, .unset, .unset] [(.int (((x2.toUInt32 >>> ((14 : Int32) &&& 31).toUInt32).toInt32) &&& (127 : Int32))), (.int o2), (.ref b1)])) (fun t k => XS.iand X_62.here hx rfl (hb hby at_77) rfl k) ?_
        refine own_by (T' := T_62) (g' := (mkF m 79 #[.val (.int x1), .val (.int x2), .val (.int x3), .val (.int o0), .val (.int o1), .val (.int o2), .val (.int o3), .val (.ref b1), .unset, .unset, .unset, .unset, .unset, .unset, .unset] [(.int ((((x2.toUInt32 >>> ((14 : Int32) &&& 31).toUInt32).toInt32) &&& (127 : Int32)).toInt8.toInt32)), (.int o2), (.ref b1)])) (fun t k => XS.i2b X_62.here hx rfl (hb hby at_78) rfl k) ?_
        have hin37 := own_inb hB hc64_36 hby2
        obtain ⟨T37, h37, X37, e37, W37, st37⟩ := stB X_62 hx hZ e_62 A_b1 (j := o2) hin37 (g := (mkF m 79 #[.val (.int x1), .val (.int x2), .val (.int x3), .val (.int o0), .val (.int o1), .val (.int o2), .val (.int o3), .val (.ref b1), .unset, .unset, .unset, .unset, .unset, .unset, .unset] [(.int ((((x2.toUInt32 >>> ((14 : Int32) &&& 31).toUInt32).toInt32) &&& (127 : Int32)).toInt8.toInt32)), (.int o2), (.ref b1)])) rfl rfl (hb hby at_79)
        have A_b1_ := A_b1.same W37
        have Zle := Nat.le_trans Zle (Keep.of_wr W37).1
        have E_b1 := E_b1.wr W37
        have A_b1 := A_b1_
        have hB := own_B_set hB (y := ((((x2.toUInt32 >>> ((14 : Int32) &&& 31).toUInt32).toInt32) &&& (127 : Int32)).toInt8.toInt32)) hin37
        have N_ := Fr.snoc X37 N_ g_b1
        refine own_by (T' := T37) (g' := (mkF m 80 #[.val (.int x1), .val (.int x2), .val (.int x3), .val (.int o0), .val (.int o1), .val (.int o2), .val (.int o3), .val (.ref b1), .unset, .unset, .unset, .unset, .unset, .unset, .unset] [])) (fun t k => st37 t k) ?_
        exact J80 _ _ _ _ X37 e37 N_ Zle A_b1 hB E_b1
    refine own_by (T' := T_44) (g' := (mkF m 46 #[.val (.int x1), .val (.int x2), .val (.int x3), .val (.int o0), .val (.int o1), .val (.int o2), .val (.int o3), .val (.ref b1), .unset, .unset, .unset, .unset, .unset, .unset, .unset] [(.int o1)])) (fun t k => XS.iload X_44.here hx rfl (hb hby at_44) rfl k) ?_
    by_cases hc46_38 : o1 < (0 : Int32)
    · refine own_by (T' := T_44) (g' := (mkF m 62 #[.val (.int x1), .val (.int x2), .val (.int x3), .val (.int o0), .val (.int o1), .val (.int o2), .val (.int o3), .val (.ref b1), .unset, .unset, .unset, .unset, .unset, .unset, .unset] [])) (fun t k => XS.ifYes X_44.here hx rfl (pc0 := 46) (pc' := 62) rfl (hb hby at_46) rfl ((if0 _ _).trans (tlt hc46_38).1) (by decide) (by decide) k) ?_
      exact J62 _ _ _ _ X_44 e_44 N_ Zle A_b1 hB E_b1
    · refine own_by (T' := T_44) (g' := (mkF m 49 #[.val (.int x1), .val (.int x2), .val (.int x3), .val (.int o0), .val (.int o1), .val (.int o2), .val (.int o3), .val (.ref b1), .unset, .unset, .unset, .unset, .unset, .unset, .unset] [])) (fun t k => XS.ifNo X_44.here hx rfl (hb hby at_46) rfl ((if0 _ _).trans (flt hc46_38).1) k) ?_
      refine own_by (T' := T_44) (g' := (mkF m 51 #[.val (.int x1), .val (.int x2), .val (.int x3), .val (.int o0), .val (.int o1), .val (.int o2), .val (.int o3), .val (.ref b1), .unset, .unset, .unset, .unset, .unset, .unset, .unset] [(.ref b1)])) (fun t k => XS.aload X_44.here hx rfl (hb hby at_49) rfl rfl k) ?_
      refine own_by (T' := T_44) (g' := (mkF m 53 #[.val (.int x1), .val (.int x2), .val (.int x3), .val (.int o0), .val (.int o1), .val (.int o2), .val (.int o3), .val (.ref b1), .unset, .unset, .unset, .unset, .unset, .unset, .unset] [(.int o1), (.ref b1)])) (fun t k => XS.iload X_44.here hx rfl (hb hby at_51) rfl k) ?_
      refine own_by (T' := T_44) (g' := (mkF m 54 #[.val (.int x1), .val (.int x2), .val (.int x3), .val (.int o0), .val (.int o1), .val (.int o2), .val (.int o3), .val (.ref b1), .unset, .unset, .unset, .unset, .unset, .unset, .unset] [(.int x2), (.int o1), (.ref b1)])) (fun t k => XS.iloadN X_44.here hx rfl (hb hby at_53) rfl k) ?_
      refine own_by (T' := T_44) (g' := (mkF m 56 #[.val (.int x1), .val (.int x2), .val (.int x3), .val (.int o0), .val (.int o1), .val (.int o2), .val (.int o3), .val (.ref b1), .unset, .unset, .unset, .unset, .unset, .unset, .unset] [(.int 7), (.int x2), (.int o1), (.ref b1)])) (fun t k => XS.bipush X_44.here hx rfl (hb hby at_54) k) ?_
      refine own_by (T' := T_44) (g' := (mkF m 57 #[.val (.int x1), .val (.int x2), .val (.int x3), .val (.int o0), .val (.int o1), .val (.int o2), .val (.int o3), .val (.ref b1), .unset, .unset, .unset, .unset, .unset, .unset, .unset] [(.int ((x2.toUInt32 >>> ((7 : Int32) &&& 31).toUInt32).toInt32)), (.int o1), (.ref b1)])) (fun t k => XS.iushr X_44.here hx rfl (hb hby at_56) rfl k) ?_
      refine own_by (T' := T_44) (g' := (mkF m 59 #[.val (.int x1), .val (.int x2), .val (.int x3), .val (.int o0), .val (.int o1), .val (.int o2), .val (.int o3), .val (.ref b1), .unset, .unset, .unset, .unset, .unset, .unset, .unset] [(.int 127), (.int ((x2.toUInt32 >>> ((7 : Int32) &&& 31).toUInt32).toInt32)), (.int o1), (.ref b1)])) (fun t k => XS.bipush X_44.here hx rfl (hb hby at_57) k) ?_
      refine own_by (T' := T_44) (g' := (mkF m 60 #[.val (.int x1), .val (.int x2), .val (.int x3), .val (.int o0), .val (.int o1), .val (.int o2), .val (.int o3), .val (.ref b1), .unset, .unset, .unset, .unset, .unset, .unset, .unset] [(.int (((x2.toUInt32 >>> ((7 : Int32) &&& 31).toUInt32).toInt32) &&& (127 : Int32))), (.int o1), (.ref b1)])) (fun t k => XS.iand X_44.here hx rfl (hb hby at_59) rfl k) ?_
      refine own_by (T' := T_44) (g' := (mkF m 61 #[.val (.int x1), .val (.int x2), .val (.int x3), .val (.int o0), .val (.int o1), .val (.int o2), .val (.int o3), .val (.ref b1), .unset, .unset, .unset, .unset, .unset, .unset, .unset] [(.int ((((x2.toUInt32 >>> ((7 : Int32) &&& 31).toUInt32).toInt32) &&& (127 : Int32)).toInt8.toInt32)), (.int o1), (.ref b1)])) (fun t k => XS.i2b X_44.here hx rfl (hb hby at_60) rfl k) ?_
      have hin39 := own_inb hB hc46_38 hby1
      obtain ⟨T39, h39, X39, e39, W39, st39⟩ := stB X_44 hx hZ e_44 A_b1 (j := o1) hin39 (g := (mkF m 61 #[.val (.int x1), .val (.int x2), .val (.int x3), .val (.int o0), .val (.int o1), .val (.int o2), .val (.int o3), .val (.ref b1), .unset, .unset, .unset, .unset, .unset, .unset, .unset] [(.int ((((x2.toUInt32 >>> ((7 : Int32) &&& 31).toUInt32).toInt32) &&& (127 : Int32)).toInt8.toInt32)), (.int o1), (.ref b1)])) rfl rfl (hb hby at_61)
      have A_b1_ := A_b1.same W39
      have Zle := Nat.le_trans Zle (Keep.of_wr W39).1
      have E_b1 := E_b1.wr W39
      have A_b1 := A_b1_
      have hB := own_B_set hB (y := ((((x2.toUInt32 >>> ((7 : Int32) &&& 31).toUInt32).toInt32) &&& (127 : Int32)).toInt8.toInt32)) hin39
      have N_ := Fr.snoc X39 N_ g_b1
      refine own_by (T' := T39) (g' := (mkF m 62 #[.val (.int x1), .val (.int x2), .val (.int x3), .val (.int o0), .val (.int o1), .val (.int o2), .val (.int o3), .val (.ref b1), .unset, .unset, .unset, .unset, .unset, .unset, .unset] [])) (fun t k => st39 t k) ?_
      exact J62 _ _ _ _ X39 e39 N_ Zle A_b1 hB E_b1
  refine own_by (T' := T1) (g' := (mkF m 32 #[.val (.int x1), .val (.int x2), .val (.int x3), .val (.int o0), .val (.int o1), .val (.int o2), .val (.int o3), .val (.ref b1), .unset, .unset, .unset, .unset, .unset, .unset, .unset] [(.int o0)])) (fun t k => XS.iloadN X1.here hx rfl (hb hby at_31) rfl k) ?_
  by_cases hc32_40 : o0 < (0 : Int32)
  · refine own_by (T' := T1) (g' := (mkF m 44 #[.val (.int x1), .val (.int x2), .val (.int x3), .val (.int o0), .val (.int o1), .val (.int o2), .val (.int o3), .val (.ref b1), .unset, .unset, .unset, .unset, .unset, .unset, .unset] [])) (fun t k => XS.ifYes X1.here hx rfl (pc0 := 32) (pc' := 44) rfl (hb hby at_32) rfl ((if0 _ _).trans (tlt hc32_40).1) (by decide) (by decide) k) ?_
    exact J44 _ _ _ _ X1 e1 N_ Zle A_b1 hB E_b1
  · refine own_by (T' := T1) (g' := (mkF m 35 #[.val (.int x1), .val (.int x2), .val (.int x3), .val (.int o0), .val (.int o1), .val (.int o2), .val (.int o3), .val (.ref b1), .unset, .unset, .unset, .unset, .unset, .unset, .unset] [])) (fun t k => XS.ifNo X1.here hx rfl (hb hby at_32) rfl ((if0 _ _).trans (flt hc32_40).1) k) ?_
    refine own_by (T' := T1) (g' := (mkF m 37 #[.val (.int x1), .val (.int x2), .val (.int x3), .val (.int o0), .val (.int o1), .val (.int o2), .val (.int o3), .val (.ref b1), .unset, .unset, .unset, .unset, .unset, .unset, .unset] [(.ref b1)])) (fun t k => XS.aload X1.here hx rfl (hb hby at_35) rfl rfl k) ?_
    refine own_by (T' := T1) (g' := (mkF m 38 #[.val (.int x1), .val (.int x2), .val (.int x3), .val (.int o0), .val (.int o1), .val (.int o2), .val (.int o3), .val (.ref b1), .unset, .unset, .unset, .unset, .unset, .unset, .unset] [(.int o0), (.ref b1)])) (fun t k => XS.iloadN X1.here hx rfl (hb hby at_37) rfl k) ?_
    refine own_by (T' := T1) (g' := (mkF m 39 #[.val (.int x1), .val (.int x2), .val (.int x3), .val (.int o0), .val (.int o1), .val (.int o2), .val (.int o3), .val (.ref b1), .unset, .unset, .unset, .unset, .unset, .unset, .unset] [(.int x2), (.int o0), (.ref b1)])) (fun t k => XS.iloadN X1.here hx rfl (hb hby at_38) rfl k) ?_
    refine own_by (T' := T1) (g' := (mkF m 41 #[.val (.int x1), .val (.int x2), .val (.int x3), .val (.int o0), .val (.int o1), .val (.int o2), .val (.int o3), .val (.ref b1), .unset, .unset, .unset, .unset, .unset, .unset, .unset] [(.int 127), (.int x2), (.int o0), (.ref b1)])) (fun t k => XS.bipush X1.here hx rfl (hb hby at_39) k) ?_
    refine own_by (T' := T1) (g' := (mkF m 42 #[.val (.int x1), .val (.int x2), .val (.int x3), .val (.int o0), .val (.int o1), .val (.int o2), .val (.int o3), .val (.ref b1), .unset, .unset, .unset, .unset, .unset, .unset, .unset] [(.int (x2 &&& (127 : Int32))), (.int o0), (.ref b1)])) (fun t k => XS.iand X1.here hx rfl (hb hby at_41) rfl k) ?_
    refine own_by (T' := T1) (g' := (mkF m 43 #[.val (.int x1), .val (.int x2), .val (.int x3), .val (.int o0), .val (.int o1), .val (.int o2), .val (.int o3), .val (.ref b1), .unset, .unset, .unset, .unset, .unset, .unset, .unset] [(.int ((x2 &&& (127 : Int32)).toInt8.toInt32)), (.int o0), (.ref b1)])) (fun t k => XS.i2b X1.here hx rfl (hb hby at_42) rfl k) ?_
    have hin41 := own_inb hB hc32_40 hby0
    obtain ⟨T41, h41, X41, e41, W41, st41⟩ := stB X1 hx hZ e1 A_b1 (j := o0) hin41 (g := (mkF m 43 #[.val (.int x1), .val (.int x2), .val (.int x3), .val (.int o0), .val (.int o1), .val (.int o2), .val (.int o3), .val (.ref b1), .unset, .unset, .unset, .unset, .unset, .unset, .unset] [(.int ((x2 &&& (127 : Int32)).toInt8.toInt32)), (.int o0), (.ref b1)])) rfl rfl (hb hby at_43)
    have A_b1_ := A_b1.same W41
    have Zle := Nat.le_trans Zle (Keep.of_wr W41).1
    have E_b1 := E_b1.wr W41
    have A_b1 := A_b1_
    have hB := own_B_set hB (y := ((x2 &&& (127 : Int32)).toInt8.toInt32)) hin41
    have N_ := Fr.snoc X41 N_ g_b1
    refine own_by (T' := T41) (g' := (mkF m 44 #[.val (.int x1), .val (.int x2), .val (.int x3), .val (.int o0), .val (.int o1), .val (.int o2), .val (.int o3), .val (.ref b1), .unset, .unset, .unset, .unset, .unset, .unset, .unset] [])) (fun t k => st41 t k) ?_
    exact J44 _ _ _ _ X41 e41 N_ Zle A_b1 hB E_b1

set_option maxRecDepth 65536 in
set_option maxHeartbeats 40000000 in
theorem comes_1 {Post : Tables → Env → Array Value → State → Outcome → State → Prop} (hpost : ∀ tb e args s v u, (limb_1_1.after args s (.returned v) u = true ∧ limb_1_2.after args s (.returned v) u = true ∧ True) → FrameEnd s (.returned v) u (Jvm.fieldLocs frame_1_writes args s ++ Jvm.arrayLocs frame_1_arrays args s ++ Jvm.staticLocs frame_1_statics s) 16 640 → Post tb e args s (.returned v) u) :
    ArmFor flags0 classFile x code maxLocals ret World_1 tables_1 room_1 Calls_1 rest_1 Pre_1 Post := by
  intro l hfl _ _ p e ha hc hk s m args below hf hA hF happ hP
  obtain ⟨hcalls, hrest, hpre⟩ := hP
  obtain ⟨-, -, -, hnamed, -, -, -, hat⟩ := (Spec.applies_iff hf).mp happ
  obtain ⟨hg, hn⟩ := and_e (Cond.before_iff.mp (show (Jvm.Cond.and given_1 narrow_1).before args s = true from hpre))
  obtain ⟨hcount, g0⟩ := and_e hg
  obtain ⟨a0, g1⟩ := and_e g0
  obtain ⟨a1, g2⟩ := and_e g1
  obtain ⟨w0, w1, w2, rfl⟩ : ∃ w0 w1 w2 : Value, args = #[w0, w1, w2] := by
    have hs : args.size = 3 := by simpa [Cond.value, given_1] using hcount
    obtain ⟨L⟩ := args
    match L, hs with
    | [w0, w1, w2], _ => exact ⟨w0, w1, w2, rfl⟩
  have hw := fun d (hd : d ∈ tables_1) => atoms_spec (ws := Jvm.Cond.code x code maxLocals ret :: tables_1) hat d (List.mem_cons_of_mem _ hd)
  have hfit : Fit s := fun {y c} hc i hi => by
    obtain ⟨ha, rfl⟩ := Array.getElem?_eq_some_iff.mp hc
    have q := List.all_eq_true.mp ((Array.all_eq_true_iff_forall_mem.mp hF) _ (Array.getElem_mem ha)) i (List.mem_range.mpr hi)
    simpa [Array.getElem?_eq_getElem hi] using q
  obtain ⟨i0, ei0⟩ := is_v a0
  obtain rfl : w0 = (.int i0) := Option.some.inj ei0
  obtain ⟨i1, ei1⟩ := is_v a1
  obtain rfl : w1 = (.int i1) := Option.some.inj ei1
  obtain ⟨i2, ei2⟩ := is_v g2
  obtain rfl : w2 = (.int i2) := Option.some.inj ei2
  obtain ⟨n, o, h1, h2, h3, _, L, rfl, ⟨rfl, N⟩, hq⟩ := rm0 l s _ hw tables_1 i0 i1 i2 s.heap s.heap.size (Nat.le_refl _)  p e ha hc hk s m _ below hf ((Spec.applies_iff_loose hf).mp happ).1 ⟨rfl, State.Warmed39.refl s, rfl⟩ trivial
  refine ⟨n, _, h1, h2, h3, hpost _ _ _ _ _ _ ⟨Cond.after_iff.mpr rfl, Cond.after_iff.mpr (eq_i res_at (Term.int_eval (1)) rfl), trivial⟩ ⟨hq.1, hq.2.1, (hq.2.2.sift fun y hy => Or.inr (N y hy)).mono (by decide) (by decide)⟩⟩
theorem main_1_1 : Claimed_1_1 := comes_1 fun _ _ _ _ _ _ h hF => ⟨h.1, hF⟩
theorem main_1_2 : Claimed_1_2 := comes_1 fun _ _ _ _ _ _ h hF => ⟨h.2.1, hF⟩

end Jvm.Pilot.@@N@@
namespace Jvm.Pilot.@@N@@
open Jvm Jvm.ClassFile Sem Op Lib Jvm.Free Jvm.Stand Jvm.Pilot.@@N@@.Jvm.D
/-! MADE BY PROGRAM (witnessworld.py) out of the Statement's table words and the real class files: 11 classes; the members and pool entries that the words name. The judged class is class 1, her method 1. -/
namespace start1
open Jvm.ClassFile
def u (s : String) : CpInfo := .utf8 (stringToUtf16 s)
/-- a pool by its gaps: so many unusable entries, then the entry; so many at the end -/
def gap : Nat → List CpInfo → List CpInfo
  | 0, r => r
  | n + 1, r => .unusable :: gap n r
def poolList (es : List (Nat × CpInfo)) (last : Nat) : List CpInfo := es.foldr (fun e r => gap e.1 (e.2 :: r)) (gap last [])
def pool (es : List (Nat × CpInfo)) (last : Nat) : Array CpInfo := ⟨poolList es last⟩
def fileOf (pool : Array CpInfo) (this : Nat) (attrs : Array Attribute := #[]) (ms : Array MethodInfo := #[]) (fl : Nat := 33) (sup : Nat := 0) (ifs : Array Nat := #[]) (fds : Array FieldInfo := #[]) : ClassFile where
  minorVersion := 0
  majorVersion := 65
  constantPool := pool
  accessFlags := fl
  thisClass := this
  superClass := sup
  interfaces := ifs
  fields := fds
  methods := ms
  attributes := attrs
def plain (name : String) (sup : Option ClassId) : Class where
  name := name
  kind := .ordinary
  loader := none
  accessFlags := 33
  super := sup
  interfaces := #[]
  cf := none
  fields := #[]
  methods := #[]
  instanceTypes := #[]
  staticTypes := #[]
  resolved := #[]
  callSites := []
  init := .initialized
  statics := none
  mirror := none

def pool0 : Array CpInfo := pool [(5, u "<init>"), (0, u "()V"), (1, .class_ 10), (1, u "java/lang/Object"), (85, u "clone"), (0, u "()Ljava/lang/Object;")] 26

def k0c0 : Code := { maxStack := 0, maxLocals := 1, code := object_method_1_code, exceptionTable := #[], attributes := #[] }
def k0m0 : Method := { name := "<init>", desc := "()V", sig := { parameters := [], returnType := none }, accessFlags := 1, code := some k0c0 }
def k0m1 : Method := { name := "clone", desc := "()Ljava/lang/Object;", sig := { parameters := [], returnType := some (.object "java/lang/Object") }, accessFlags := 260, code := none }
/-- java/lang/Object -/
def k0 : Class := { plain "java/lang/Object" none with
  accessFlags := 33
  interfaces := #[]
  cf := some (fileOf pool0 8 #[] #[{ accessFlags := 1, nameIndex := 5, descriptorIndex := 6, attributes := #[] }, { accessFlags := 260, nameIndex := 96, descriptorIndex := 97, attributes := #[] }] 33 0 #[] #[])
  fields := #[]
  methods := #[k0m0, k0m1]
  instanceTypes := #[]
  staticTypes := #[]
  resolved := Array.replicate 124 none
  statics := none }

def pool1 : Array CpInfo := pool [(2, .class_ 4), (1, u "java/lang/Object"), (0, u "<init>"), (0, u "()V"), (0, .class_ 8), (0, u "com/example/cipherloom/cipherloom/core/AsciiTable"), (0, .methodref 7 10), (0, .nameAndType 5 11), (0, u "([B)V"), (0, .integer 2147483647), (0, .methodref 7 14), (0, .nameAndType 15 16), (0, u "transform"), (0, u "([BII)I"), (0, .methodref 18 19), (0, .class_ 20), (0, .nameAndType 21 22), (0, u "com/example/cipherloom/cipherloom/core/AsciiTableTransformPinLaw"), (0, u "expect"), (0, u "([BBIII)B"), (2, u "law"), (0, u "(III)Z")] 5

def k1m0 : Method := { name := "<init>", desc := "()V", sig := { parameters := [], returnType := none }, accessFlags := 1, code := none }
def k1c1 : Code := { maxStack := 6, maxLocals := 15, code := code, exceptionTable := #[], attributes := #[] }
def k1m1 : Method := { name := "law", desc := "(III)Z", sig := { parameters := [.int, .int, .int], returnType := some .boolean }, accessFlags := 9, code := some k1c1 }
def k1c2 : Code := { maxStack := 2, maxLocals := 5, code := method_3_code, exceptionTable := #[], attributes := #[] }
def k1m2 : Method := { name := "expect", desc := "([BBIII)B", sig := { parameters := [(.array .byte), .byte, .int, .int, .int], returnType := some .byte }, accessFlags := 10, code := some k1c2 }
/-- com/example/cipherloom/cipherloom/core/AsciiTableTransformPinLaw -/
def k1 : Class := { plain "com/example/cipherloom/cipherloom/core/AsciiTableTransformPinLaw" (some 0) with
  accessFlags := 49
  interfaces := #[]
  cf := some (fileOf pool1 18 #[] #[{ accessFlags := 1, nameIndex := 5, descriptorIndex := 6, attributes := #[] }, { accessFlags := 9, nameIndex := 25, descriptorIndex := 26, attributes := #[] }, { accessFlags := 10, nameIndex := 21, descriptorIndex := 22, attributes := #[] }] 49 2 #[] #[])
  fields := #[]
  methods := #[k1m0, k1m1, k1m2]
  instanceTypes := #[]
  staticTypes := #[]
  resolved := Array.replicate 32 none
  statics := none }

def pool2 : Array CpInfo := pool [(1, .methodref 2 3), (0, .class_ 4), (0, .nameAndType 5 6), (0, u "java/lang/Object"), (0, u "<init>"), (0, u "()V"), (0, .methodref 8 9), (0, .class_ 10), (0, .nameAndType 11 12), (0, u "[B"), (0, u "clone"), (0, u "()Ljava/lang/Object;"), (0, .fieldref 14 15), (0, .class_ 16), (0, .nameAndType 17 10), (0, u "com/example/cipherloom/cipherloom/core/AsciiTable"), (0, u "bytes"), (0, .methodref 19 20), (0, .class_ 21), (0, .nameAndType 22 23), (0, u "java/util/Objects"), (0, u "checkFromIndexSize"), (0, u "(III)I"), (0, .methodref 14 25), (0, .nameAndType 26 27), (0, u "transform"), (0, u "([B[BII)I"), (0, u "([B)V"), (2, u "([BII)I")] 3

def k2c0 : Code := { maxStack := 2, maxLocals := 2, code := prog_32_method_1_code, exceptionTable := #[], attributes := #[] }
def k2m0 : Method := { name := "<init>", desc := "([B)V", sig := { parameters := [(.array .byte)], returnType := none }, accessFlags := 0, code := some k2c0 }
def k2c1 : Code := { maxStack := 5, maxLocals := 4, code := prog_32_method_2_code, exceptionTable := #[], attributes := #[] }
def k2m1 : Method := { name := "transform", desc := "([BII)I", sig := { parameters := [(.array .byte), .int, .int], returnType := some .int }, accessFlags := 1, code := some k2c1 }
def k2c2 : Code := { maxStack := 4, maxLocals := 6, code := prog_32_method_3_code, exceptionTable := #[], attributes := #[] }
def k2m2 : Method := { name := "transform", desc := "([B[BII)I", sig := { parameters := [(.array .byte), (.array .byte), .int, .int], returnType := some .int }, accessFlags := 10, code := some k2c2 }
/-- com/example/cipherloom/cipherloom/core/AsciiTable -/
def k2 : Class := { plain "com/example/cipherloom/cipherloom/core/AsciiTable" (some 0) with
  accessFlags := 49
  interfaces := #[]
  cf := some (fileOf pool2 14 #[] #[{ accessFlags := 0, nameIndex := 5, descriptorIndex := 28, attributes := #[] }, { accessFlags := 1, nameIndex := 26, descriptorIndex := 31, attributes := #[] }, { accessFlags := 10, nameIndex := 26, descriptorIndex := 27, attributes := #[] }] 49 2 #[] #[{ accessFlags := 18, nameIndex := 17, descriptorIndex := 10, attributes := #[] }])
  fields := #[{ name := "bytes", type := (.array .byte), accessFlags := 18, slot := 0, constantValue := 0 }]
  methods := #[k2m0, k2m1, k2m2]
  instanceTypes := #[(.array .byte)]
  staticTypes := #[]
  resolved := Array.replicate 35 none
  statics := none }

def pool3 : Array CpInfo := pool [(1, .class_ 2), (0, u "java/lang/Cloneable"), (0, .class_ 4), (0, u "java/lang/Object")] 2

/-- java/lang/Cloneable -/
def k3 : Class := { plain "java/lang/Cloneable" (some 0) with
  accessFlags := 1537
  interfaces := #[]
  cf := some (fileOf pool3 1 #[] #[] 1537 3 #[] #[])
  fields := #[]
  methods := #[]
  instanceTypes := #[]
  staticTypes := #[]
  resolved := Array.replicate 7 none
  statics := none }

def pool4 : Array CpInfo := pool [(2, .class_ 4), (1, u "java/lang/Object"), (0, u "<init>"), (0, u "()V"), (35, .class_ 44), (1, u "java/util/Objects"), (61, .class_ 108), (1, u "jdk/internal/util/Preconditions"), (5, u "(IIILjava/util/function/BiFunction;)I"), (0, .methodref 106 116), (0, .nameAndType 117 114), (0, u "checkFromIndexSize"), (57, u "(III)I")] 8

def k4m0 : Method := { name := "<init>", desc := "()V", sig := { parameters := [], returnType := none }, accessFlags := 2, code := none }
def k4c1 : Code := { maxStack := 4, maxLocals := 3, code := jdk_31_method_19_code, exceptionTable := #[], attributes := #[] }
def k4m1 : Method := { name := "checkFromIndexSize", desc := "(III)I", sig := { parameters := [.int, .int, .int], returnType := some .int }, accessFlags := 9, code := some k4c1 }
/-- java/util/Objects -/
def k4 : Class := { plain "java/util/Objects" (some 0) with
  accessFlags := 49
  interfaces := #[]
  cf := some (fileOf pool4 42 #[] #[{ accessFlags := 2, nameIndex := 5, descriptorIndex := 6, attributes := #[] }, { accessFlags := 9, nameIndex := 117, descriptorIndex := 175, attributes := #[] }] 49 2 #[] #[])
  fields := #[]
  methods := #[k4m0, k4m1]
  instanceTypes := #[]
  staticTypes := #[]
  resolved := Array.replicate 184 none
  statics := none }

def pool5 : Array CpInfo := pool [(2, .class_ 4), (1, u "java/lang/Object"), (0, u "<init>"), (0, u "()V"), (17, .class_ 26), (1, u "jdk/internal/util/Preconditions"), (22, u "checkFromIndexSize"), (5, .class_ 56), (0, u "jdk/internal/util/Preconditions$4"), (57, .class_ 115), (0, u "jdk/internal/util/Preconditions$1"), (7, u "SIOOBE_FORMATTER"), (0, u "Ljava/util/function/BiFunction;"), (0, .class_ 126), (0, u "jdk/internal/util/Preconditions$2"), (3, u "AIOOBE_FORMATTER"), (0, .class_ 132), (0, u "jdk/internal/util/Preconditions$3"), (3, u "IOOBE_FORMATTER"), (46, u "(IIILjava/util/function/BiFunction;)I")] 10

def k5m0 : Method := { name := "<init>", desc := "()V", sig := { parameters := [], returnType := none }, accessFlags := 1, code := none }
def k5c1 : Code := { maxStack := 4, maxLocals := 4, code := jdk_41_method_13_code, exceptionTable := #[], attributes := #[] }
def k5m1 : Method := { name := "checkFromIndexSize", desc := "(IIILjava/util/function/BiFunction;)I", sig := { parameters := [.int, .int, .int, (.object "java/util/function/BiFunction")], returnType := some .int }, accessFlags := 9, code := some k5c1 }
/-- jdk/internal/util/Preconditions -/
def k5 : Class := { plain "jdk/internal/util/Preconditions" (some 0) with
  accessFlags := 33
  interfaces := #[]
  cf := some (fileOf pool5 24 #[.nestMembers #[55, 131, 125, 114]] #[{ accessFlags := 1, nameIndex := 5, descriptorIndex := 6, attributes := #[] }, { accessFlags := 9, nameIndex := 49, descriptorIndex := 183, attributes := #[] }] 33 2 #[] #[{ accessFlags := 25, nameIndex := 123, descriptorIndex := 124, attributes := #[] }, { accessFlags := 25, nameIndex := 130, descriptorIndex := 124, attributes := #[] }, { accessFlags := 25, nameIndex := 136, descriptorIndex := 124, attributes := #[] }])
  fields := #[{ name := "SIOOBE_FORMATTER", type := (.object "java/util/function/BiFunction"), accessFlags := 25, slot := 0, constantValue := 0 }, { name := "AIOOBE_FORMATTER", type := (.object "java/util/function/BiFunction"), accessFlags := 25, slot := 1, constantValue := 0 }, { name := "IOOBE_FORMATTER", type := (.object "java/util/function/BiFunction"), accessFlags := 25, slot := 2, constantValue := 0 }]
  methods := #[k5m0, k5m1]
  instanceTypes := #[]
  staticTypes := #[(.object "java/util/function/BiFunction"), (.object "java/util/function/BiFunction"), (.object "java/util/function/BiFunction")]
  resolved := Array.replicate 194 none
  statics := none }

def pool6 : Array CpInfo := pool [(1, u "java/io/Serializable"), (0, .class_ 1), (0, u "java/lang/Object"), (0, .class_ 3)] 3

/-- java/io/Serializable -/
def k6 : Class := { plain "java/io/Serializable" (some 0) with
  accessFlags := 1537
  interfaces := #[]
  cf := some (fileOf pool6 2 #[] #[] 1537 4 #[] #[])
  fields := #[]
  methods := #[]
  instanceTypes := #[]
  staticTypes := #[]
  resolved := Array.replicate 8 none
  statics := none }

/-- the primitive byte -/
def k7 : Class := { plain "byte" none with kind := .primitive 'B', accessFlags := 0x411 }
/-- [B -/
def k8 : Class := { plain "[B" (some 0) with kind := .array 7 .byte, interfaces := #[3, 6], accessFlags := 1041 }

/-- the primitive int -/
def k9 : Class := { plain "int" none with kind := .primitive 'I', accessFlags := 0x411 }
/-- [I -/
def k10 : Class := { plain "[I" (some 0) with kind := .array 9 .int, interfaces := #[3, 6], accessFlags := 1041 }

def heap : Heap := #[]
def classes : Array Class := #[k0, k1, k2, k3, k4, k5, k6, k7, k8, k9, k10]
def interned : List (Array UInt16 × Addr) := []
def slotsUsed : Nat := 0
def theMethod : MethodId := ⟨1, 1⟩
def args0 : Array Value := #[.int 5, .int 6, .int 7]
def aboutOver (below : List Frame) : State where
  vm := { classes := classes, interned := interned.toArray }
  heap := heap
  slotsUsed := slotsUsed
  threads := #[{ frames := .invoking theMethod args0 :: below }]
def below0 : List Frame := [.native { method := ⟨0, 0⟩, args := #[] }]
def about1 : State := aboutOver below0
def p0 : Program := .bare "" "" ""
def e0 : Env := launch0.env 0 0 0
theorem w_frames : about1.frames = Frame.invoking theMethod args0 :: below0 := rfl
set_option maxRecDepth 65536 in
theorem w_args : argsFit about1.vm theMethod args0 = true := by decide +kernel
set_option maxRecDepth 65536 in
theorem w_heap : heapFits about1 = true := by decide +kernel
set_option maxRecDepth 65536 in
theorem w_runnable : about1.curStatus? = some .runnable := by decide +kernel
set_option maxRecDepth 65536 in
theorem w_alone : about1.alone = true := by decide +kernel
set_option maxRecDepth 65536 in
theorem w_named : about1.methodNamed? x = some theMethod := by decide +kernel
set_option maxRecDepth 65536 in
theorem w_hears : about1.hears theMethod below0 = true := by decide +kernel
set_option maxRecDepth 65536 in
theorem w_ripe : about1.ripe theMethod args0 below0 = true := by decide +kernel
theorem w_running : about1.status = .running := rfl
set_option maxRecDepth 65536 in
theorem w_room : about1.hasRoom e0.platform room_1 = true :=
  launch0.hasRoom_least _ room_1 (by decide +kernel) (by decide +kernel) (by decide +kernel) (by decide +kernel) (by decide +kernel) (by decide +kernel)
theorem allAtoms_all (ts : List Jvm.Cond) (a : Array Jvm.Value) (st : Jvm.State) : (allAtoms ts).before a st = ts.all (fun c => c.before a st) := by
  induction ts with
  | nil => rfl
  | cons c t ih =>
    show (Jvm.Cond.and c (allAtoms t)).before a st = _
    rw [Jvm.Cond.before_and, ih, List.all_cons]
def words1 : List Jvm.Cond := Jvm.Cond.code x code maxLocals ret :: tables_1
/-- a 'code' word, met by the world's own term for the bytes: nothing is compared byte by byte -/
theorem code_word {y : MethodName} {bytes : ByteArray} {mx : Nat} {rt : Option FieldType} {a : Array Value} {s : State} {m : MethodId} {meth : Method} {c : Code} (h1 : s.methodNamed? y = some m) (h2 : s.vm.method? m = some meth) (h3 : meth.code = some c) (h4 : c.code = bytes)
    (h5 : (c.maxLocals == mx && c.exceptionTable.isEmpty && decide (c.maxStack ≤ mostOperands) && decide (meth.sig.returnType = rt) && !meth.locks && decide (parseMethodDescriptor y.desc = some meth.sig)) = true) : (Jvm.Cond.code y bytes mx rt).before a s = true := by
  simp only [Bool.and_eq_true, beq_iff_eq, Bool.not_eq_true', decide_eq_true_eq] at h5
  obtain ⟨⟨⟨⟨⟨g1, g2⟩, g3⟩, g4⟩, g5⟩, g6⟩ := h5
  simp [Cond.before, Cond.holds, Cond.value, h1, h2, h3, h4, g1, g2, g3, g4, g5, g6]
def isCode : Jvm.Cond → Bool
  | .code _ _ _ _ => true
  | _ => false
theorem all_split {L : List Jvm.Cond} {P : Jvm.Cond → Bool} (h1 : L.all (fun c => isCode c || P c) = true) (h2 : ∀ c ∈ L.filter isCode, P c = true) : L.all P = true := by
  refine List.all_eq_true.mpr fun c hc => ?_
  have h := List.all_eq_true.mp h1 c hc
  rcases Bool.eq_false_or_eq_true (isCode c) with hi | hi
  · exact h2 c (List.mem_filter.mpr ⟨hc, hi⟩)
  · simpa [hi] using h
set_option maxRecDepth 65536 in
theorem w_c0 : (Jvm.Cond.code x code maxLocals ret).before args0 about1 = true := code_word (m := ⟨1, 1⟩) (meth := k1m1) (c := k1c1) (by decide +kernel) rfl rfl rfl (by decide +kernel)
set_option maxRecDepth 65536 in
theorem w_c1 : (Jvm.Cond.code ({ cls := "com/example/cipherloom/cipherloom/core/AsciiTable", name := "<init>", desc := "([B)V" } : Jvm.MethodName) prog_32_method_1_code (2 : Nat) (Option.none : Option Jvm.ClassFile.FieldType)).before args0 about1 = true := code_word (m := ⟨2, 0⟩) (meth := k2m0) (c := k2c0) (by decide +kernel) rfl rfl rfl (by decide +kernel)
set_option maxRecDepth 65536 in
theorem w_c2 : (Jvm.Cond.code ({ cls := "java/lang/Object", name := "<init>", desc := "()V" } : Jvm.MethodName) object_method_1_code (1 : Nat) (Option.none : Option Jvm.ClassFile.FieldType)).before args0 about1 = true := code_word (m := ⟨0, 0⟩) (meth := k0m0) (c := k0c0) (by decide +kernel) rfl rfl rfl (by decide +kernel)
set_option maxRecDepth 65536 in
theorem w_c3 : (Jvm.Cond.code ({ cls := "com/example/cipherloom/cipherloom/core/AsciiTable", name := "transform", desc := "([BII)I" } : Jvm.MethodName) prog_32_method_2_code (4 : Nat) (Option.some Jvm.ClassFile.FieldType.int)).before args0 about1 = true := code_word (m := ⟨2, 1⟩) (meth := k2m1) (c := k2c1) (by decide +kernel) rfl rfl rfl (by decide +kernel)
set_option maxRecDepth 65536 in
theorem w_c4 : (Jvm.Cond.code ({ cls := "java/util/Objects", name := "checkFromIndexSize", desc := "(III)I" } : Jvm.MethodName) jdk_31_method_19_code (3 : Nat) (Option.some Jvm.ClassFile.FieldType.int)).before args0 about1 = true := code_word (m := ⟨4, 1⟩) (meth := k4m1) (c := k4c1) (by decide +kernel) rfl rfl rfl (by decide +kernel)
set_option maxRecDepth 65536 in
theorem w_c5 : (Jvm.Cond.code ({ cls := "jdk/internal/util/Preconditions", name := "checkFromIndexSize", desc := "(IIILjava/util/function/BiFunction;)I" } : Jvm.MethodName) jdk_41_method_13_code (4 : Nat) (Option.some Jvm.ClassFile.FieldType.int)).before args0 about1 = true := code_word (m := ⟨5, 1⟩) (meth := k5m1) (c := k5c1) (by decide +kernel) rfl rfl rfl (by decide +kernel)
set_option maxRecDepth 65536 in
theorem w_c6 : (Jvm.Cond.code ({ cls := "com/example/cipherloom/cipherloom/core/AsciiTable", name := "transform", desc := "([B[BII)I" } : Jvm.MethodName) prog_32_method_3_code (6 : Nat) (Option.some Jvm.ClassFile.FieldType.int)).before args0 about1 = true := code_word (m := ⟨2, 2⟩) (meth := k2m2) (c := k2c2) (by decide +kernel) rfl rfl rfl (by decide +kernel)
set_option maxRecDepth 65536 in
theorem w_c7 : (Jvm.Cond.code ({ cls := "com/example/cipherloom/cipherloom/core/AsciiTableTransformPinLaw", name := "expect", desc := "([BBIII)B" } : Jvm.MethodName) method_3_code (5 : Nat) (Option.some Jvm.ClassFile.FieldType.byte)).before args0 about1 = true := code_word (m := ⟨1, 2⟩) (meth := k1m2) (c := k1c2) (by decide +kernel) rfl rfl rfl (by decide +kernel)
def codes1 : List Jvm.Cond := [Jvm.Cond.code x code maxLocals ret, Jvm.Cond.code ({ cls := "com/example/cipherloom/cipherloom/core/AsciiTable", name := "<init>", desc := "([B)V" } : Jvm.MethodName) prog_32_method_1_code (2 : Nat) (Option.none : Option Jvm.ClassFile.FieldType), Jvm.Cond.code ({ cls := "java/lang/Object", name := "<init>", desc := "()V" } : Jvm.MethodName) object_method_1_code (1 : Nat) (Option.none : Option Jvm.ClassFile.FieldType), Jvm.Cond.code ({ cls := "com/example/cipherloom/cipherloom/core/AsciiTable", name := "transform", desc := "([BII)I" } : Jvm.MethodName) prog_32_method_2_code (4 : Nat) (Option.some Jvm.ClassFile.FieldType.int), Jvm.Cond.code ({ cls := "java/util/Objects", name := "checkFromIndexSize", desc := "(III)I" } : Jvm.MethodName) jdk_31_method_19_code (3 : Nat) (Option.some Jvm.ClassFile.FieldType.int), Jvm.Cond.code ({ cls := "jdk/internal/util/Preconditions", name := "checkFromIndexSize", desc := "(IIILjava/util/function/BiFunction;)I" } : Jvm.MethodName) jdk_41_method_13_code (4 : Nat) (Option.some Jvm.ClassFile.FieldType.int), Jvm.Cond.code ({ cls := "com/example/cipherloom/cipherloom/core/AsciiTable", name := "transform", desc := "([B[BII)I" } : Jvm.MethodName) prog_32_method_3_code (6 : Nat) (Option.some Jvm.ClassFile.FieldType.int), Jvm.Cond.code ({ cls := "com/example/cipherloom/cipherloom/core/AsciiTableTransformPinLaw", name := "expect", desc := "([BBIII)B" } : Jvm.MethodName) method_3_code (5 : Nat) (Option.some Jvm.ClassFile.FieldType.byte)]
set_option maxRecDepth 65536 in
theorem codes_eq : words1.filter isCode = codes1 := rfl
theorem w_codes : ∀ c ∈ words1.filter isCode, c.before args0 about1 = true := by
  rw [codes_eq]
  intro c hc
  simp only [codes1, List.mem_cons, List.not_mem_nil, or_false] at hc
  rcases hc with rfl | rfl | rfl | rfl | rfl | rfl | rfl | rfl
  · exact w_c0
  · exact w_c1
  · exact w_c2
  · exact w_c3
  · exact w_c4
  · exact w_c5
  · exact w_c6
  · exact w_c7
set_option maxRecDepth 65536 in
theorem w_t1 : (words1.take 24).all (fun c => isCode c || c.before args0 about1) = true := by decide +kernel
set_option maxRecDepth 65536 in
theorem w_t2 : (words1.drop 24).all (fun c => isCode c || c.before args0 about1) = true := by decide +kernel
theorem w_tables : (allAtoms (Jvm.Cond.code x code maxLocals ret :: tables_1)).before args0 about1 = true := by
  rw [allAtoms_all]
  show words1.all (fun c => c.before args0 about1) = true
  refine all_split ?_ w_codes
  rw [← List.take_append_drop 24 words1, List.all_append, w_t1, w_t2]
  rfl
set_option maxRecDepth 65536 in
theorem w_case : (Jvm.Cond.and given_1 narrow_1).before args0 about1 = true := by decide +kernel
theorem w_applies : (headSpec (Jvm.Cond.code x code maxLocals ret :: tables_1) room_1).applies x e0.platform about1 = true :=
  (Spec.applies_iff w_frames).mpr ⟨w_running, w_runnable, w_alone, w_named, w_hears, w_ripe, w_room, w_tables⟩
theorem atStart : AtStart classFile x code maxLocals ret World_1 tables_1 room_1 Calls_1 rest_1 Pre_1 launch0 p0 e0 about1 theMethod args0 below0 :=
  ⟨lists_1, trivial, launch0.admits_env _ _ _, launch0.least_env, fairChoices_fair.cas, fairChoices_fair.clock, w_frames, w_args, w_heap, w_applies, trivial, trivial, w_case⟩
end start1
theorem witness_1 : WitnessClaimed_1 := ⟨start1.p0, start1.e0, start1.about1, start1.theMethod, start1.args0, start1.below0, start1.atStart⟩
end Jvm.Pilot.@@N@@
