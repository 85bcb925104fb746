import JvmDerived
import JvmDerived.Pilot.@@N@@Statement
import JvmDerived.Pilot.@@N@@Code
set_option linter.unusedVariables false
set_option linter.unusedSimpArgs false
namespace Jvm.RoadKit
open Sem ClassFile Op Lib Jvm.Stand Jvm.Free Jvm.LawKit
section New
variable {p : Program} {l : Launch} {e : Env} {R : Room} {s : State} {m : MethodId} {args : Array Value} {below : List Frame} {meth : Method} {c : Code} {T : State} {locs : List Loc} {cells slots : Nat}
theorem retI (X : Stand p l e R s m args below meth c T locs cells slots) (hx : p.tables.exec = Jvm.exec) {pc : Nat} {Ls : Array Slot} {z : Int32} {rest : List Value} (hret : meth.sig.returnType = some .int) (hd : decode c.code pc = .ok (.ireturn, 1)) {fs : List Frame}
    (hl : ∀ (f : JFrame) (acts : List Action), f.method = m → f.locked = none → f.entered = [] → (doReturn e (T.setTop f) acts (some (.int z))).1 = T.setFrames fs) : Steps p.tables e below (T.setTop (mkF m pc Ls (.int z :: rest))) (T.setFrames fs) := by
  have hm' : T.vm.method? m = some meth := X.method'
  have hn : narrow .int (.int z) = .int z := rfl
  show Steps p.tables e below (T.setTop { method := m, pc := pc, locals := Ls, stack := _ :: rest, locked := none }) _
  jvm_step X.here [X.here.top, hx, hd, hm', hret, hn]
  first | (intro acts; rw [hl _ acts rfl rfl rfl]) | rw [hl _ _ rfl rfl rfl]
  exact Steps.refl _
end New
end Jvm.RoadKit
namespace Jvm.Pilot.@@N@@
open Jvm Jvm.ClassFile Sem Op Lib Jvm.Free Jvm.Stand Jvm.LawKit Jvm.RoadKit Bundle Jvm.Pilot.@@N@@.Jvm.D
theorem own_le {a b : Nat} (h : a = b) : 2 * 0 + a ≤ b := by omega
theorem own_m (i : Nat) {d : Jvm.Cond} (h : tables_1[i]? = some d) : d ∈ tables_1 := List.mem_of_getElem? h
/-- from the state T at the frame g the method comes to its return, with Q of what it returns -/
def own_Goes (tb : Tables) (e : Env) (below : List Frame) (s : State) (Q : Option Value → Heap → List Loc → Prop) (rc rs : Nat) (T : State) (g : JFrame) : Prop :=
  ∃ s₂ o, Steps tb e below (T.setTop g) s₂ ∧ s₂.status = .running ∧ Ended s₂ below o ∧ ∃ v L, o = .returned v ∧ Q v s₂.heap L ∧ FrameEnd s o s₂ L rc rs
theorem own_by {tb : Tables} {e : Env} {below : List Frame} {s : State} {Q : Option Value → Heap → List Loc → Prop} {rc rs : Nat} {T T' : State} {g g' : JFrame} (h : ∀ t, Steps tb e below (T'.setTop g') t → Steps tb e below (T.setTop g) t) (k : own_Goes tb e below s Q rc rs T' g') : own_Goes tb e below s Q rc rs T g := by
  obtain ⟨s₂, o, h1, h2⟩ := k
  exact ⟨s₂, o, h _ h1, h2⟩
section OwnRet
variable {p : Program} {l : Launch} {e : Env} {R : Room} {s : State} {m : MethodId} {args : Array Value} {below : List Frame} {meth : Method} {c : Code} {T : State} {locs : List Loc} {cells slots : Nat} {Q : Option Value → Heap → List Loc → Prop} {rc rs : Nat} {pc : Nat} {Ls : Array Slot} {rest : List Value}
theorem own_retI (X : Stand p l e R s m args below meth c T locs cells slots) (hx : p.tables.exec = Jvm.exec) {z : Int32} (hlk : meth.locks = false) (hret : meth.sig.returnType = some .int) (hd : decode c.code pc = .ok (.ireturn, 1)) (hc : cells ≤ rc) (hs : slots ≤ rs)
    (hQ : Q (some (.int z)) T.heap locs) : own_Goes p.tables e below s Q rc rs T (mkF m pc Ls (.int z :: rest)) := by
  obtain ⟨fs, hr, hrun, hended, hW, hsame⟩ := X.leave (v := some (.int z)) (fun h => by rw [hret] at h; cases h)
  exact ⟨_, _, retI X hx hret hd hr, hrun, hended, _, _, rfl, hQ, ⟨_, rfl⟩, hW, hsame.mono hc hs⟩
theorem own_retN (X : Stand p l e R s m args below meth c T locs cells slots) (hx : p.tables.exec = Jvm.exec) {z : Int32} {t : FieldType} (hlk : meth.locks = false) (hret : meth.sig.returnType = some t) (ht : t = .boolean ∨ t = .byte ∨ t = .char ∨ t = .short) (hd : decode c.code pc = .ok (.ireturn, 1)) (hc : cells ≤ rc) (hs : slots ≤ rs)
    (hQ : Q (some (.int (nar t z))) T.heap locs) : own_Goes p.tables e below s Q rc rs T (mkF m pc Ls (.int z :: rest)) := by
  obtain ⟨fs, hr, hrun, hended, hW, hsame⟩ := X.leave (v := some (.int (nar t z))) (fun h => by rw [hret] at h; cases h)
  exact ⟨_, _, retN X hx hret ht hd hr, hrun, hended, _, _, rfl, hQ, ⟨_, rfl⟩, hW, hsame.mono hc hs⟩
theorem own_retV (X : Stand p l e R s m args below meth c T locs cells slots) (hx : p.tables.exec = Jvm.exec) (hlk : meth.locks = false) (hret : meth.sig.returnType = none) (hd : decode c.code pc = .ok (.return_, 1)) (hc : cells ≤ rc) (hs : slots ≤ rs)
    (hQ : Q none T.heap locs) : own_Goes p.tables e below s Q rc rs T (mkF m pc Ls []) := by
  obtain ⟨fs, hr, hrun, hended, hW, hsame⟩ := X.leave (v := none) (fun _ => rfl)
  exact ⟨_, _, X.returnOut hx hret hd hr, hrun, hended, _, _, rfl, hQ, ⟨_, rfl⟩, hW, hsame.mono hc hs⟩
theorem own_retJ (X : Stand p l e R s m args below meth c T locs cells slots) (hx : p.tables.exec = Jvm.exec) {z : Int64} (hlk : meth.locks = false) (hret : meth.sig.returnType = some .long) (hd : decode c.code pc = .ok (.lreturn, 1)) (hc : cells ≤ rc) (hs : slots ≤ rs)
    (hQ : Q (some (.long z)) T.heap locs) : own_Goes p.tables e below s Q rc rs T (mkF m pc Ls (.long z :: rest)) := by
  obtain ⟨fs, hr, hrun, hended, hW, hsame⟩ := X.leave (v := some (.long z)) (fun h => by rw [hret] at h; cases h)
  exact ⟨_, _, retOut X hx hret rfl (Or.inr (Or.inl ⟨rfl, rfl, _, rfl⟩)) hd hr, hrun, hended, _, _, rfl, hQ, ⟨_, rfl⟩, hW, hsame.mono hc hs⟩
theorem own_retA (X : Stand p l e R s m args below meth c T locs cells slots) (hx : p.tables.exec = Jvm.exec) {w : Value} {t : FieldType} (hlk : meth.locks = false) (hret : meth.sig.returnType = some t) (ht : t.isReference = true) (hw : w.isRef = true) (hn : narrow t w = w) (hd : decode c.code pc = .ok (.areturn, 1)) (hc : cells ≤ rc) (hs : slots ≤ rs)
    (hQ : Q (some w) T.heap locs) : own_Goes p.tables e below s Q rc rs T (mkF m pc Ls (w :: rest)) := by
  obtain ⟨fs, hr, hrun, hended, hW, hsame⟩ := X.leave (v := some w) (fun h => by rw [hret] at h; cases h)
  exact ⟨_, _, retOut X hx hret hn (Or.inr (Or.inr (Or.inr (Or.inr ⟨rfl, ht, hw⟩)))) hd hr, hrun, hended, _, _, rfl, hQ, ⟨_, rfl⟩, hW, hsame.mono hc hs⟩
end OwnRet
theorem own_nsE {Z : State} {h : Heap} {a : Addr} {C : String} (E : Exa Z h a C) : ∃ c : Cell, h[a]? = some c ∧ c.vm.isStatics = false := by
  obtain ⟨c, k, h1, -, -, h4, -⟩ := E
  exact ⟨c, h1, h4⟩
theorem own_nsV {Z : State} {h : Heap} {a : Addr} {k : ClassId} {ty : FieldType} {n : Int32} {vs : List Value} {d : Value} (F : Arv Z h a k ty n vs d) : ∃ c : Cell, h[a]? = some c ∧ c.vm.isStatics = false := by
  obtain ⟨c, A, -⟩ := F
  exact ⟨c, A.1, A.plain⟩
theorem own_staKeep {Z : State} {h h' : Heap} {C n d : String} {v : Value} {ws : List Addr} (S : Sta Z h C n d v) (K : Keep h h' ws) (q : ∀ x ∈ ws, ∃ c : Cell, h[x]? = some c ∧ c.vm.isStatics = false) : Sta Z h' C n d v := by
  obtain ⟨cf, i, k, f, st, cell, h1, h2, h3, h4, h5, h6, h7⟩ := S
  refine ⟨cf, i, k, f, st, cell, h1, h2, h3, h4, K.2.1 st cell h5 (fun hin => ?_), h6, h7⟩
  obtain ⟨c, hc, hs⟩ := q st hin
  rw [h5] at hc
  cases hc
  rw [h6] at hs
  cases hs
theorem own_arrKeep {Z : State} {h h' : Heap} {a : Addr} {c : Cell} {ty : FieldType} {ws : List Addr} (A : Arr Z h a c ty) (K : Keep h h' ws) (q : a ∉ ws) : Arr Z h' a c ty := ⟨K.2.1 a c A.1 q, A.2⟩
def own_pk (j t a b : Int32) : Int32 := if j = t then a else b
def own_at (j a b c : Int32) : Int32 := if j = 0 then a else if j = 1 then b else c
def own_e0 (x : Int32) : Int32 := nar .byte (((x.toUInt32 >>> ((0 : Int32) &&& 31).toUInt32).toInt32).toInt8.toInt32)
def own_e1 (x : Int32) : Int32 := nar .byte (((x.toUInt32 >>> ((8 : Int32) &&& 31).toUInt32).toInt32).toInt8.toInt32)
def own_e2 (x : Int32) : Int32 := nar .byte (((x.toUInt32 >>> ((16 : Int32) &&& 31).toUInt32).toInt32).toInt8.toInt32)
def own_g1 (a : Int32) : Int32 := (((0 : Int32) <<< ((8 : Int32) &&& 31)) ||| (a &&& (255 : Int32)))
def own_g2 (a b : Int32) : Int32 := ((own_g1 b <<< ((8 : Int32) &&& 31)) ||| (a &&& (255 : Int32)))
def own_g3 (a b c : Int32) : Int32 := ((own_g2 b c <<< ((8 : Int32) &&& 31)) ||| (a &&& (255 : Int32)))
theorem own_ush0 (x : Int32) : ((x.toUInt32 >>> ((0 : Int32) &&& 31).toUInt32).toInt32) = x := by
  have h : ((0 : Int32) &&& 31).toUInt32 = 0 := by decide
  rw [h]
  apply Int32.toBitVec_inj.mp
  simp
theorem own_z {x : Int32} (h : x.toInt = 0) : x = 0 := Int32.toInt_inj.mp h
theorem own_nz {x : Int32} (h : x.toInt ≠ 0) : ¬ x = 0 := fun q => h (by rw [q]; rfl)
theorem own_low (x : Int32) : ((nar .byte (x.toInt8.toInt32)) &&& (255 : Int32)).toInt = x.toInt % 256 := by
  have h0 : nar .byte (x.toInt8.toInt32) = x.toInt8.toInt32.toInt8.toInt32 := rfl
  rw [h0]
  have h1 := c_i2b x
  have h2 := c_i2b x.toInt8.toInt32
  have h3 := c_mask (x.toInt8.toInt32.toInt8.toInt32) 255 8 (by decide) (by decide)
  omega
theorem own_step (r m : Int32) (h1 : 0 ≤ r.toInt) (h2 : r.toInt < 65536) (h3 : 0 ≤ m.toInt) (h4 : m.toInt < 256) : ((r <<< ((8 : Int32) &&& 31)) ||| m).toInt = r.toInt * 256 + m.toInt := by
  have a1 := c_ishl r 8 8 (by decide)
  have a2 := rng32 (r <<< ((8 : Int32) &&& 31))
  have a3 := c_or (r <<< ((8 : Int32) &&& 31)) m 8 (by decide) 256 (by decide) (by omega) h3 h4
  have a4 := rng32 ((r <<< ((8 : Int32) &&& 31)) ||| m)
  omega
theorem own_l0 (v : Int32) : (own_e0 v &&& (255 : Int32)).toInt = v.toInt % 256 := by
  have h := own_low ((v.toUInt32 >>> ((0 : Int32) &&& 31).toUInt32).toInt32)
  rw [own_ush0] at h
  unfold own_e0
  rw [own_ush0]
  exact h
theorem own_l1 (v : Int32) : (own_e1 v &&& (255 : Int32)).toInt = ((v.toInt % 4294967296) / 256) % 256 := by
  have h := own_low ((v.toUInt32 >>> ((8 : Int32) &&& 31).toUInt32).toInt32)
  have u := c_iushr v 8 8 (by decide) (by decide)
  unfold own_e1
  omega
theorem own_l2 (v : Int32) : (own_e2 v &&& (255 : Int32)).toInt = ((v.toInt % 4294967296) / 65536) % 256 := by
  have h := own_low ((v.toUInt32 >>> ((16 : Int32) &&& 31).toUInt32).toInt32)
  have u := c_iushr v 16 16 (by decide) (by decide)
  unfold own_e2
  omega
theorem own_t1 (a : Int32) : (own_g1 a).toInt = (a &&& (255 : Int32)).toInt := by
  have z0 : (0 : Int32).toInt = 0 := by decide
  have m := c_mask a 255 8 (by decide) (by decide)
  have s := own_step 0 (a &&& (255 : Int32)) (by omega) (by omega) (by omega) (by omega)
  unfold own_g1
  omega
theorem own_t2 (a b : Int32) : (own_g2 a b).toInt = (b &&& (255 : Int32)).toInt * 256 + (a &&& (255 : Int32)).toInt := by
  have m := c_mask a 255 8 (by decide) (by decide)
  have m2 := c_mask b 255 8 (by decide) (by decide)
  have t := own_t1 b
  have s := own_step (own_g1 b) (a &&& (255 : Int32)) (by omega) (by omega) (by omega) (by omega)
  unfold own_g2
  omega
theorem own_t3 (a b c : Int32) : (own_g3 a b c).toInt = ((c &&& (255 : Int32)).toInt * 256 + (b &&& (255 : Int32)).toInt) * 256 + (a &&& (255 : Int32)).toInt := by
  have m := c_mask a 255 8 (by decide) (by decide)
  have m2 := c_mask b 255 8 (by decide) (by decide)
  have m3 := c_mask c 255 8 (by decide) (by decide)
  have t := own_t2 b c
  have s := own_step (own_g2 b c) (a &&& (255 : Int32)) (by omega) (by omega) (by omega) (by omega)
  unfold own_g3
  omega
theorem own_back1 (v : Int32) (h0 : 0 ≤ v.toInt) (h1 : v.toInt < 256) : own_g1 (own_e0 v) = v := by
  apply Int32.toInt_inj.mp
  rw [own_t1, own_l0]
  omega
theorem own_back2 (v : Int32) (h0 : 0 ≤ v.toInt) (h1 : v.toInt < 65536) : own_g2 (own_e0 v) (own_e1 v) = v := by
  apply Int32.toInt_inj.mp
  rw [own_t2, own_l0, own_l1]
  omega
theorem own_back3 (v : Int32) (h0 : 0 ≤ v.toInt) (h1 : v.toInt < 16777216) : own_g3 (own_e0 v) (own_e1 v) (own_e2 v) = v := by
  apply Int32.toInt_inj.mp
  rw [own_t3, own_l0, own_l1, own_l2]
  omega
theorem own_ez0 : own_e0 0 = 0 := by decide
theorem own_ez1 : own_e1 0 = 0 := by decide
theorem own_ez2 : own_e2 0 = 0 := by decide
theorem own_gz1 : own_g1 0 = 0 := by decide
theorem own_gz2 : own_g2 0 0 = 0 := by decide
theorem own_gz3 : own_g3 0 0 0 = 0 := by decide
theorem own_v (x b : Int32) (hb : 0 < b.toInt) : 0 ≤ ((x &&& (2147483647 : Int32)) % b).toInt ∧ ((x &&& (2147483647 : Int32)) % b).toInt < b.toInt := by
  have h1 := c_mask x 2147483647 31 (by decide) (by decide)
  have h2 := (c_iremV (x &&& (2147483647 : Int32)) b).1 (by omega) hb
  exact ⟨h2.1, h2.2.1⟩
theorem own_rem3 (x : Int32) : (x &&& (2147483647 : Int32)) % (3 : Int32) = 0 ∨ (x &&& (2147483647 : Int32)) % (3 : Int32) = 1 ∨ (x &&& (2147483647 : Int32)) % (3 : Int32) = 2 := by
  have h1 := c_mask x 2147483647 31 (by decide) (by decide)
  have h2 := (c_irem (x &&& (2147483647 : Int32)) 3 3 (by decide)).1 (by omega)
  generalize (x &&& (2147483647 : Int32)) % (3 : Int32) = k at *
  have h3 : k.toInt = 0 ∨ k.toInt = 1 ∨ k.toInt = 2 := by omega
  rcases h3 with h | h | h
  · exact Or.inl (Int32.toInt_inj.mp h)
  · exact Or.inr (Or.inl (Int32.toInt_inj.mp h))
  · exact Or.inr (Or.inr (Int32.toInt_inj.mp h))
/-- how many planes a bound wants -/
theorem own_planes (p : Int32) (h0 : 0 ≤ (p - (1 : Int32)).toInt) (h1 : (p - (1 : Int32)).toInt < 16777216) : ((((p - (1 : Int32)).toUInt32 >>> ((8 : Int32) &&& 31).toUInt32).toInt32) = 0 ∧ (p - (1 : Int32)).toInt < 256) ∨ (¬ (((p - (1 : Int32)).toUInt32 >>> ((8 : Int32) &&& 31).toUInt32).toInt32) = 0 ∧ (((p - (1 : Int32)).toUInt32 >>> ((16 : Int32) &&& 31).toUInt32).toInt32) = 0 ∧ (p - (1 : Int32)).toInt < 65536) ∨ (¬ (((p - (1 : Int32)).toUInt32 >>> ((8 : Int32) &&& 31).toUInt32).toInt32) = 0 ∧ ¬ (((p - (1 : Int32)).toUInt32 >>> ((16 : Int32) &&& 31).toUInt32).toInt32) = 0 ∧ (((p - (1 : Int32)).toUInt32 >>> ((24 : Int32) &&& 31).toUInt32).toInt32) = 0 ∧ (p - (1 : Int32)).toInt < 16777216) := by
  have a1 := c_iushr (p - (1 : Int32)) 8 8 (by decide) (by decide)
  have a2 := c_iushr (p - (1 : Int32)) 16 16 (by decide) (by decide)
  have a3 := c_iushr (p - (1 : Int32)) 24 24 (by decide) (by decide)
  by_cases c1 : (p - (1 : Int32)).toInt < 256
  · exact Or.inl ⟨own_z (by omega), c1⟩
  · by_cases c2 : (p - (1 : Int32)).toInt < 65536
    · exact Or.inr (Or.inl ⟨own_nz (by omega), own_z (by omega), c2⟩)
    · exact Or.inr (Or.inr ⟨own_nz (by omega), own_nz (by omega), own_z (by omega), h1⟩)
theorem own_pl (b : Int32) : 0 ≤ (((b &&& (16777215 : Int32)) + (1 : Int32)) - (1 : Int32)).toInt ∧ (((b &&& (16777215 : Int32)) + (1 : Int32)) - (1 : Int32)).toInt < 16777216 ∧ ((b &&& (16777215 : Int32)) + (1 : Int32)).toInt = (((b &&& (16777215 : Int32)) + (1 : Int32)) - (1 : Int32)).toInt + 1 := by
  have h1 := c_mask b 16777215 24 (by decide) (by decide)
  have h2 := c_iadd (b &&& (16777215 : Int32)) 1
  have r1 := rng32 ((b &&& (16777215 : Int32)) + (1 : Int32))
  have h3 := c_isub ((b &&& (16777215 : Int32)) + (1 : Int32)) 1
  have r2 := rng32 (((b &&& (16777215 : Int32)) + (1 : Int32)) - (1 : Int32))
  have e1 : (1 : Int32).toInt = 1 := by decide
  rw [e1] at h2 h3
  omega
theorem own_idx (p q : Int32) : ∃ i j k : Int32, (p &&& (2147483647 : Int32)) % (3 : Int32) = i ∧ ((i + (1 : Int32)) + (q &&& (1 : Int32))) % (3 : Int32) = j ∧ ((3 : Int32) - i) - j = k ∧ ((i = 0 ∧ j = 1 ∧ k = 2) ∨ (i = 0 ∧ j = 2 ∧ k = 1) ∨ (i = 1 ∧ j = 2 ∧ k = 0) ∨ (i = 1 ∧ j = 0 ∧ k = 2) ∨ (i = 2 ∧ j = 0 ∧ k = 1) ∨ (i = 2 ∧ j = 1 ∧ k = 0)) := by
  refine ⟨_, _, _, rfl, rfl, rfl, ?_⟩
  rcases own_rem3 p with h | h | h <;> rcases and_one q with g | g <;> rw [h, g] <;> decide
theorem own_pick {i j k a b : Int32} (h : (i = 0 ∧ j = 1 ∧ k = 2) ∨ (i = 0 ∧ j = 2 ∧ k = 1) ∨ (i = 1 ∧ j = 2 ∧ k = 0) ∨ (i = 1 ∧ j = 0 ∧ k = 2) ∨ (i = 2 ∧ j = 0 ∧ k = 1) ∨ (i = 2 ∧ j = 1 ∧ k = 0)) : own_at i (own_pk j 0 b (own_pk i 0 a 0)) (own_pk j 1 b (own_pk i 1 a 0)) (own_pk j 2 b (own_pk i 2 a 0)) = a ∧ own_at j (own_pk j 0 b (own_pk i 0 a 0)) (own_pk j 1 b (own_pk i 1 a 0)) (own_pk j 2 b (own_pk i 2 a 0)) = b ∧ own_at k (own_pk j 0 b (own_pk i 0 a 0)) (own_pk j 1 b (own_pk i 1 a 0)) (own_pk j 2 b (own_pk i 2 a 0)) = 0 := by
  rcases h with ⟨rfl, rfl, rfl⟩ | ⟨rfl, rfl, rfl⟩ | ⟨rfl, rfl, rfl⟩ | ⟨rfl, rfl, rfl⟩ | ⟨rfl, rfl, rfl⟩ | ⟨rfl, rfl, rfl⟩ <;> exact ⟨rfl, rfl, rfl⟩
theorem own_three {i j k : Int32} (h : (i = 0 ∧ j = 1 ∧ k = 2) ∨ (i = 0 ∧ j = 2 ∧ k = 1) ∨ (i = 1 ∧ j = 2 ∧ k = 0) ∨ (i = 1 ∧ j = 0 ∧ k = 2) ∨ (i = 2 ∧ j = 0 ∧ k = 1) ∨ (i = 2 ∧ j = 1 ∧ k = 0)) : (i = 0 ∨ i = 1 ∨ i = 2) ∧ (j = 0 ∨ j = 1 ∨ j = 2) ∧ (k = 0 ∨ k = 1 ∨ k = 2) := by
  rcases h with ⟨rfl, rfl, rfl⟩ | ⟨rfl, rfl, rfl⟩ | ⟨rfl, rfl, rfl⟩ | ⟨rfl, rfl, rfl⟩ | ⟨rfl, rfl, rfl⟩ | ⟨rfl, rfl, rfl⟩ <;> decide

theorem pn_com_example_cipherloom_cipherloom_core_Letters : plainName "com/example/cipherloom/cipherloom/core/Letters" = true := by first | (simp [plainName, overriddenIn]; done) | decide +kernel
theorem ef_1P1 (m : MethodId) (ob : Addr) (pp : Int32) : entryFrame m #[(.ref ob), (.long 3), (.int pp)] 5 = mkF m 0 #[.val (.ref ob), .val (.long 3), .second, .val (.int pp), .unset] [] := by first | (simp [entryFrame, mkF, argsToLocals, Value.category]; done) | rfl
theorem d1_0 : decode prog_45_method_1_code 0 = .ok (.aload_n 0, 1) := by decide +kernel
theorem d1_1 : decode prog_45_method_1_code 1 = .ok (.invokespecial 3, 3) := by decide +kernel
theorem d1_4 : decode prog_45_method_1_code 4 = .ok (.lload_n 1, 1) := by decide +kernel
theorem d1_5 : decode prog_45_method_1_code 5 = .ok (.ldc2_w 11, 3) := by decide +kernel
theorem d1_8 : decode prog_45_method_1_code 8 = .ok (.lcmp, 1) := by decide +kernel
theorem d1_9 : decode prog_45_method_1_code 9 = .ok (.ifCond .le 13, 3) := by decide +kernel
theorem d1_22 : decode prog_45_method_1_code 22 = .ok (.iconst 1, 1) := by decide +kernel
theorem d1_23 : decode prog_45_method_1_code 23 = .ok (.istore 4, 2) := by decide +kernel
theorem d1_25 : decode prog_45_method_1_code 25 = .ok (.iload_n 3, 1) := by decide +kernel
theorem d1_26 : decode prog_45_method_1_code 26 = .ok (.iconst 1, 1) := by decide +kernel
theorem d1_27 : decode prog_45_method_1_code 27 = .ok (.isub, 1) := by decide +kernel
theorem d1_28 : decode prog_45_method_1_code 28 = .ok (.bipush 8, 2) := by decide +kernel
theorem d1_30 : decode prog_45_method_1_code 30 = .ok (.iload 4, 2) := by decide +kernel
theorem d1_32 : decode prog_45_method_1_code 32 = .ok (.imul, 1) := by decide +kernel
theorem d1_33 : decode prog_45_method_1_code 33 = .ok (.iushr, 1) := by decide +kernel
theorem d1_34 : decode prog_45_method_1_code 34 = .ok (.ifCond .eq 9, 3) := by decide +kernel
theorem d1_43 : decode prog_45_method_1_code 43 = .ok (.aload_n 0, 1) := by decide +kernel
theorem d1_44 : decode prog_45_method_1_code 44 = .ok (.iload 4, 2) := by decide +kernel
theorem d1_46 : decode prog_45_method_1_code 46 = .ok (.lload_n 1, 1) := by decide +kernel
theorem d1_47 : decode prog_45_method_1_code 47 = .ok (.l2i, 1) := by decide +kernel
theorem d1_48 : decode prog_45_method_1_code 48 = .ok (.multianewarray 22 2, 4) := by decide +kernel
theorem d1_52 : decode prog_45_method_1_code 52 = .ok (.putfield 24, 3) := by decide +kernel
theorem d1_55 : decode prog_45_method_1_code 55 = .ok (.return_, 1) := by decide +kernel
def Q1P1 (Z : State) (ob : Addr) (pp : Int32) (h0 : Heap) (n0 : Nat) (v : Option Value) (h : Heap) (L : List Loc) : Prop := ∃ (b y0 : Addr) (kb kc : ClassId), v = none ∧ Fr n0 L ∧ Keep h0 h [ob] ∧ Exa Z h ob "com/example/cipherloom/cipherloom/core/Letters" ∧ h0.size ≤ b ∧ h0.size ≤ y0 ∧ Fld Z h ob "com/example/cipherloom/cipherloom/core/Letters" "planes" "[[B" (.ref b) ∧ Arv Z h b kb (.array .byte) (1 : Int32) [(.ref y0)] .null ∧ Arv Z h y0 kc .byte (3 : Int32) [(.int 0), (.int 0), (.int 0)] (.int 0) ∧ b ≠ y0
set_option maxRecDepth 65536 in
set_option maxHeartbeats 40000000 in
theorem rm1P1 (l : Launch) (Z : State) (a0 : Array Value) (hw : ∀ d ∈ tables_1, d.before a0 Z = true) (ws : List Jvm.Cond) (ob : Addr) (pp : Int32) (h0 : Heap) (n0 : Nat) (Zle : n0 ≤ h0.size) (E_ob : Exa Z h0 ob "com/example/cipherloom/cipherloom/core/Letters") (g_ob : n0 ≤ ob) (F_planes_ob : Fld Z h0 ob "com/example/cipherloom/cipherloom/core/Letters" "planes" "[[B" .null) (hz : (((pp - (1 : Int32)).toUInt32 >>> ((8 : Int32) &&& 31).toUInt32).toInt32) = (0 : Int32)) :
    MetFree l (⟨"com/example/cipherloom/cipherloom/core/Letters", "<init>", "(JI)V"⟩ : MethodName) (head1 (Jvm.Cond.code (⟨"com/example/cipherloom/cipherloom/core/Letters", "<init>", "(JI)V"⟩ : MethodName) prog_45_method_1_code 5 none :: ws) ({ frames := 1, cells := 2, slots := 4, locals := 12 } : Room)) (fun a U => a = #[(.ref ob), (.long 3), (.int pp)] ∧ Z.Warmed39 U.vm ∧ U.heap = h0) (fun _ _ _ _ _ => True) (fun _ U o U' => ∃ v L, o = .returned v ∧ Q1P1 Z ob pp h0 n0 v U'.heap L ∧ FrameEnd U o U' L ({ frames := 1, cells := 2, slots := 4, locals := 12 } : Room).cells ({ frames := 1, cells := 2, slots := 4, locals := 12 } : Room).slots) := by
  refine MetFree.of_bodySF (plainFor_of_name pn_com_example_cipherloom_cipherloom_core_Letters) hisR ?_
  intro p e s m args below meth c s₁ Bd hml0 hP hK
  obtain ⟨rfl, hZ, hh⟩ := hP
  have hx := Bd.exec
  have hby := Bd.bytes
  have hml : c.maxLocals = 5 := hml0
  have hown : s.vm.findClass "com/example/cipherloom/cipherloom/core/Letters" = some m.cls := findClass_of_methodNamed Bd.named
  have hnm := (name_of_methodNamed Bd.named Bd.method).1
  have X0 : Stand p l e ({ frames := 1, cells := 2, slots := 4, locals := 12 } : Room) s m #[(.ref ob), (.long 3), (.int pp)] below meth c s₁ [] 0 0 := Stand.of_body Bd
  have e0 : s₁.heap = h0 := by rw [← hh, Bd.state]; rfl
  have N_ := Fr.nil n0
  have K_ := Keep.refl h0 [ob]
  show own_Goes p.tables e below s (Q1P1 Z ob pp h0 n0) ({ frames := 1, cells := 2, slots := 4, locals := 12 } : Room).cells ({ frames := 1, cells := 2, slots := 4, locals := 12 } : Room).slots s₁ (entryFrame m #[(.ref ob), (.long 3), (.int pp)] 5)
  refine own_by (T' := s₁) (g' := (mkF m 0 #[.val (.ref ob), .val (.long 3), .second, .val (.int pp), .unset] [])) (fun t k => castTop (ef_1P1 m ob pp) k) ?_
  refine own_by (T' := s₁) (g' := (mkF m 1 #[.val (.ref ob), .val (.long 3), .second, .val (.int pp), .unset] [(.ref ob)])) (fun t k => XS.aloadN X0.here hx rfl (hb hby d1_0) rfl rfl k) ?_
  obtain ⟨T1, X1, e1, st1⟩ := initO X0 hx hZ hown (hw _ (own_m 9 rfl)) (hw _ (own_m 10 rfl)) (hw _ (own_m 11 rfl)) e0 (g := (mkF m 1 #[.val (.ref ob), .val (.long 3), .second, .val (.int pp), .unset] [(.ref ob)])) rfl (by rw [hml]; rfl) rfl (hb hby d1_1) (by decide) (W := 0) (own_le rfl) (by decide)
  refine own_by (T' := T1) (g' := (mkF m 4 #[.val (.ref ob), .val (.long 3), .second, .val (.int pp), .unset] [])) (fun t k => st1 t k) ?_
  refine own_by (T' := T1) (g' := (mkF m 5 #[.val (.ref ob), .val (.long 3), .second, .val (.int pp), .unset] [(.long 3)])) (fun t k => XS.lloadN X1.here hx rfl (hb hby d1_4) rfl k) ?_
  refine own_by (T' := T1) (g' := (mkF m 8 #[.val (.ref ob), .val (.long 3), .second, .val (.int pp), .unset] [(.long 2147483639), (.long 3)])) (fun t k => X1.ldc2Long hx hown (mvT hZ (hw _ (own_m 12 rfl))) (g := (mkF m 5 #[.val (.ref ob), .val (.long 3), .second, .val (.int pp), .unset] [(.long 3)])) rfl (hb hby d1_5) _ k) ?_
  refine own_by (T' := T1) (g' := (mkF m 9 #[.val (.ref ob), .val (.long 3), .second, .val (.int pp), .unset] [(.int (lcmpW (3 : Int64) (2147483639 : Int64)))])) (fun t k => XS.lcmp X1.here hx rfl (hb hby d1_8) rfl k) ?_
  refine own_by (T' := T1) (g' := (mkF m 22 #[.val (.ref ob), .val (.long 3), .second, .val (.int pp), .unset] [])) (fun t k => XS.ifYes X1.here hx rfl (pc0 := 9) (pc' := 22) rfl (hb hby d1_9) rfl ((if0 _ _).trans (flt (fun q => (by decide : ¬ ((2147483639 : Int64) < (3 : Int64))) ((lw_gt _ _).mp q))).2.2.2) (by decide) (by decide) k) ?_
  refine own_by (T' := T1) (g' := (mkF m 23 #[.val (.ref ob), .val (.long 3), .second, .val (.int pp), .unset] [(.int 1)])) (fun t k => XS.iconst X1.here hx rfl (hb hby d1_22) k) ?_
  refine own_by (T' := T1) (g' := (mkF m 25 #[.val (.ref ob), .val (.long 3), .second, .val (.int pp), .val (.int 1)] [])) (fun t k => XS.istore X1.here hx rfl (hb hby d1_23) rfl (l' := #[.val (.ref ob), .val (.long 3), .second, .val (.int pp), .val (.int 1)]) rfl k) ?_
  refine own_by (T' := T1) (g' := (mkF m 26 #[.val (.ref ob), .val (.long 3), .second, .val (.int pp), .val (.int 1)] [(.int pp)])) (fun t k => XS.iloadN X1.here hx rfl (hb hby d1_25) rfl k) ?_
  refine own_by (T' := T1) (g' := (mkF m 27 #[.val (.ref ob), .val (.long 3), .second, .val (.int pp), .val (.int 1)] [(.int 1), (.int pp)])) (fun t k => XS.iconst X1.here hx rfl (hb hby d1_26) k) ?_
  refine own_by (T' := T1) (g' := (mkF m 28 #[.val (.ref ob), .val (.long 3), .second, .val (.int pp), .val (.int 1)] [(.int (pp - (1 : Int32)))])) (fun t k => XS.isub X1.here hx rfl (hb hby d1_27) rfl k) ?_
  refine own_by (T' := T1) (g' := (mkF m 30 #[.val (.ref ob), .val (.long 3), .second, .val (.int pp), .val (.int 1)] [(.int 8), (.int (pp - (1 : Int32)))])) (fun t k => XS.bipush X1.here hx rfl (hb hby d1_28) k) ?_
  refine own_by (T' := T1) (g' := (mkF m 32 #[.val (.ref ob), .val (.long 3), .second, .val (.int pp), .val (.int 1)] [(.int 1), (.int 8), (.int (pp - (1 : Int32)))])) (fun t k => XS.iload X1.here hx rfl (hb hby d1_30) rfl k) ?_
  refine own_by (T' := T1) (g' := (mkF m 33 #[.val (.ref ob), .val (.long 3), .second, .val (.int pp), .val (.int 1)] [(.int 8), (.int (pp - (1 : Int32)))])) (fun t k => XS.imul X1.here hx rfl (hb hby d1_32) rfl k) ?_
  refine own_by (T' := T1) (g' := (mkF m 34 #[.val (.ref ob), .val (.long 3), .second, .val (.int pp), .val (.int 1)] [(.int (((pp - (1 : Int32)).toUInt32 >>> ((8 : Int32) &&& 31).toUInt32).toInt32))])) (fun t k => XS.iushr X1.here hx rfl (hb hby d1_33) rfl k) ?_
  refine own_by (T' := T1) (g' := (mkF m 43 #[.val (.ref ob), .val (.long 3), .second, .val (.int pp), .val (.int 1)] [])) (fun t k => XS.ifYes X1.here hx rfl (pc0 := 34) (pc' := 43) rfl (hb hby d1_34) rfl ((if0 _ _).trans (teq hz).1) (by decide) (by decide) k) ?_
  refine own_by (T' := T1) (g' := (mkF m 44 #[.val (.ref ob), .val (.long 3), .second, .val (.int pp), .val (.int 1)] [(.ref ob)])) (fun t k => XS.aloadN X1.here hx rfl (hb hby d1_43) rfl rfl k) ?_
  refine own_by (T' := T1) (g' := (mkF m 46 #[.val (.ref ob), .val (.long 3), .second, .val (.int pp), .val (.int 1)] [(.int 1), (.ref ob)])) (fun t k => XS.iload X1.here hx rfl (hb hby d1_44) rfl k) ?_
  refine own_by (T' := T1) (g' := (mkF m 47 #[.val (.ref ob), .val (.long 3), .second, .val (.int pp), .val (.int 1)] [(.long 3), (.int 1), (.ref ob)])) (fun t k => XS.lloadN X1.here hx rfl (hb hby d1_46) rfl k) ?_
  refine own_by (T' := T1) (g' := (mkF m 48 #[.val (.ref ob), .val (.long 3), .second, .val (.int pp), .val (.int 1)] [(.int 3), (.int 1), (.ref ob)])) (fun t k => XS.l2i X1.here hx rfl (hb hby d1_47) rfl k) ?_
  obtain ⟨y2_0, hyy2_0⟩ : ∃ z, z = h0.size + 1 + 0 := ⟨_, rfl⟩
  obtain ⟨T2, h2, k2, c2, X2, e2, E2, A2, O2, AE2, I2, st2⟩ := gridM X1 hx hZ hown (C := "[B") (ad := "[[B") (ty := .byte) (by decide) (by decide) (hw _ (own_m 13 rfl)) (hw _ (own_m 14 rfl)) (hw _ (own_m 15 rfl)) e1 (g := (mkF m 48 #[.val (.ref ob), .val (.long 3), .second, .val (.int pp), .val (.int 1)] [(.int 3), (.int 1), (.ref ob)])) rfl (hb hby d1_48) rfl (by decide) (by decide) (xs := [y2_0]) (N := 1) (by decide) (by rw [hyy2_0]; rfl) (cap := 3) (by decide) (by decide) (by decide) rfl rfl (by decide) (by decide)
  obtain ⟨b2, g2⟩ : ∃ z, z = h0.size := ⟨_, rfl⟩
  rw [← g2] at A2 AE2 st2
  have ne_ob_y2_0 : ob ≠ y2_0 := Nat.ne_of_lt (Nat.lt_of_lt_of_le E_ob.lt (by omega))
  have g_y2_0 : n0 ≤ y2_0 := by have := Zle; omega
  have sz_y2_0 : h0.size ≤ y2_0 := by have := K_.1; omega
  have ne_b2_y2_0 : b2 ≠ y2_0 := by omega
  have ne_ob_b2 : ob ≠ b2 := Nat.ne_of_lt (Nat.lt_of_lt_of_eq E_ob.lt g2.symm)
  have g_b2 : n0 ≤ b2 := Nat.le_trans Zle (Nat.le_of_eq g2.symm)
  have sz_b2 : h0.size ≤ b2 := Nat.le_trans K_.1 (Nat.le_of_eq g2.symm)
  have E_ob := E_ob.ext E2
  have F_planes_ob := F_planes_ob.ext E2
  have Zle := Nat.le_trans Zle E2.1
  have K_ := K_.ext E2
  have V_b2 : Arv Z h2 b2 k2 (.array .byte) (1 : Int32) [(.ref y2_0)] .null := A2
  have V_y2_0 : Arv Z h2 y2_0 c2 .byte (3 : Int32) [(.int 0), (.int 0), (.int 0)] (.int 0) := (Arv.new (I2 0 y2_0 rfl).1 (by decide)).pad (pad_rep [] (.int 0) 3)
  refine own_by (T' := T2) (g' := (mkF m 52 #[.val (.ref ob), .val (.long 3), .second, .val (.int pp), .val (.int 1)] [(.ref b2), (.ref ob)])) (fun t k => st2 t k) ?_
  obtain ⟨T3, h3, X3, e3, W3, st3⟩ := putF X2 hx hZ hown (host := "") (Or.inl (hw _ (own_m 16 rfl))) Via.refl e2 F_planes_ob E_ob (Or.inr ⟨(hw _ (own_m 17 rfl)), rfl, hnm⟩) (hw _ (own_m 3 rfl)) (ty := (.array (.array .byte))) (by decide) rfl rfl (g := (mkF m 52 #[.val (.ref ob), .val (.long 3), .second, .val (.int pp), .val (.int 1)] [(.ref b2), (.ref ob)])) rfl rfl (hb hby d1_52)
  have F_planes_ob_ := F_planes_ob.same W3
  have E_ob := E_ob.wr W3
  have Zle := Nat.le_trans Zle (Keep.of_wr W3).1
  have K_ := K_.wr W3 (Or.inl (List.mem_of_getElem? (i := 0) rfl))
  have V_b2 := V_b2.other W3 ne_ob_b2.symm
  have V_y2_0 := V_y2_0.other W3 ne_ob_y2_0.symm
  have F_planes_ob := F_planes_ob_
  have N_ := Fr.snoc X3 N_ g_ob
  refine own_by (T' := T3) (g' := (mkF m 55 #[.val (.ref ob), .val (.long 3), .second, .val (.int pp), .val (.int 1)] [])) (fun t k => st3 t k) ?_
  exact own_retV X3 hx Bd.notSynchronized Bd.returns (hb hby d1_55) (by decide) (by decide) (by rw [e3]; exact ⟨b2, y2_0, _, _, rfl, N_, K_, E_ob, sz_b2, sz_y2_0, F_planes_ob, V_b2, V_y2_0, ne_b2_y2_0⟩)

theorem ef_3P1 (m : MethodId) (ob : Addr) (jj : Int32) (pp : Int32) : entryFrame m #[(.ref ob), (.int jj), (.int pp)] 4 = mkF m 0 #[.val (.ref ob), .val (.int jj), .val (.int pp), .unset] [] := by first | (simp [entryFrame, mkF, argsToLocals, Value.category]; done) | rfl
theorem d3_0 : decode prog_45_method_6_code 0 = .ok (.iconst 0, 1) := by decide +kernel
theorem d3_1 : decode prog_45_method_6_code 1 = .ok (.istore_n 3, 1) := by decide +kernel
theorem d3_2 : decode prog_45_method_6_code 2 = .ok (.iload_n 3, 1) := by decide +kernel
theorem d3_3 : decode prog_45_method_6_code 3 = .ok (.aload_n 0, 1) := by decide +kernel
theorem d3_4 : decode prog_45_method_6_code 4 = .ok (.getfield 24, 3) := by decide +kernel
theorem d3_7 : decode prog_45_method_6_code 7 = .ok (.arraylength, 1) := by decide +kernel
theorem d3_8 : decode prog_45_method_6_code 8 = .ok (.if_icmp .ge 24, 3) := by decide +kernel
theorem d3_11 : decode prog_45_method_6_code 11 = .ok (.aload_n 0, 1) := by decide +kernel
theorem d3_12 : decode prog_45_method_6_code 12 = .ok (.getfield 24, 3) := by decide +kernel
theorem d3_15 : decode prog_45_method_6_code 15 = .ok (.iload_n 3, 1) := by decide +kernel
theorem d3_16 : decode prog_45_method_6_code 16 = .ok (.aaload, 1) := by decide +kernel
theorem d3_17 : decode prog_45_method_6_code 17 = .ok (.iload_n 1, 1) := by decide +kernel
theorem d3_18 : decode prog_45_method_6_code 18 = .ok (.iload_n 2, 1) := by decide +kernel
theorem d3_19 : decode prog_45_method_6_code 19 = .ok (.bipush 8, 2) := by decide +kernel
theorem d3_21 : decode prog_45_method_6_code 21 = .ok (.iload_n 3, 1) := by decide +kernel
theorem d3_22 : decode prog_45_method_6_code 22 = .ok (.imul, 1) := by decide +kernel
theorem d3_23 : decode prog_45_method_6_code 23 = .ok (.iushr, 1) := by decide +kernel
theorem d3_24 : decode prog_45_method_6_code 24 = .ok (.i2b, 1) := by decide +kernel
theorem d3_25 : decode prog_45_method_6_code 25 = .ok (.bastore, 1) := by decide +kernel
theorem d3_26 : decode prog_45_method_6_code 26 = .ok (.iinc 3 1, 3) := by decide +kernel
theorem d3_29 : decode prog_45_method_6_code 29 = .ok (.goto (-27), 3) := by decide +kernel
theorem d3_32 : decode prog_45_method_6_code 32 = .ok (.return_, 1) := by decide +kernel
def Q3P1 (Z : State) (ob : Addr) (jj : Int32) (pp : Int32) (b : Addr) (y0 : Addr) (kb : ClassId) (kc : ClassId) (ee00 : Int32) (ee01 : Int32) (ee02 : Int32) (h0 : Heap) (n0 : Nat) (v : Option Value) (h : Heap) (L : List Loc) : Prop := v = none ∧ Fr n0 L ∧ Keep h0 h [y0] ∧ Arv Z h b kb (.array .byte) (1 : Int32) [(.ref y0)] .null ∧ Arv Z h y0 kc .byte (3 : Int32) [(.int (own_pk jj (0 : Int32) (own_e0 pp) ee00)), (.int (own_pk jj (1 : Int32) (own_e0 pp) ee01)), (.int (own_pk jj (2 : Int32) (own_e0 pp) ee02))] (.int 0)
set_option maxRecDepth 65536 in
set_option maxHeartbeats 40000000 in
theorem rm3P1 (l : Launch) (Z : State) (a0 : Array Value) (hw : ∀ d ∈ tables_1, d.before a0 Z = true) (ws : List Jvm.Cond) (ob : Addr) (jj : Int32) (pp : Int32) (b : Addr) (y0 : Addr) (kb : ClassId) (kc : ClassId) (ee00 : Int32) (ee01 : Int32) (ee02 : Int32) (h0 : Heap) (n0 : Nat) (Zle : n0 ≤ h0.size) (F_planes_ob : Fld Z h0 ob "com/example/cipherloom/cipherloom/core/Letters" "planes" "[[B" (.ref b)) (V_b : Arv Z h0 b kb (.array .byte) (1 : Int32) [(.ref y0)] .null) (V_y0 : Arv Z h0 y0 kc .byte (3 : Int32) [(.int ee00), (.int ee01), (.int ee02)] (.int 0)) (g_y0 : n0 ≤ y0) (ne_b_y0 : b ≠ y0) (ne_ob_y0 : ob ≠ y0) (hj : jj = 0 ∨ jj = 1 ∨ jj = 2) :
    MetFree l (⟨"com/example/cipherloom/cipherloom/core/Letters", "set", "(II)V"⟩ : MethodName) (head1 (Jvm.Cond.code (⟨"com/example/cipherloom/cipherloom/core/Letters", "set", "(II)V"⟩ : MethodName) prog_45_method_6_code 4 none :: ws) ({ frames := 0, cells := 0, slots := 0, locals := 0 } : Room)) (fun a U => a = #[(.ref ob), (.int jj), (.int pp)] ∧ Z.Warmed39 U.vm ∧ U.heap = h0) (fun _ _ _ _ _ => True) (fun _ U o U' => ∃ v L, o = .returned v ∧ Q3P1 Z ob jj pp b y0 kb kc ee00 ee01 ee02 h0 n0 v U'.heap L ∧ FrameEnd U o U' L ({ frames := 0, cells := 0, slots := 0, locals := 0 } : Room).cells ({ frames := 0, cells := 0, slots := 0, locals := 0 } : Room).slots) := by
  refine MetFree.of_bodySF (plainFor_of_name pn_com_example_cipherloom_cipherloom_core_Letters) hisR ?_
  intro p e s m args below meth c s₁ Bd hml0 hP hK
  obtain ⟨rfl, hZ, hh⟩ := hP
  have hx := Bd.exec
  have hby := Bd.bytes
  have hml : c.maxLocals = 4 := hml0
  have hown : s.vm.findClass "com/example/cipherloom/cipherloom/core/Letters" = some m.cls := findClass_of_methodNamed Bd.named
  have hnm := (name_of_methodNamed Bd.named Bd.method).1
  have X0 : Stand p l e ({ frames := 0, cells := 0, slots := 0, locals := 0 } : Room) s m #[(.ref ob), (.int jj), (.int pp)] below meth c s₁ [] 0 0 := Stand.of_body Bd
  have e0 : s₁.heap = h0 := by rw [← hh, Bd.state]; rfl
  have N_ := Fr.nil n0
  have K_ := Keep.refl h0 [y0]
  show own_Goes p.tables e below s (Q3P1 Z ob jj pp b y0 kb kc ee00 ee01 ee02 h0 n0) ({ frames := 0, cells := 0, slots := 0, locals := 0 } : Room).cells ({ frames := 0, cells := 0, slots := 0, locals := 0 } : Room).slots s₁ (entryFrame m #[(.ref ob), (.int jj), (.int pp)] 4)
  refine own_by (T' := s₁) (g' := (mkF m 0 #[.val (.ref ob), .val (.int jj), .val (.int pp), .unset] [])) (fun t k => castTop (ef_3P1 m ob jj pp) k) ?_
  rcases hj with rfl | rfl | rfl
  · refine own_by (T' := s₁) (g' := (mkF m 1 #[.val (.ref ob), .val (.int 0), .val (.int pp), .unset] [(.int 0)])) (fun t k => XS.iconst X0.here hx rfl (hb hby d3_0) k) ?_
    refine own_by (T' := s₁) (g' := (mkF m 2 #[.val (.ref ob), .val (.int 0), .val (.int pp), .val (.int 0)] [])) (fun t k => XS.istoreN X0.here hx rfl (hb hby d3_1) rfl (l' := #[.val (.ref ob), .val (.int 0), .val (.int pp), .val (.int 0)]) rfl k) ?_
    refine own_by (T' := s₁) (g' := (mkF m 3 #[.val (.ref ob), .val (.int 0), .val (.int pp), .val (.int 0)] [(.int 0)])) (fun t k => XS.iloadN X0.here hx rfl (hb hby d3_2) rfl k) ?_
    refine own_by (T' := s₁) (g' := (mkF m 4 #[.val (.ref ob), .val (.int 0), .val (.int pp), .val (.int 0)] [(.ref ob), (.int 0)])) (fun t k => XS.aloadN X0.here hx rfl (hb hby d3_3) rfl rfl k) ?_
    obtain ⟨T1, X1, e1, st1⟩ := getF X0 hx hZ hown (host := "") (Or.inl (hw _ (own_m 16 rfl))) Via.refl e0 F_planes_ob (g := (mkF m 4 #[.val (.ref ob), .val (.int 0), .val (.int pp), .val (.int 0)] [(.ref ob), (.int 0)])) rfl rfl (hb hby d3_4)
    refine own_by (T' := T1) (g' := (mkF m 7 #[.val (.ref ob), .val (.int 0), .val (.int pp), .val (.int 0)] [(.ref b), (.int 0)])) (fun t k => st1 t k) ?_
    obtain ⟨cl2, Ar2, -, S2, N2, -, -⟩ := id V_b
    have st2 : ∀ t, Steps p.tables e below (T1.setTop (mkF m 8 #[.val (.ref ob), .val (.int 0), .val (.int pp), .val (.int 0)] [(.int 1), (.int 0)])) t → Steps p.tables e below (T1.setTop (mkF m 7 #[.val (.ref ob), .val (.int 0), .val (.int pp), .val (.int 0)] [(.ref b), (.int 0)])) t := fun t k => X1.arraylength hx (by rw [e1]; exact Ar2.1) (State.isArrayOf_alike hZ.alike Ar2.2.1) (g := (mkF m 7 #[.val (.ref ob), .val (.int 0), .val (.int pp), .val (.int 0)] [(.ref b), (.int 0)])) rfl rfl (hb hby d3_7) _ (by rw [len_of S2 N2]; exact k)
    refine own_by (T' := T1) (g' := (mkF m 8 #[.val (.ref ob), .val (.int 0), .val (.int pp), .val (.int 0)] [(.int 1), (.int 0)])) (fun t k => st2 t k) ?_
    refine own_by (T' := T1) (g' := (mkF m 11 #[.val (.ref ob), .val (.int 0), .val (.int pp), .val (.int 0)] [])) (fun t k => XS.icmpNo X1.here hx rfl (hb hby d3_8) rfl (tlt (by decide)).2.1 k) ?_
    refine own_by (T' := T1) (g' := (mkF m 12 #[.val (.ref ob), .val (.int 0), .val (.int pp), .val (.int 0)] [(.ref ob)])) (fun t k => XS.aloadN X1.here hx rfl (hb hby d3_11) rfl rfl k) ?_
    obtain ⟨T3, X3, e3, st3⟩ := getF X1 hx hZ hown (host := "") (Or.inl (hw _ (own_m 16 rfl))) Via.refl e1 F_planes_ob (g := (mkF m 12 #[.val (.ref ob), .val (.int 0), .val (.int pp), .val (.int 0)] [(.ref ob)])) rfl rfl (hb hby d3_12)
    refine own_by (T' := T3) (g' := (mkF m 15 #[.val (.ref ob), .val (.int 0), .val (.int pp), .val (.int 0)] [(.ref b)])) (fun t k => st3 t k) ?_
    refine own_by (T' := T3) (g' := (mkF m 16 #[.val (.ref ob), .val (.int 0), .val (.int pp), .val (.int 0)] [(.int 0), (.ref b)])) (fun t k => XS.iloadN X3.here hx rfl (hb hby d3_15) rfl k) ?_
    obtain ⟨cl4, Ar4, q4, S4, N4, Hs4, G4⟩ := id V_b
    have hin4 : ¬ ((0 : Int32) < 0 ∨ cl4.slots.size ≤ ((0 : Int32)).toNatClampNeg) := inb_of S4 ⟨by decide, by decide⟩
    have hat4 : cl4.slots[((0 : Int32)).toNatClampNeg]? = some (.ref y0) := Hs4.at hin4 rfl
    refine own_by (T' := T3) (g' := (mkF m 17 #[.val (.ref ob), .val (.int 0), .val (.int pp), .val (.int 0)] [(.ref y0)])) (fun t k => X3.aaload hx (j := (0 : Int32)) (v := (.ref y0)) (by rw [e3]; exact Ar4.1) (State.isArrayOf_alike hZ.alike Ar4.2.1) rfl Ar4.2.2 hin4 hat4 (g := (mkF m 16 #[.val (.ref ob), .val (.int 0), .val (.int pp), .val (.int 0)] [(.int 0), (.ref b)])) rfl rfl (hb hby d3_16) _ k) ?_
    refine own_by (T' := T3) (g' := (mkF m 18 #[.val (.ref ob), .val (.int 0), .val (.int pp), .val (.int 0)] [(.int 0), (.ref y0)])) (fun t k => XS.iloadN X3.here hx rfl (hb hby d3_17) rfl k) ?_
    refine own_by (T' := T3) (g' := (mkF m 19 #[.val (.ref ob), .val (.int 0), .val (.int pp), .val (.int 0)] [(.int pp), (.int 0), (.ref y0)])) (fun t k => XS.iloadN X3.here hx rfl (hb hby d3_18) rfl k) ?_
    refine own_by (T' := T3) (g' := (mkF m 21 #[.val (.ref ob), .val (.int 0), .val (.int pp), .val (.int 0)] [(.int 8), (.int pp), (.int 0), (.ref y0)])) (fun t k => XS.bipush X3.here hx rfl (hb hby d3_19) k) ?_
    refine own_by (T' := T3) (g' := (mkF m 22 #[.val (.ref ob), .val (.int 0), .val (.int pp), .val (.int 0)] [(.int 0), (.int 8), (.int pp), (.int 0), (.ref y0)])) (fun t k => XS.iloadN X3.here hx rfl (hb hby d3_21) rfl k) ?_
    refine own_by (T' := T3) (g' := (mkF m 23 #[.val (.ref ob), .val (.int 0), .val (.int pp), .val (.int 0)] [(.int 0), (.int pp), (.int 0), (.ref y0)])) (fun t k => XS.imul X3.here hx rfl (hb hby d3_22) rfl k) ?_
    refine own_by (T' := T3) (g' := (mkF m 24 #[.val (.ref ob), .val (.int 0), .val (.int pp), .val (.int 0)] [(.int ((pp.toUInt32 >>> ((0 : Int32) &&& 31).toUInt32).toInt32)), (.int 0), (.ref y0)])) (fun t k => XS.iushr X3.here hx rfl (hb hby d3_23) rfl k) ?_
    refine own_by (T' := T3) (g' := (mkF m 25 #[.val (.ref ob), .val (.int 0), .val (.int pp), .val (.int 0)] [(.int (((pp.toUInt32 >>> ((0 : Int32) &&& 31).toUInt32).toInt32).toInt8.toInt32)), (.int 0), (.ref y0)])) (fun t k => XS.i2b X3.here hx rfl (hb hby d3_24) rfl k) ?_
    obtain ⟨cl5, Ar5, q5, S5, N5, Hs5, G5⟩ := id V_y0
    have hin5 : ¬ ((0 : Int32) < 0 ∨ cl5.slots.size ≤ ((0 : Int32)).toNatClampNeg) := inb_of S5 ⟨by decide, by decide⟩
    obtain ⟨T5, h5, X5, e5, W5, st5⟩ := stB X3 hx hZ e3 Ar5 (j := (0 : Int32)) hin5 (g := (mkF m 25 #[.val (.ref ob), .val (.int 0), .val (.int pp), .val (.int 0)] [(.int (((pp.toUInt32 >>> ((0 : Int32) &&& 31).toUInt32).toInt32).toInt8.toInt32)), (.int 0), (.ref y0)])) rfl rfl (hb hby d3_25)
    have V_y0_ : Arv Z h5 y0 kc .byte (3 : Int32) [(.int (nar .byte (((pp.toUInt32 >>> ((0 : Int32) &&& 31).toUInt32).toInt32).toInt8.toInt32))), (.int ee01), (.int ee02)] (.int 0) := Arv.set Ar5 q5 S5 N5 Hs5 G5 (fits_nar_byte _) W5 0 rfl (Nat.le_of_ble_eq_true rfl)
    have F_planes_ob := F_planes_ob.other W5 (Or.inl ne_ob_y0)
    have V_b := V_b.other W5 ne_b_y0
    have Zle := Nat.le_trans Zle (Keep.of_wr W5).1
    have K_ := K_.wr W5 (Or.inl (List.mem_of_getElem? (i := 0) rfl))
    have V_y0 := V_y0_
    have N_ := Fr.snoc X5 N_ g_y0
    refine own_by (T' := T5) (g' := (mkF m 26 #[.val (.ref ob), .val (.int 0), .val (.int pp), .val (.int 0)] [])) (fun t k => st5 t k) ?_
    refine own_by (T' := T5) (g' := (mkF m 29 #[.val (.ref ob), .val (.int 0), .val (.int pp), .val (.int 1)] [])) (fun t k => XS.iinc X5.here hx rfl (hb hby d3_26) rfl (l' := #[.val (.ref ob), .val (.int 0), .val (.int pp), .val (.int 1)]) rfl k) ?_
    refine own_by (T' := T5) (g' := (mkF m 2 #[.val (.ref ob), .val (.int 0), .val (.int pp), .val (.int 1)] [])) (fun t k => XS.goto X5.here hx rfl (pc0 := 29) (pc' := 2) rfl (hb hby d3_29) (by decide) (by decide) k) ?_
    refine own_by (T' := T5) (g' := (mkF m 3 #[.val (.ref ob), .val (.int 0), .val (.int pp), .val (.int 1)] [(.int 1)])) (fun t k => XS.iloadN X5.here hx rfl (hb hby d3_2) rfl k) ?_
    refine own_by (T' := T5) (g' := (mkF m 4 #[.val (.ref ob), .val (.int 0), .val (.int pp), .val (.int 1)] [(.ref ob), (.int 1)])) (fun t k => XS.aloadN X5.here hx rfl (hb hby d3_3) rfl rfl k) ?_
    obtain ⟨T6, X6, e6, st6⟩ := getF X5 hx hZ hown (host := "") (Or.inl (hw _ (own_m 16 rfl))) Via.refl e5 F_planes_ob (g := (mkF m 4 #[.val (.ref ob), .val (.int 0), .val (.int pp), .val (.int 1)] [(.ref ob), (.int 1)])) rfl rfl (hb hby d3_4)
    refine own_by (T' := T6) (g' := (mkF m 7 #[.val (.ref ob), .val (.int 0), .val (.int pp), .val (.int 1)] [(.ref b), (.int 1)])) (fun t k => st6 t k) ?_
    obtain ⟨cl7, Ar7, -, S7, N7, -, -⟩ := id V_b
    have st7 : ∀ t, Steps p.tables e below (T6.setTop (mkF m 8 #[.val (.ref ob), .val (.int 0), .val (.int pp), .val (.int 1)] [(.int 1), (.int 1)])) t → Steps p.tables e below (T6.setTop (mkF m 7 #[.val (.ref ob), .val (.int 0), .val (.int pp), .val (.int 1)] [(.ref b), (.int 1)])) t := fun t k => X6.arraylength hx (by rw [e6]; exact Ar7.1) (State.isArrayOf_alike hZ.alike Ar7.2.1) (g := (mkF m 7 #[.val (.ref ob), .val (.int 0), .val (.int pp), .val (.int 1)] [(.ref b), (.int 1)])) rfl rfl (hb hby d3_7) _ (by rw [len_of S7 N7]; exact k)
    refine own_by (T' := T6) (g' := (mkF m 8 #[.val (.ref ob), .val (.int 0), .val (.int pp), .val (.int 1)] [(.int 1), (.int 1)])) (fun t k => st7 t k) ?_
    refine own_by (T' := T6) (g' := (mkF m 32 #[.val (.ref ob), .val (.int 0), .val (.int pp), .val (.int 1)] [])) (fun t k => XS.icmpYes X6.here hx rfl (pc0 := 8) (pc' := 32) rfl (hb hby d3_8) rfl (flt (by decide)).2.1 (by decide) (by decide) k) ?_
    exact own_retV X6 hx Bd.notSynchronized Bd.returns (hb hby d3_32) (by decide) (by decide) (by rw [e6]; exact ⟨rfl, N_, K_, V_b, V_y0⟩)
  · refine own_by (T' := s₁) (g' := (mkF m 1 #[.val (.ref ob), .val (.int 1), .val (.int pp), .unset] [(.int 0)])) (fun t k => XS.iconst X0.here hx rfl (hb hby d3_0) k) ?_
    refine own_by (T' := s₁) (g' := (mkF m 2 #[.val (.ref ob), .val (.int 1), .val (.int pp), .val (.int 0)] [])) (fun t k => XS.istoreN X0.here hx rfl (hb hby d3_1) rfl (l' := #[.val (.ref ob), .val (.int 1), .val (.int pp), .val (.int 0)]) rfl k) ?_
    refine own_by (T' := s₁) (g' := (mkF m 3 #[.val (.ref ob), .val (.int 1), .val (.int pp), .val (.int 0)] [(.int 0)])) (fun t k => XS.iloadN X0.here hx rfl (hb hby d3_2) rfl k) ?_
    refine own_by (T' := s₁) (g' := (mkF m 4 #[.val (.ref ob), .val (.int 1), .val (.int pp), .val (.int 0)] [(.ref ob), (.int 0)])) (fun t k => XS.aloadN X0.here hx rfl (hb hby d3_3) rfl rfl k) ?_
    obtain ⟨T8, X8, e8, st8⟩ := getF X0 hx hZ hown (host := "") (Or.inl (hw _ (own_m 16 rfl))) Via.refl e0 F_planes_ob (g := (mkF m 4 #[.val (.ref ob), .val (.int 1), .val (.int pp), .val (.int 0)] [(.ref ob), (.int 0)])) rfl rfl (hb hby d3_4)
    refine own_by (T' := T8) (g' := (mkF m 7 #[.val (.ref ob), .val (.int 1), .val (.int pp), .val (.int 0)] [(.ref b), (.int 0)])) (fun t k => st8 t k) ?_
    obtain ⟨cl9, Ar9, -, S9, N9, -, -⟩ := id V_b
    have st9 : ∀ t, Steps p.tables e below (T8.setTop (mkF m 8 #[.val (.ref ob), .val (.int 1), .val (.int pp), .val (.int 0)] [(.int 1), (.int 0)])) t → Steps p.tables e below (T8.setTop (mkF m 7 #[.val (.ref ob), .val (.int 1), .val (.int pp), .val (.int 0)] [(.ref b), (.int 0)])) t := fun t k => X8.arraylength hx (by rw [e8]; exact Ar9.1) (State.isArrayOf_alike hZ.alike Ar9.2.1) (g := (mkF m 7 #[.val (.ref ob), .val (.int 1), .val (.int pp), .val (.int 0)] [(.ref b), (.int 0)])) rfl rfl (hb hby d3_7) _ (by rw [len_of S9 N9]; exact k)
    refine own_by (T' := T8) (g' := (mkF m 8 #[.val (.ref ob), .val (.int 1), .val (.int pp), .val (.int 0)] [(.int 1), (.int 0)])) (fun t k => st9 t k) ?_
    refine own_by (T' := T8) (g' := (mkF m 11 #[.val (.ref ob), .val (.int 1), .val (.int pp), .val (.int 0)] [])) (fun t k => XS.icmpNo X8.here hx rfl (hb hby d3_8) rfl (tlt (by decide)).2.1 k) ?_
    refine own_by (T' := T8) (g' := (mkF m 12 #[.val (.ref ob), .val (.int 1), .val (.int pp), .val (.int 0)] [(.ref ob)])) (fun t k => XS.aloadN X8.here hx rfl (hb hby d3_11) rfl rfl k) ?_
    obtain ⟨T10, X10, e10, st10⟩ := getF X8 hx hZ hown (host := "") (Or.inl (hw _ (own_m 16 rfl))) Via.refl e8 F_planes_ob (g := (mkF m 12 #[.val (.ref ob), .val (.int 1), .val (.int pp), .val (.int 0)] [(.ref ob)])) rfl rfl (hb hby d3_12)
    refine own_by (T' := T10) (g' := (mkF m 15 #[.val (.ref ob), .val (.int 1), .val (.int pp), .val (.int 0)] [(.ref b)])) (fun t k => st10 t k) ?_
    refine own_by (T' := T10) (g' := (mkF m 16 #[.val (.ref ob), .val (.int 1), .val (.int pp), .val (.int 0)] [(.int 0), (.ref b)])) (fun t k => XS.iloadN X10.here hx rfl (hb hby d3_15) rfl k) ?_
    obtain ⟨cl11, Ar11, q11, S11, N11, Hs11, G11⟩ := id V_b
    have hin11 : ¬ ((0 : Int32) < 0 ∨ cl11.slots.size ≤ ((0 : Int32)).toNatClampNeg) := inb_of S11 ⟨by decide, by decide⟩
    have hat11 : cl11.slots[((0 : Int32)).toNatClampNeg]? = some (.ref y0) := Hs11.at hin11 rfl
    refine own_by (T' := T10) (g' := (mkF m 17 #[.val (.ref ob), .val (.int 1), .val (.int pp), .val (.int 0)] [(.ref y0)])) (fun t k => X10.aaload hx (j := (0 : Int32)) (v := (.ref y0)) (by rw [e10]; exact Ar11.1) (State.isArrayOf_alike hZ.alike Ar11.2.1) rfl Ar11.2.2 hin11 hat11 (g := (mkF m 16 #[.val (.ref ob), .val (.int 1), .val (.int pp), .val (.int 0)] [(.int 0), (.ref b)])) rfl rfl (hb hby d3_16) _ k) ?_
    refine own_by (T' := T10) (g' := (mkF m 18 #[.val (.ref ob), .val (.int 1), .val (.int pp), .val (.int 0)] [(.int 1), (.ref y0)])) (fun t k => XS.iloadN X10.here hx rfl (hb hby d3_17) rfl k) ?_
    refine own_by (T' := T10) (g' := (mkF m 19 #[.val (.ref ob), .val (.int 1), .val (.int pp), .val (.int 0)] [(.int pp), (.int 1), (.ref y0)])) (fun t k => XS.iloadN X10.here hx rfl (hb hby d3_18) rfl k) ?_
    refine own_by (T' := T10) (g' := (mkF m 21 #[.val (.ref ob), .val (.int 1), .val (.int pp), .val (.int 0)] [(.int 8), (.int pp), (.int 1), (.ref y0)])) (fun t k => XS.bipush X10.here hx rfl (hb hby d3_19) k) ?_
    refine own_by (T' := T10) (g' := (mkF m 22 #[.val (.ref ob), .val (.int 1), .val (.int pp), .val (.int 0)] [(.int 0), (.int 8), (.int pp), (.int 1), (.ref y0)])) (fun t k => XS.iloadN X10.here hx rfl (hb hby d3_21) rfl k) ?_
    refine own_by (T' := T10) (g' := (mkF m 23 #[.val (.ref ob), .val (.int 1), .val (.int pp), .val (.int 0)] [(.int 0), (.int pp), (.int 1), (.ref y0)])) (fun t k => XS.imul X10.here hx rfl (hb hby d3_22) rfl k) ?_
    refine own_by (T' := T10) (g' := (mkF m 24 #[.val (.ref ob), .val (.int 1), .val (.int pp), .val (.int 0)] [(.int ((pp.toUInt32 >>> ((0 : Int32) &&& 31).toUInt32).toInt32)), (.int 1), (.ref y0)])) (fun t k => XS.iushr X10.here hx rfl (hb hby d3_23) rfl k) ?_
    refine own_by (T' := T10) (g' := (mkF m 25 #[.val (.ref ob), .val (.int 1), .val (.int pp), .val (.int 0)] [(.int (((pp.toUInt32 >>> ((0 : Int32) &&& 31).toUInt32).toInt32).toInt8.toInt32)), (.int 1), (.ref y0)])) (fun t k => XS.i2b X10.here hx rfl (hb hby d3_24) rfl k) ?_
    obtain ⟨cl12, Ar12, q12, S12, N12, Hs12, G12⟩ := id V_y0
    have hin12 : ¬ ((1 : Int32) < 0 ∨ cl12.slots.size ≤ ((1 : Int32)).toNatClampNeg) := inb_of S12 ⟨by decide, by decide⟩
    obtain ⟨T12, h12, X12, e12, W12, st12⟩ := stB X10 hx hZ e10 Ar12 (j := (1 : Int32)) hin12 (g := (mkF m 25 #[.val (.ref ob), .val (.int 1), .val (.int pp), .val (.int 0)] [(.int (((pp.toUInt32 >>> ((0 : Int32) &&& 31).toUInt32).toInt32).toInt8.toInt32)), (.int 1), (.ref y0)])) rfl rfl (hb hby d3_25)
    have V_y0_ : Arv Z h12 y0 kc .byte (3 : Int32) [(.int ee00), (.int (nar .byte (((pp.toUInt32 >>> ((0 : Int32) &&& 31).toUInt32).toInt32).toInt8.toInt32))), (.int ee02)] (.int 0) := Arv.set Ar12 q12 S12 N12 Hs12 G12 (fits_nar_byte _) W12 1 rfl (Nat.le_of_ble_eq_true rfl)
    have F_planes_ob := F_planes_ob.other W12 (Or.inl ne_ob_y0)
    have V_b := V_b.other W12 ne_b_y0
    have Zle := Nat.le_trans Zle (Keep.of_wr W12).1
    have K_ := K_.wr W12 (Or.inl (List.mem_of_getElem? (i := 0) rfl))
    have V_y0 := V_y0_
    have N_ := Fr.snoc X12 N_ g_y0
    refine own_by (T' := T12) (g' := (mkF m 26 #[.val (.ref ob), .val (.int 1), .val (.int pp), .val (.int 0)] [])) (fun t k => st12 t k) ?_
    refine own_by (T' := T12) (g' := (mkF m 29 #[.val (.ref ob), .val (.int 1), .val (.int pp), .val (.int 1)] [])) (fun t k => XS.iinc X12.here hx rfl (hb hby d3_26) rfl (l' := #[.val (.ref ob), .val (.int 1), .val (.int pp), .val (.int 1)]) rfl k) ?_
    refine own_by (T' := T12) (g' := (mkF m 2 #[.val (.ref ob), .val (.int 1), .val (.int pp), .val (.int 1)] [])) (fun t k => XS.goto X12.here hx rfl (pc0 := 29) (pc' := 2) rfl (hb hby d3_29) (by decide) (by decide) k) ?_
    refine own_by (T' := T12) (g' := (mkF m 3 #[.val (.ref ob), .val (.int 1), .val (.int pp), .val (.int 1)] [(.int 1)])) (fun t k => XS.iloadN X12.here hx rfl (hb hby d3_2) rfl k) ?_
    refine own_by (T' := T12) (g' := (mkF m 4 #[.val (.ref ob), .val (.int 1), .val (.int pp), .val (.int 1)] [(.ref ob), (.int 1)])) (fun t k => XS.aloadN X12.here hx rfl (hb hby d3_3) rfl rfl k) ?_
    obtain ⟨T13, X13, e13, st13⟩ := getF X12 hx hZ hown (host := "") (Or.inl (hw _ (own_m 16 rfl))) Via.refl e12 F_planes_ob (g := (mkF m 4 #[.val (.ref ob), .val (.int 1), .val (.int pp), .val (.int 1)] [(.ref ob), (.int 1)])) rfl rfl (hb hby d3_4)
    refine own_by (T' := T13) (g' := (mkF m 7 #[.val (.ref ob), .val (.int 1), .val (.int pp), .val (.int 1)] [(.ref b), (.int 1)])) (fun t k => st13 t k) ?_
    obtain ⟨cl14, Ar14, -, S14, N14, -, -⟩ := id V_b
    have st14 : ∀ t, Steps p.tables e below (T13.setTop (mkF m 8 #[.val (.ref ob), .val (.int 1), .val (.int pp), .val (.int 1)] [(.int 1), (.int 1)])) t → Steps p.tables e below (T13.setTop (mkF m 7 #[.val (.ref ob), .val (.int 1), .val (.int pp), .val (.int 1)] [(.ref b), (.int 1)])) t := fun t k => X13.arraylength hx (by rw [e13]; exact Ar14.1) (State.isArrayOf_alike hZ.alike Ar14.2.1) (g := (mkF m 7 #[.val (.ref ob), .val (.int 1), .val (.int pp), .val (.int 1)] [(.ref b), (.int 1)])) rfl rfl (hb hby d3_7) _ (by rw [len_of S14 N14]; exact k)
    refine own_by (T' := T13) (g' := (mkF m 8 #[.val (.ref ob), .val (.int 1), .val (.int pp), .val (.int 1)] [(.int 1), (.int 1)])) (fun t k => st14 t k) ?_
    refine own_by (T' := T13) (g' := (mkF m 32 #[.val (.ref ob), .val (.int 1), .val (.int pp), .val (.int 1)] [])) (fun t k => XS.icmpYes X13.here hx rfl (pc0 := 8) (pc' := 32) rfl (hb hby d3_8) rfl (flt (by decide)).2.1 (by decide) (by decide) k) ?_
    exact own_retV X13 hx Bd.notSynchronized Bd.returns (hb hby d3_32) (by decide) (by decide) (by rw [e13]; exact ⟨rfl, N_, K_, V_b, V_y0⟩)
  · refine own_by (T' := s₁) (g' := (mkF m 1 #[.val (.ref ob), .val (.int 2), .val (.int pp), .unset] [(.int 0)])) (fun t k => XS.iconst X0.here hx rfl (hb hby d3_0) k) ?_
    refine own_by (T' := s₁) (g' := (mkF m 2 #[.val (.ref ob), .val (.int 2), .val (.int pp), .val (.int 0)] [])) (fun t k => XS.istoreN X0.here hx rfl (hb hby d3_1) rfl (l' := #[.val (.ref ob), .val (.int 2), .val (.int pp), .val (.int 0)]) rfl k) ?_
    refine own_by (T' := s₁) (g' := (mkF m 3 #[.val (.ref ob), .val (.int 2), .val (.int pp), .val (.int 0)] [(.int 0)])) (fun t k => XS.iloadN X0.here hx rfl (hb hby d3_2) rfl k) ?_
    refine own_by (T' := s₁) (g' := (mkF m 4 #[.val (.ref ob), .val (.int 2), .val (.int pp), .val (.int 0)] [(.ref ob), (.int 0)])) (fun t k => XS.aloadN X0.here hx rfl (hb hby d3_3) rfl rfl k) ?_
    obtain ⟨T15, X15, e15, st15⟩ := getF X0 hx hZ hown (host := "") (Or.inl (hw _ (own_m 16 rfl))) Via.refl e0 F_planes_ob (g := (mkF m 4 #[.val (.ref ob), .val (.int 2), .val (.int pp), .val (.int 0)] [(.ref ob), (.int 0)])) rfl rfl (hb hby d3_4)
    refine own_by (T' := T15) (g' := (mkF m 7 #[.val (.ref ob), .val (.int 2), .val (.int pp), .val (.int 0)] [(.ref b), (.int 0)])) (fun t k => st15 t k) ?_
    obtain ⟨cl16, Ar16, -, S16, N16, -, -⟩ := id V_b
    have st16 : ∀ t, Steps p.tables e below (T15.setTop (mkF m 8 #[.val (.ref ob), .val (.int 2), .val (.int pp), .val (.int 0)] [(.int 1), (.int 0)])) t → Steps p.tables e below (T15.setTop (mkF m 7 #[.val (.ref ob), .val (.int 2), .val (.int pp), .val (.int 0)] [(.ref b), (.int 0)])) t := fun t k => X15.arraylength hx (by rw [e15]; exact Ar16.1) (State.isArrayOf_alike hZ.alike Ar16.2.1) (g := (mkF m 7 #[.val (.ref ob), .val (.int 2), .val (.int pp), .val (.int 0)] [(.ref b), (.int 0)])) rfl rfl (hb hby d3_7) _ (by rw [len_of S16 N16]; exact k)
    refine own_by (T' := T15) (g' := (mkF m 8 #[.val (.ref ob), .val (.int 2), .val (.int pp), .val (.int 0)] [(.int 1), (.int 0)])) (fun t k => st16 t k) ?_
    refine own_by (T' := T15) (g' := (mkF m 11 #[.val (.ref ob), .val (.int 2), .val (.int pp), .val (.int 0)] [])) (fun t k => XS.icmpNo X15.here hx rfl (hb hby d3_8) rfl (tlt (by decide)).2.1 k) ?_
    refine own_by (T' := T15) (g' := (mkF m 12 #[.val (.ref ob), .val (.int 2), .val (.int pp), .val (.int 0)] [(.ref ob)])) (fun t k => XS.aloadN X15.here hx rfl (hb hby d3_11) rfl rfl k) ?_
    obtain ⟨T17, X17, e17, st17⟩ := getF X15 hx hZ hown (host := "") (Or.inl (hw _ (own_m 16 rfl))) Via.refl e15 F_planes_ob (g := (mkF m 12 #[.val (.ref ob), .val (.int 2), .val (.int pp), .val (.int 0)] [(.ref ob)])) rfl rfl (hb hby d3_12)
    refine own_by (T' := T17) (g' := (mkF m 15 #[.val (.ref ob), .val (.int 2), .val (.int pp), .val (.int 0)] [(.ref b)])) (fun t k => st17 t k) ?_
    refine own_by (T' := T17) (g' := (mkF m 16 #[.val (.ref ob), .val (.int 2), .val (.int pp), .val (.int 0)] [(.int 0), (.ref b)])) (fun t k => XS.iloadN X17.here hx rfl (hb hby d3_15) rfl k) ?_
    obtain ⟨cl18, Ar18, q18, S18, N18, Hs18, G18⟩ := id V_b
    have hin18 : ¬ ((0 : Int32) < 0 ∨ cl18.slots.size ≤ ((0 : Int32)).toNatClampNeg) := inb_of S18 ⟨by decide, by decide⟩
    have hat18 : cl18.slots[((0 : Int32)).toNatClampNeg]? = some (.ref y0) := Hs18.at hin18 rfl
    refine own_by (T' := T17) (g' := (mkF m 17 #[.val (.ref ob), .val (.int 2), .val (.int pp), .val (.int 0)] [(.ref y0)])) (fun t k => X17.aaload hx (j := (0 : Int32)) (v := (.ref y0)) (by rw [e17]; exact Ar18.1) (State.isArrayOf_alike hZ.alike Ar18.2.1) rfl Ar18.2.2 hin18 hat18 (g := (mkF m 16 #[.val (.ref ob), .val (.int 2), .val (.int pp), .val (.int 0)] [(.int 0), (.ref b)])) rfl rfl (hb hby d3_16) _ k) ?_
    refine own_by (T' := T17) (g' := (mkF m 18 #[.val (.ref ob), .val (.int 2), .val (.int pp), .val (.int 0)] [(.int 2), (.ref y0)])) (fun t k => XS.iloadN X17.here hx rfl (hb hby d3_17) rfl k) ?_
    refine own_by (T' := T17) (g' := (mkF m 19 #[.val (.ref ob), .val (.int 2), .val (.int pp), .val (.int 0)] [(.int pp), (.int 2), (.ref y0)])) (fun t k => XS.iloadN X17.here hx rfl (hb hby d3_18) rfl k) ?_
    refine own_by (T' := T17) (g' := (mkF m 21 #[.val (.ref ob), .val (.int 2), .val (.int pp), .val (.int 0)] [(.int 8), (.int pp), (.int 2), (.ref y0)])) (fun t k => XS.bipush X17.here hx rfl (hb hby d3_19) k) ?_
    refine own_by (T' := T17) (g' := (mkF m 22 #[.val (.ref ob), .val (.int 2), .val (.int pp), .val (.int 0)] [(.int 0), (.int 8), (.int pp), (.int 2), (.ref y0)])) (fun t k => XS.iloadN X17.here hx rfl (hb hby d3_21) rfl k) ?_
    refine own_by (T' := T17) (g' := (mkF m 23 #[.val (.ref ob), .val (.int 2), .val (.int pp), .val (.int 0)] [(.int 0), (.int pp), (.int 2), (.ref y0)])) (fun t k => XS.imul X17.here hx rfl (hb hby d3_22) rfl k) ?_
    refine own_by (T' := T17) (g' := (mkF m 24 #[.val (.ref ob), .val (.int 2), .val (.int pp), .val (.int 0)] [(.int ((pp.toUInt32 >>> ((0 : Int32) &&& 31).toUInt32).toInt32)), (.int 2), (.ref y0)])) (fun t k => XS.iushr X17.here hx rfl (hb hby d3_23) rfl k) ?_
    refine own_by (T' := T17) (g' := (mkF m 25 #[.val (.ref ob), .val (.int 2), .val (.int pp), .val (.int 0)] [(.int (((pp.toUInt32 >>> ((0 : Int32) &&& 31).toUInt32).toInt32).toInt8.toInt32)), (.int 2), (.ref y0)])) (fun t k => XS.i2b X17.here hx rfl (hb hby d3_24) rfl k) ?_
    obtain ⟨cl19, Ar19, q19, S19, N19, Hs19, G19⟩ := id V_y0
    have hin19 : ¬ ((2 : Int32) < 0 ∨ cl19.slots.size ≤ ((2 : Int32)).toNatClampNeg) := inb_of S19 ⟨by decide, by decide⟩
    obtain ⟨T19, h19, X19, e19, W19, st19⟩ := stB X17 hx hZ e17 Ar19 (j := (2 : Int32)) hin19 (g := (mkF m 25 #[.val (.ref ob), .val (.int 2), .val (.int pp), .val (.int 0)] [(.int (((pp.toUInt32 >>> ((0 : Int32) &&& 31).toUInt32).toInt32).toInt8.toInt32)), (.int 2), (.ref y0)])) rfl rfl (hb hby d3_25)
    have V_y0_ : Arv Z h19 y0 kc .byte (3 : Int32) [(.int ee00), (.int ee01), (.int (nar .byte (((pp.toUInt32 >>> ((0 : Int32) &&& 31).toUInt32).toInt32).toInt8.toInt32)))] (.int 0) := Arv.set Ar19 q19 S19 N19 Hs19 G19 (fits_nar_byte _) W19 2 rfl (Nat.le_of_ble_eq_true rfl)
    have F_planes_ob := F_planes_ob.other W19 (Or.inl ne_ob_y0)
    have V_b := V_b.other W19 ne_b_y0
    have Zle := Nat.le_trans Zle (Keep.of_wr W19).1
    have K_ := K_.wr W19 (Or.inl (List.mem_of_getElem? (i := 0) rfl))
    have V_y0 := V_y0_
    have N_ := Fr.snoc X19 N_ g_y0
    refine own_by (T' := T19) (g' := (mkF m 26 #[.val (.ref ob), .val (.int 2), .val (.int pp), .val (.int 0)] [])) (fun t k => st19 t k) ?_
    refine own_by (T' := T19) (g' := (mkF m 29 #[.val (.ref ob), .val (.int 2), .val (.int pp), .val (.int 1)] [])) (fun t k => XS.iinc X19.here hx rfl (hb hby d3_26) rfl (l' := #[.val (.ref ob), .val (.int 2), .val (.int pp), .val (.int 1)]) rfl k) ?_
    refine own_by (T' := T19) (g' := (mkF m 2 #[.val (.ref ob), .val (.int 2), .val (.int pp), .val (.int 1)] [])) (fun t k => XS.goto X19.here hx rfl (pc0 := 29) (pc' := 2) rfl (hb hby d3_29) (by decide) (by decide) k) ?_
    refine own_by (T' := T19) (g' := (mkF m 3 #[.val (.ref ob), .val (.int 2), .val (.int pp), .val (.int 1)] [(.int 1)])) (fun t k => XS.iloadN X19.here hx rfl (hb hby d3_2) rfl k) ?_
    refine own_by (T' := T19) (g' := (mkF m 4 #[.val (.ref ob), .val (.int 2), .val (.int pp), .val (.int 1)] [(.ref ob), (.int 1)])) (fun t k => XS.aloadN X19.here hx rfl (hb hby d3_3) rfl rfl k) ?_
    obtain ⟨T20, X20, e20, st20⟩ := getF X19 hx hZ hown (host := "") (Or.inl (hw _ (own_m 16 rfl))) Via.refl e19 F_planes_ob (g := (mkF m 4 #[.val (.ref ob), .val (.int 2), .val (.int pp), .val (.int 1)] [(.ref ob), (.int 1)])) rfl rfl (hb hby d3_4)
    refine own_by (T' := T20) (g' := (mkF m 7 #[.val (.ref ob), .val (.int 2), .val (.int pp), .val (.int 1)] [(.ref b), (.int 1)])) (fun t k => st20 t k) ?_
    obtain ⟨cl21, Ar21, -, S21, N21, -, -⟩ := id V_b
    have st21 : ∀ t, Steps p.tables e below (T20.setTop (mkF m 8 #[.val (.ref ob), .val (.int 2), .val (.int pp), .val (.int 1)] [(.int 1), (.int 1)])) t → Steps p.tables e below (T20.setTop (mkF m 7 #[.val (.ref ob), .val (.int 2), .val (.int pp), .val (.int 1)] [(.ref b), (.int 1)])) t := fun t k => X20.arraylength hx (by rw [e20]; exact Ar21.1) (State.isArrayOf_alike hZ.alike Ar21.2.1) (g := (mkF m 7 #[.val (.ref ob), .val (.int 2), .val (.int pp), .val (.int 1)] [(.ref b), (.int 1)])) rfl rfl (hb hby d3_7) _ (by rw [len_of S21 N21]; exact k)
    refine own_by (T' := T20) (g' := (mkF m 8 #[.val (.ref ob), .val (.int 2), .val (.int pp), .val (.int 1)] [(.int 1), (.int 1)])) (fun t k => st21 t k) ?_
    refine own_by (T' := T20) (g' := (mkF m 32 #[.val (.ref ob), .val (.int 2), .val (.int pp), .val (.int 1)] [])) (fun t k => XS.icmpYes X20.here hx rfl (pc0 := 8) (pc' := 32) rfl (hb hby d3_8) rfl (flt (by decide)).2.1 (by decide) (by decide) k) ?_
    exact own_retV X20 hx Bd.notSynchronized Bd.returns (hb hby d3_32) (by decide) (by decide) (by rw [e20]; exact ⟨rfl, N_, K_, V_b, V_y0⟩)

theorem ef_4P1 (m : MethodId) (ob : Addr) (jj : Int32) : entryFrame m #[(.ref ob), (.int jj)] 4 = mkF m 0 #[.val (.ref ob), .val (.int jj), .unset, .unset] [] := by first | (simp [entryFrame, mkF, argsToLocals, Value.category]; done) | rfl
theorem d4_0 : decode prog_45_method_5_code 0 = .ok (.iconst 0, 1) := by decide +kernel
theorem d4_1 : decode prog_45_method_5_code 1 = .ok (.istore_n 2, 1) := by decide +kernel
theorem d4_2 : decode prog_45_method_5_code 2 = .ok (.aload_n 0, 1) := by decide +kernel
theorem d4_3 : decode prog_45_method_5_code 3 = .ok (.getfield 24, 3) := by decide +kernel
theorem d4_6 : decode prog_45_method_5_code 6 = .ok (.arraylength, 1) := by decide +kernel
theorem d4_7 : decode prog_45_method_5_code 7 = .ok (.iconst 1, 1) := by decide +kernel
theorem d4_8 : decode prog_45_method_5_code 8 = .ok (.isub, 1) := by decide +kernel
theorem d4_9 : decode prog_45_method_5_code 9 = .ok (.istore_n 3, 1) := by decide +kernel
theorem d4_10 : decode prog_45_method_5_code 10 = .ok (.iload_n 3, 1) := by decide +kernel
theorem d4_11 : decode prog_45_method_5_code 11 = .ok (.ifCond .lt 27, 3) := by decide +kernel
theorem d4_14 : decode prog_45_method_5_code 14 = .ok (.iload_n 2, 1) := by decide +kernel
theorem d4_15 : decode prog_45_method_5_code 15 = .ok (.bipush 8, 2) := by decide +kernel
theorem d4_17 : decode prog_45_method_5_code 17 = .ok (.ishl, 1) := by decide +kernel
theorem d4_18 : decode prog_45_method_5_code 18 = .ok (.aload_n 0, 1) := by decide +kernel
theorem d4_19 : decode prog_45_method_5_code 19 = .ok (.getfield 24, 3) := by decide +kernel
theorem d4_22 : decode prog_45_method_5_code 22 = .ok (.iload_n 3, 1) := by decide +kernel
theorem d4_23 : decode prog_45_method_5_code 23 = .ok (.aaload, 1) := by decide +kernel
theorem d4_24 : decode prog_45_method_5_code 24 = .ok (.iload_n 1, 1) := by decide +kernel
theorem d4_25 : decode prog_45_method_5_code 25 = .ok (.baload, 1) := by decide +kernel
theorem d4_26 : decode prog_45_method_5_code 26 = .ok (.sipush 255, 3) := by decide +kernel
theorem d4_29 : decode prog_45_method_5_code 29 = .ok (.iand, 1) := by decide +kernel
theorem d4_30 : decode prog_45_method_5_code 30 = .ok (.ior, 1) := by decide +kernel
theorem d4_31 : decode prog_45_method_5_code 31 = .ok (.istore_n 2, 1) := by decide +kernel
theorem d4_32 : decode prog_45_method_5_code 32 = .ok (.iinc 3 (-1), 3) := by decide +kernel
theorem d4_35 : decode prog_45_method_5_code 35 = .ok (.goto (-25), 3) := by decide +kernel
theorem d4_38 : decode prog_45_method_5_code 38 = .ok (.iload_n 2, 1) := by decide +kernel
theorem d4_39 : decode prog_45_method_5_code 39 = .ok (.ireturn, 1) := by decide +kernel
def Q4P1 (Z : State) (ob : Addr) (jj : Int32) (b : Addr) (y0 : Addr) (kb : ClassId) (kc : ClassId) (ee00 : Int32) (ee01 : Int32) (ee02 : Int32) (h0 : Heap) (n0 : Nat) (v : Option Value) (h : Heap) (L : List Loc) : Prop := v = some (.int (own_g1 (own_at jj ee00 ee01 ee02))) ∧ Fr n0 L ∧ h = h0
set_option maxRecDepth 65536 in
set_option maxHeartbeats 40000000 in
theorem rm4P1 (l : Launch) (Z : State) (a0 : Array Value) (hw : ∀ d ∈ tables_1, d.before a0 Z = true) (ws : List Jvm.Cond) (ob : Addr) (jj : Int32) (b : Addr) (y0 : Addr) (kb : ClassId) (kc : ClassId) (ee00 : Int32) (ee01 : Int32) (ee02 : Int32) (h0 : Heap) (n0 : Nat) (Zle : n0 ≤ h0.size) (F_planes_ob : Fld Z h0 ob "com/example/cipherloom/cipherloom/core/Letters" "planes" "[[B" (.ref b)) (V_b : Arv Z h0 b kb (.array .byte) (1 : Int32) [(.ref y0)] .null) (V_y0 : Arv Z h0 y0 kc .byte (3 : Int32) [(.int ee00), (.int ee01), (.int ee02)] (.int 0)) (hj : jj = 0 ∨ jj = 1 ∨ jj = 2) :
    MetFree l (⟨"com/example/cipherloom/cipherloom/core/Letters", "get", "(I)I"⟩ : MethodName) (head1 (Jvm.Cond.code (⟨"com/example/cipherloom/cipherloom/core/Letters", "get", "(I)I"⟩ : MethodName) prog_45_method_5_code 4 (some .int) :: ws) ({ frames := 0, cells := 0, slots := 0, locals := 0 } : Room)) (fun a U => a = #[(.ref ob), (.int jj)] ∧ Z.Warmed39 U.vm ∧ U.heap = h0) (fun _ _ _ _ _ => True) (fun _ U o U' => ∃ v L, o = .returned v ∧ Q4P1 Z ob jj b y0 kb kc ee00 ee01 ee02 h0 n0 v U'.heap L ∧ FrameEnd U o U' L ({ frames := 0, cells := 0, slots := 0, locals := 0 } : Room).cells ({ frames := 0, cells := 0, slots := 0, locals := 0 } : Room).slots) := by
  refine MetFree.of_bodySF (plainFor_of_name pn_com_example_cipherloom_cipherloom_core_Letters) hisR ?_
  intro p e s m args below meth c s₁ Bd hml0 hP hK
  obtain ⟨rfl, hZ, hh⟩ := hP
  have hx := Bd.exec
  have hby := Bd.bytes
  have hml : c.maxLocals = 4 := hml0
  have hown : s.vm.findClass "com/example/cipherloom/cipherloom/core/Letters" = some m.cls := findClass_of_methodNamed Bd.named
  have hnm := (name_of_methodNamed Bd.named Bd.method).1
  have X0 : Stand p l e ({ frames := 0, cells := 0, slots := 0, locals := 0 } : Room) s m #[(.ref ob), (.int jj)] below meth c s₁ [] 0 0 := Stand.of_body Bd
  have e0 : s₁.heap = h0 := by rw [← hh, Bd.state]; rfl
  have N_ := Fr.nil n0
  show own_Goes p.tables e below s (Q4P1 Z ob jj b y0 kb kc ee00 ee01 ee02 h0 n0) ({ frames := 0, cells := 0, slots := 0, locals := 0 } : Room).cells ({ frames := 0, cells := 0, slots := 0, locals := 0 } : Room).slots s₁ (entryFrame m #[(.ref ob), (.int jj)] 4)
  refine own_by (T' := s₁) (g' := (mkF m 0 #[.val (.ref ob), .val (.int jj), .unset, .unset] [])) (fun t k => castTop (ef_4P1 m ob jj) k) ?_
  rcases hj with rfl | rfl | rfl
  · refine own_by (T' := s₁) (g' := (mkF m 1 #[.val (.ref ob), .val (.int 0), .unset, .unset] [(.int 0)])) (fun t k => XS.iconst X0.here hx rfl (hb hby d4_0) k) ?_
    refine own_by (T' := s₁) (g' := (mkF m 2 #[.val (.ref ob), .val (.int 0), .val (.int 0), .unset] [])) (fun t k => XS.istoreN X0.here hx rfl (hb hby d4_1) rfl (l' := #[.val (.ref ob), .val (.int 0), .val (.int 0), .unset]) rfl k) ?_
    refine own_by (T' := s₁) (g' := (mkF m 3 #[.val (.ref ob), .val (.int 0), .val (.int 0), .unset] [(.ref ob)])) (fun t k => XS.aloadN X0.here hx rfl (hb hby d4_2) rfl rfl k) ?_
    obtain ⟨T1, X1, e1, st1⟩ := getF X0 hx hZ hown (host := "") (Or.inl (hw _ (own_m 16 rfl))) Via.refl e0 F_planes_ob (g := (mkF m 3 #[.val (.ref ob), .val (.int 0), .val (.int 0), .unset] [(.ref ob)])) rfl rfl (hb hby d4_3)
    refine own_by (T' := T1) (g' := (mkF m 6 #[.val (.ref ob), .val (.int 0), .val (.int 0), .unset] [(.ref b)])) (fun t k => st1 t k) ?_
    obtain ⟨cl2, Ar2, -, S2, N2, -, -⟩ := id V_b
    have st2 : ∀ t, Steps p.tables e below (T1.setTop (mkF m 7 #[.val (.ref ob), .val (.int 0), .val (.int 0), .unset] [(.int 1)])) t → Steps p.tables e below (T1.setTop (mkF m 6 #[.val (.ref ob), .val (.int 0), .val (.int 0), .unset] [(.ref b)])) t := fun t k => X1.arraylength hx (by rw [e1]; exact Ar2.1) (State.isArrayOf_alike hZ.alike Ar2.2.1) (g := (mkF m 6 #[.val (.ref ob), .val (.int 0), .val (.int 0), .unset] [(.ref b)])) rfl rfl (hb hby d4_6) _ (by rw [len_of S2 N2]; exact k)
    refine own_by (T' := T1) (g' := (mkF m 7 #[.val (.ref ob), .val (.int 0), .val (.int 0), .unset] [(.int 1)])) (fun t k => st2 t k) ?_
    refine own_by (T' := T1) (g' := (mkF m 8 #[.val (.ref ob), .val (.int 0), .val (.int 0), .unset] [(.int 1), (.int 1)])) (fun t k => XS.iconst X1.here hx rfl (hb hby d4_7) k) ?_
    refine own_by (T' := T1) (g' := (mkF m 9 #[.val (.ref ob), .val (.int 0), .val (.int 0), .unset] [(.int 0)])) (fun t k => XS.isub X1.here hx rfl (hb hby d4_8) rfl k) ?_
    refine own_by (T' := T1) (g' := (mkF m 10 #[.val (.ref ob), .val (.int 0), .val (.int 0), .val (.int 0)] [])) (fun t k => XS.istoreN X1.here hx rfl (hb hby d4_9) rfl (l' := #[.val (.ref ob), .val (.int 0), .val (.int 0), .val (.int 0)]) rfl k) ?_
    refine own_by (T' := T1) (g' := (mkF m 11 #[.val (.ref ob), .val (.int 0), .val (.int 0), .val (.int 0)] [(.int 0)])) (fun t k => XS.iloadN X1.here hx rfl (hb hby d4_10) rfl k) ?_
    refine own_by (T' := T1) (g' := (mkF m 14 #[.val (.ref ob), .val (.int 0), .val (.int 0), .val (.int 0)] [])) (fun t k => XS.ifNo X1.here hx rfl (hb hby d4_11) rfl ((if0 _ _).trans (flt (by decide)).1) k) ?_
    refine own_by (T' := T1) (g' := (mkF m 15 #[.val (.ref ob), .val (.int 0), .val (.int 0), .val (.int 0)] [(.int 0)])) (fun t k => XS.iloadN X1.here hx rfl (hb hby d4_14) rfl k) ?_
    refine own_by (T' := T1) (g' := (mkF m 17 #[.val (.ref ob), .val (.int 0), .val (.int 0), .val (.int 0)] [(.int 8), (.int 0)])) (fun t k => XS.bipush X1.here hx rfl (hb hby d4_15) k) ?_
    refine own_by (T' := T1) (g' := (mkF m 18 #[.val (.ref ob), .val (.int 0), .val (.int 0), .val (.int 0)] [(.int ((0 : Int32) <<< ((8 : Int32) &&& 31)))])) (fun t k => XS.ishl X1.here hx rfl (hb hby d4_17) rfl k) ?_
    refine own_by (T' := T1) (g' := (mkF m 19 #[.val (.ref ob), .val (.int 0), .val (.int 0), .val (.int 0)] [(.ref ob), (.int ((0 : Int32) <<< ((8 : Int32) &&& 31)))])) (fun t k => XS.aloadN X1.here hx rfl (hb hby d4_18) rfl rfl k) ?_
    obtain ⟨T3, X3, e3, st3⟩ := getF X1 hx hZ hown (host := "") (Or.inl (hw _ (own_m 16 rfl))) Via.refl e1 F_planes_ob (g := (mkF m 19 #[.val (.ref ob), .val (.int 0), .val (.int 0), .val (.int 0)] [(.ref ob), (.int ((0 : Int32) <<< ((8 : Int32) &&& 31)))])) rfl rfl (hb hby d4_19)
    refine own_by (T' := T3) (g' := (mkF m 22 #[.val (.ref ob), .val (.int 0), .val (.int 0), .val (.int 0)] [(.ref b), (.int ((0 : Int32) <<< ((8 : Int32) &&& 31)))])) (fun t k => st3 t k) ?_
    refine own_by (T' := T3) (g' := (mkF m 23 #[.val (.ref ob), .val (.int 0), .val (.int 0), .val (.int 0)] [(.int 0), (.ref b), (.int ((0 : Int32) <<< ((8 : Int32) &&& 31)))])) (fun t k => XS.iloadN X3.here hx rfl (hb hby d4_22) rfl k) ?_
    obtain ⟨cl4, Ar4, q4, S4, N4, Hs4, G4⟩ := id V_b
    have hin4 : ¬ ((0 : Int32) < 0 ∨ cl4.slots.size ≤ ((0 : Int32)).toNatClampNeg) := inb_of S4 ⟨by decide, by decide⟩
    have hat4 : cl4.slots[((0 : Int32)).toNatClampNeg]? = some (.ref y0) := Hs4.at hin4 rfl
    refine own_by (T' := T3) (g' := (mkF m 24 #[.val (.ref ob), .val (.int 0), .val (.int 0), .val (.int 0)] [(.ref y0), (.int ((0 : Int32) <<< ((8 : Int32) &&& 31)))])) (fun t k => X3.aaload hx (j := (0 : Int32)) (v := (.ref y0)) (by rw [e3]; exact Ar4.1) (State.isArrayOf_alike hZ.alike Ar4.2.1) rfl Ar4.2.2 hin4 hat4 (g := (mkF m 23 #[.val (.ref ob), .val (.int 0), .val (.int 0), .val (.int 0)] [(.int 0), (.ref b), (.int ((0 : Int32) <<< ((8 : Int32) &&& 31)))])) rfl rfl (hb hby d4_23) _ k) ?_
    refine own_by (T' := T3) (g' := (mkF m 25 #[.val (.ref ob), .val (.int 0), .val (.int 0), .val (.int 0)] [(.int 0), (.ref y0), (.int ((0 : Int32) <<< ((8 : Int32) &&& 31)))])) (fun t k => XS.iloadN X3.here hx rfl (hb hby d4_24) rfl k) ?_
    obtain ⟨cl5, Ar5, q5, S5, N5, Hs5, G5⟩ := id V_y0
    have hin5 : ¬ ((0 : Int32) < 0 ∨ cl5.slots.size ≤ ((0 : Int32)).toNatClampNeg) := inb_of S5 ⟨by decide, by decide⟩
    have hat5 : cl5.slots[((0 : Int32)).toNatClampNeg]? = some (.int ee00) := Hs5.at hin5 rfl
    refine own_by (T' := T3) (g' := (mkF m 26 #[.val (.ref ob), .val (.int 0), .val (.int 0), .val (.int 0)] [(.int ee00), (.int ((0 : Int32) <<< ((8 : Int32) &&& 31)))])) (fun t k => X3.baloadBytes hx (j := (0 : Int32)) (v := (.int ee00)) (by rw [e3]; exact Ar5.1) (State.isArrayOf_alike hZ.alike Ar5.2.1) Ar5.2.2 hin5 hat5 (g := (mkF m 25 #[.val (.ref ob), .val (.int 0), .val (.int 0), .val (.int 0)] [(.int 0), (.ref y0), (.int ((0 : Int32) <<< ((8 : Int32) &&& 31)))])) rfl rfl (hb hby d4_25) _ k) ?_
    refine own_by (T' := T3) (g' := (mkF m 29 #[.val (.ref ob), .val (.int 0), .val (.int 0), .val (.int 0)] [(.int 255), (.int ee00), (.int ((0 : Int32) <<< ((8 : Int32) &&& 31)))])) (fun t k => XS.sipush X3.here hx rfl (hb hby d4_26) k) ?_
    refine own_by (T' := T3) (g' := (mkF m 30 #[.val (.ref ob), .val (.int 0), .val (.int 0), .val (.int 0)] [(.int (ee00 &&& (255 : Int32))), (.int ((0 : Int32) <<< ((8 : Int32) &&& 31)))])) (fun t k => XS.iand X3.here hx rfl (hb hby d4_29) rfl k) ?_
    refine own_by (T' := T3) (g' := (mkF m 31 #[.val (.ref ob), .val (.int 0), .val (.int 0), .val (.int 0)] [(.int (((0 : Int32) <<< ((8 : Int32) &&& 31)) ||| (ee00 &&& (255 : Int32))))])) (fun t k => XS.ior X3.here hx rfl (hb hby d4_30) rfl k) ?_
    refine own_by (T' := T3) (g' := (mkF m 32 #[.val (.ref ob), .val (.int 0), .val (.int (((0 : Int32) <<< ((8 : Int32) &&& 31)) ||| (ee00 &&& (255 : Int32)))), .val (.int 0)] [])) (fun t k => XS.istoreN X3.here hx rfl (hb hby d4_31) rfl (l' := #[.val (.ref ob), .val (.int 0), .val (.int (((0 : Int32) <<< ((8 : Int32) &&& 31)) ||| (ee00 &&& (255 : Int32)))), .val (.int 0)]) rfl k) ?_
    refine own_by (T' := T3) (g' := (mkF m 35 #[.val (.ref ob), .val (.int 0), .val (.int (((0 : Int32) <<< ((8 : Int32) &&& 31)) ||| (ee00 &&& (255 : Int32)))), .val (.int (-1))] [])) (fun t k => XS.iinc X3.here hx rfl (hb hby d4_32) rfl (l' := #[.val (.ref ob), .val (.int 0), .val (.int (((0 : Int32) <<< ((8 : Int32) &&& 31)) ||| (ee00 &&& (255 : Int32)))), .val (.int (-1))]) rfl k) ?_
    refine own_by (T' := T3) (g' := (mkF m 10 #[.val (.ref ob), .val (.int 0), .val (.int (((0 : Int32) <<< ((8 : Int32) &&& 31)) ||| (ee00 &&& (255 : Int32)))), .val (.int (-1))] [])) (fun t k => XS.goto X3.here hx rfl (pc0 := 35) (pc' := 10) rfl (hb hby d4_35) (by decide) (by decide) k) ?_
    refine own_by (T' := T3) (g' := (mkF m 11 #[.val (.ref ob), .val (.int 0), .val (.int (((0 : Int32) <<< ((8 : Int32) &&& 31)) ||| (ee00 &&& (255 : Int32)))), .val (.int (-1))] [(.int (-1))])) (fun t k => XS.iloadN X3.here hx rfl (hb hby d4_10) rfl k) ?_
    refine own_by (T' := T3) (g' := (mkF m 38 #[.val (.ref ob), .val (.int 0), .val (.int (((0 : Int32) <<< ((8 : Int32) &&& 31)) ||| (ee00 &&& (255 : Int32)))), .val (.int (-1))] [])) (fun t k => XS.ifYes X3.here hx rfl (pc0 := 11) (pc' := 38) rfl (hb hby d4_11) rfl ((if0 _ _).trans (tlt (by decide)).1) (by decide) (by decide) k) ?_
    refine own_by (T' := T3) (g' := (mkF m 39 #[.val (.ref ob), .val (.int 0), .val (.int (((0 : Int32) <<< ((8 : Int32) &&& 31)) ||| (ee00 &&& (255 : Int32)))), .val (.int (-1))] [(.int (((0 : Int32) <<< ((8 : Int32) &&& 31)) ||| (ee00 &&& (255 : Int32))))])) (fun t k => XS.iloadN X3.here hx rfl (hb hby d4_38) rfl k) ?_
    exact own_retI X3 hx Bd.notSynchronized Bd.returns (hb hby d4_39) (by decide) (by decide) (by rw [e3]; exact ⟨rfl, N_, rfl⟩)
  · refine own_by (T' := s₁) (g' := (mkF m 1 #[.val (.ref ob), .val (.int 1), .unset, .unset] [(.int 0)])) (fun t k => XS.iconst X0.here hx rfl (hb hby d4_0) k) ?_
    refine own_by (T' := s₁) (g' := (mkF m 2 #[.val (.ref ob), .val (.int 1), .val (.int 0), .unset] [])) (fun t k => XS.istoreN X0.here hx rfl (hb hby d4_1) rfl (l' := #[.val (.ref ob), .val (.int 1), .val (.int 0), .unset]) rfl k) ?_
    refine own_by (T' := s₁) (g' := (mkF m 3 #[.val (.ref ob), .val (.int 1), .val (.int 0), .unset] [(.ref ob)])) (fun t k => XS.aloadN X0.here hx rfl (hb hby d4_2) rfl rfl k) ?_
    obtain ⟨T6, X6, e6, st6⟩ := getF X0 hx hZ hown (host := "") (Or.inl (hw _ (own_m 16 rfl))) Via.refl e0 F_planes_ob (g := (mkF m 3 #[.val (.ref ob), .val (.int 1), .val (.int 0), .unset] [(.ref ob)])) rfl rfl (hb hby d4_3)
    refine own_by (T' := T6) (g' := (mkF m 6 #[.val (.ref ob), .val (.int 1), .val (.int 0), .unset] [(.ref b)])) (fun t k => st6 t k) ?_
    obtain ⟨cl7, Ar7, -, S7, N7, -, -⟩ := id V_b
    have st7 : ∀ t, Steps p.tables e below (T6.setTop (mkF m 7 #[.val (.ref ob), .val (.int 1), .val (.int 0), .unset] [(.int 1)])) t → Steps p.tables e below (T6.setTop (mkF m 6 #[.val (.ref ob), .val (.int 1), .val (.int 0), .unset] [(.ref b)])) t := fun t k => X6.arraylength hx (by rw [e6]; exact Ar7.1) (State.isArrayOf_alike hZ.alike Ar7.2.1) (g := (mkF m 6 #[.val (.ref ob), .val (.int 1), .val (.int 0), .unset] [(.ref b)])) rfl rfl (hb hby d4_6) _ (by rw [len_of S7 N7]; exact k)
    refine own_by (T' := T6) (g' := (mkF m 7 #[.val (.ref ob), .val (.int 1), .val (.int 0), .unset] [(.int 1)])) (fun t k => st7 t k) ?_
    refine own_by (T' := T6) (g' := (mkF m 8 #[.val (.ref ob), .val (.int 1), .val (.int 0), .unset] [(.int 1), (.int 1)])) (fun t k => XS.iconst X6.here hx rfl (hb hby d4_7) k) ?_
    refine own_by (T' := T6) (g' := (mkF m 9 #[.val (.ref ob), .val (.int 1), .val (.int 0), .unset] [(.int 0)])) (fun t k => XS.isub X6.here hx rfl (hb hby d4_8) rfl k) ?_
    refine own_by (T' := T6) (g' := (mkF m 10 #[.val (.ref ob), .val (.int 1), .val (.int 0), .val (.int 0)] [])) (fun t k => XS.istoreN X6.here hx rfl (hb hby d4_9) rfl (l' := #[.val (.ref ob), .val (.int 1), .val (.int 0), .val (.int 0)]) rfl k) ?_
    refine own_by (T' := T6) (g' := (mkF m 11 #[.val (.ref ob), .val (.int 1), .val (.int 0), .val (.int 0)] [(.int 0)])) (fun t k => XS.iloadN X6.here hx rfl (hb hby d4_10) rfl k) ?_
    refine own_by (T' := T6) (g' := (mkF m 14 #[.val (.ref ob), .val (.int 1), .val (.int 0), .val (.int 0)] [])) (fun t k => XS.ifNo X6.here hx rfl (hb hby d4_11) rfl ((if0 _ _).trans (flt (by decide)).1) k) ?_
    refine own_by (T' := T6) (g' := (mkF m 15 #[.val (.ref ob), .val (.int 1), .val (.int 0), .val (.int 0)] [(.int 0)])) (fun t k => XS.iloadN X6.here hx rfl (hb hby d4_14) rfl k) ?_
    refine own_by (T' := T6) (g' := (mkF m 17 #[.val (.ref ob), .val (.int 1), .val (.int 0), .val (.int 0)] [(.int 8), (.int 0)])) (fun t k => XS.bipush X6.here hx rfl (hb hby d4_15) k) ?_
    refine own_by (T' := T6) (g' := (mkF m 18 #[.val (.ref ob), .val (.int 1), .val (.int 0), .val (.int 0)] [(.int ((0 : Int32) <<< ((8 : Int32) &&& 31)))])) (fun t k => XS.ishl X6.here hx rfl (hb hby d4_17) rfl k) ?_
    refine own_by (T' := T6) (g' := (mkF m 19 #[.val (.ref ob), .val (.int 1), .val (.int 0), .val (.int 0)] [(.ref ob), (.int ((0 : Int32) <<< ((8 : Int32) &&& 31)))])) (fun t k => XS.aloadN X6.here hx rfl (hb hby d4_18) rfl rfl k) ?_
    obtain ⟨T8, X8, e8, st8⟩ := getF X6 hx hZ hown (host := "") (Or.inl (hw _ (own_m 16 rfl))) Via.refl e6 F_planes_ob (g := (mkF m 19 #[.val (.ref ob), .val (.int 1), .val (.int 0), .val (.int 0)] [(.ref ob), (.int ((0 : Int32) <<< ((8 : Int32) &&& 31)))])) rfl rfl (hb hby d4_19)
    refine own_by (T' := T8) (g' := (mkF m 22 #[.val (.ref ob), .val (.int 1), .val (.int 0), .val (.int 0)] [(.ref b), (.int ((0 : Int32) <<< ((8 : Int32) &&& 31)))])) (fun t k => st8 t k) ?_
    refine own_by (T' := T8) (g' := (mkF m 23 #[.val (.ref ob), .val (.int 1), .val (.int 0), .val (.int 0)] [(.int 0), (.ref b), (.int ((0 : Int32) <<< ((8 : Int32) &&& 31)))])) (fun t k => XS.iloadN X8.here hx rfl (hb hby d4_22) rfl k) ?_
    obtain ⟨cl9, Ar9, q9, S9, N9, Hs9, G9⟩ := id V_b
    have hin9 : ¬ ((0 : Int32) < 0 ∨ cl9.slots.size ≤ ((0 : Int32)).toNatClampNeg) := inb_of S9 ⟨by decide, by decide⟩
    have hat9 : cl9.slots[((0 : Int32)).toNatClampNeg]? = some (.ref y0) := Hs9.at hin9 rfl
    refine own_by (T' := T8) (g' := (mkF m 24 #[.val (.ref ob), .val (.int 1), .val (.int 0), .val (.int 0)] [(.ref y0), (.int ((0 : Int32) <<< ((8 : Int32) &&& 31)))])) (fun t k => X8.aaload hx (j := (0 : Int32)) (v := (.ref y0)) (by rw [e8]; exact Ar9.1) (State.isArrayOf_alike hZ.alike Ar9.2.1) rfl Ar9.2.2 hin9 hat9 (g := (mkF m 23 #[.val (.ref ob), .val (.int 1), .val (.int 0), .val (.int 0)] [(.int 0), (.ref b), (.int ((0 : Int32) <<< ((8 : Int32) &&& 31)))])) rfl rfl (hb hby d4_23) _ k) ?_
    refine own_by (T' := T8) (g' := (mkF m 25 #[.val (.ref ob), .val (.int 1), .val (.int 0), .val (.int 0)] [(.int 1), (.ref y0), (.int ((0 : Int32) <<< ((8 : Int32) &&& 31)))])) (fun t k => XS.iloadN X8.here hx rfl (hb hby d4_24) rfl k) ?_
    obtain ⟨cl10, Ar10, q10, S10, N10, Hs10, G10⟩ := id V_y0
    have hin10 : ¬ ((1 : Int32) < 0 ∨ cl10.slots.size ≤ ((1 : Int32)).toNatClampNeg) := inb_of S10 ⟨by decide, by decide⟩
    have hat10 : cl10.slots[((1 : Int32)).toNatClampNeg]? = some (.int ee01) := Hs10.at hin10 rfl
    refine own_by (T' := T8) (g' := (mkF m 26 #[.val (.ref ob), .val (.int 1), .val (.int 0), .val (.int 0)] [(.int ee01), (.int ((0 : Int32) <<< ((8 : Int32) &&& 31)))])) (fun t k => X8.baloadBytes hx (j := (1 : Int32)) (v := (.int ee01)) (by rw [e8]; exact Ar10.1) (State.isArrayOf_alike hZ.alike Ar10.2.1) Ar10.2.2 hin10 hat10 (g := (mkF m 25 #[.val (.ref ob), .val (.int 1), .val (.int 0), .val (.int 0)] [(.int 1), (.ref y0), (.int ((0 : Int32) <<< ((8 : Int32) &&& 31)))])) rfl rfl (hb hby d4_25) _ k) ?_
    refine own_by (T' := T8) (g' := (mkF m 29 #[.val (.ref ob), .val (.int 1), .val (.int 0), .val (.int 0)] [(.int 255), (.int ee01), (.int ((0 : Int32) <<< ((8 : Int32) &&& 31)))])) (fun t k => XS.sipush X8.here hx rfl (hb hby d4_26) k) ?_
    refine own_by (T' := T8) (g' := (mkF m 30 #[.val (.ref ob), .val (.int 1), .val (.int 0), .val (.int 0)] [(.int (ee01 &&& (255 : Int32))), (.int ((0 : Int32) <<< ((8 : Int32) &&& 31)))])) (fun t k => XS.iand X8.here hx rfl (hb hby d4_29) rfl k) ?_
    refine own_by (T' := T8) (g' := (mkF m 31 #[.val (.ref ob), .val (.int 1), .val (.int 0), .val (.int 0)] [(.int (((0 : Int32) <<< ((8 : Int32) &&& 31)) ||| (ee01 &&& (255 : Int32))))])) (fun t k => XS.ior X8.here hx rfl (hb hby d4_30) rfl k) ?_
    refine own_by (T' := T8) (g' := (mkF m 32 #[.val (.ref ob), .val (.int 1), .val (.int (((0 : Int32) <<< ((8 : Int32) &&& 31)) ||| (ee01 &&& (255 : Int32)))), .val (.int 0)] [])) (fun t k => XS.istoreN X8.here hx rfl (hb hby d4_31) rfl (l' := #[.val (.ref ob), .val (.int 1), .val (.int (((0 : Int32) <<< ((8 : Int32) &&& 31)) ||| (ee01 &&& (255 : Int32)))), .val (.int 0)]) rfl k) ?_
    refine own_by (T' := T8) (g' := (mkF m 35 #[.val (.ref ob), .val (.int 1), .val (.int (((0 : Int32) <<< ((8 : Int32) &&& 31)) ||| (ee01 &&& (255 : Int32)))), .val (.int (-1))] [])) (fun t k => XS.iinc X8.here hx rfl (hb hby d4_32) rfl (l' := #[.val (.ref ob), .val (.int 1), .val (.int (((0 : Int32) <<< ((8 : Int32) &&& 31)) ||| (ee01 &&& (255 : Int32)))), .val (.int (-1))]) rfl k) ?_
    refine own_by (T' := T8) (g' := (mkF m 10 #[.val (.ref ob), .val (.int 1), .val (.int (((0 : Int32) <<< ((8 : Int32) &&& 31)) ||| (ee01 &&& (255 : Int32)))), .val (.int (-1))] [])) (fun t k => XS.goto X8.here hx rfl (pc0 := 35) (pc' := 10) rfl (hb hby d4_35) (by decide) (by decide) k) ?_
    refine own_by (T' := T8) (g' := (mkF m 11 #[.val (.ref ob), .val (.int 1), .val (.int (((0 : Int32) <<< ((8 : Int32) &&& 31)) ||| (ee01 &&& (255 : Int32)))), .val (.int (-1))] [(.int (-1))])) (fun t k => XS.iloadN X8.here hx rfl (hb hby d4_10) rfl k) ?_
    refine own_by (T' := T8) (g' := (mkF m 38 #[.val (.ref ob), .val (.int 1), .val (.int (((0 : Int32) <<< ((8 : Int32) &&& 31)) ||| (ee01 &&& (255 : Int32)))), .val (.int (-1))] [])) (fun t k => XS.ifYes X8.here hx rfl (pc0 := 11) (pc' := 38) rfl (hb hby d4_11) rfl ((if0 _ _).trans (tlt (by decide)).1) (by decide) (by decide) k) ?_
    refine own_by (T' := T8) (g' := (mkF m 39 #[.val (.ref ob), .val (.int 1), .val (.int (((0 : Int32) <<< ((8 : Int32) &&& 31)) ||| (ee01 &&& (255 : Int32)))), .val (.int (-1))] [(.int (((0 : Int32) <<< ((8 : Int32) &&& 31)) ||| (ee01 &&& (255 : Int32))))])) (fun t k => XS.iloadN X8.here hx rfl (hb hby d4_38) rfl k) ?_
    exact own_retI X8 hx Bd.notSynchronized Bd.returns (hb hby d4_39) (by decide) (by decide) (by rw [e8]; exact ⟨rfl, N_, rfl⟩)
  · refine own_by (T' := s₁) (g' := (mkF m 1 #[.val (.ref ob), .val (.int 2), .unset, .unset] [(.int 0)])) (fun t k => XS.iconst X0.here hx rfl (hb hby d4_0) k) ?_
    refine own_by (T' := s₁) (g' := (mkF m 2 #[.val (.ref ob), .val (.int 2), .val (.int 0), .unset] [])) (fun t k => XS.istoreN X0.here hx rfl (hb hby d4_1) rfl (l' := #[.val (.ref ob), .val (.int 2), .val (.int 0), .unset]) rfl k) ?_
    refine own_by (T' := s₁) (g' := (mkF m 3 #[.val (.ref ob), .val (.int 2), .val (.int 0), .unset] [(.ref ob)])) (fun t k => XS.aloadN X0.here hx rfl (hb hby d4_2) rfl rfl k) ?_
    obtain ⟨T11, X11, e11, st11⟩ := getF X0 hx hZ hown (host := "") (Or.inl (hw _ (own_m 16 rfl))) Via.refl e0 F_planes_ob (g := (mkF m 3 #[.val (.ref ob), .val (.int 2), .val (.int 0), .unset] [(.ref ob)])) rfl rfl (hb hby d4_3)
    refine own_by (T' := T11) (g' := (mkF m 6 #[.val (.ref ob), .val (.int 2), .val (.int 0), .unset] [(.ref b)])) (fun t k => st11 t k) ?_
    obtain ⟨cl12, Ar12, -, S12, N12, -, -⟩ := id V_b
    have st12 : ∀ t, Steps p.tables e below (T11.setTop (mkF m 7 #[.val (.ref ob), .val (.int 2), .val (.int 0), .unset] [(.int 1)])) t → Steps p.tables e below (T11.setTop (mkF m 6 #[.val (.ref ob), .val (.int 2), .val (.int 0), .unset] [(.ref b)])) t := fun t k => X11.arraylength hx (by rw [e11]; exact Ar12.1) (State.isArrayOf_alike hZ.alike Ar12.2.1) (g := (mkF m 6 #[.val (.ref ob), .val (.int 2), .val (.int 0), .unset] [(.ref b)])) rfl rfl (hb hby d4_6) _ (by rw [len_of S12 N12]; exact k)
    refine own_by (T' := T11) (g' := (mkF m 7 #[.val (.ref ob), .val (.int 2), .val (.int 0), .unset] [(.int 1)])) (fun t k => st12 t k) ?_
    refine own_by (T' := T11) (g' := (mkF m 8 #[.val (.ref ob), .val (.int 2), .val (.int 0), .unset] [(.int 1), (.int 1)])) (fun t k => XS.iconst X11.here hx rfl (hb hby d4_7) k) ?_
    refine own_by (T' := T11) (g' := (mkF m 9 #[.val (.ref ob), .val (.int 2), .val (.int 0), .unset] [(.int 0)])) (fun t k => XS.isub X11.here hx rfl (hb hby d4_8) rfl k) ?_
    refine own_by (T' := T11) (g' := (mkF m 10 #[.val (.ref ob), .val (.int 2), .val (.int 0), .val (.int 0)] [])) (fun t k => XS.istoreN X11.here hx rfl (hb hby d4_9) rfl (l' := #[.val (.ref ob), .val (.int 2), .val (.int 0), .val (.int 0)]) rfl k) ?_
    refine own_by (T' := T11) (g' := (mkF m 11 #[.val (.ref ob), .val (.int 2), .val (.int 0), .val (.int 0)] [(.int 0)])) (fun t k => XS.iloadN X11.here hx rfl (hb hby d4_10) rfl k) ?_
    refine own_by (T' := T11) (g' := (mkF m 14 #[.val (.ref ob), .val (.int 2), .val (.int 0), .val (.int 0)] [])) (fun t k => XS.ifNo X11.here hx rfl (hb hby d4_11) rfl ((if0 _ _).trans (flt (by decide)).1) k) ?_
    refine own_by (T' := T11) (g' := (mkF m 15 #[.val (.ref ob), .val (.int 2), .val (.int 0), .val (.int 0)] [(.int 0)])) (fun t k => XS.iloadN X11.here hx rfl (hb hby d4_14) rfl k) ?_
    refine own_by (T' := T11) (g' := (mkF m 17 #[.val (.ref ob), .val (.int 2), .val (.int 0), .val (.int 0)] [(.int 8), (.int 0)])) (fun t k => XS.bipush X11.here hx rfl (hb hby d4_15) k) ?_
    refine own_by (T' := T11) (g' := (mkF m 18 #[.val (.ref ob), .val (.int 2), .val (.int 0), .val (.int 0)] [(.int ((0 : Int32) <<< ((8 : Int32) &&& 31)))])) (fun t k => XS.ishl X11.here hx rfl (hb hby d4_17) rfl k) ?_
    refine own_by (T' := T11) (g' := (mkF m 19 #[.val (.ref ob), .val (.int 2), .val (.int 0), .val (.int 0)] [(.ref ob), (.int ((0 : Int32) <<< ((8 : Int32) &&& 31)))])) (fun t k => XS.aloadN X11.here hx rfl (hb hby d4_18) rfl rfl k) ?_
    obtain ⟨T13, X13, e13, st13⟩ := getF X11 hx hZ hown (host := "") (Or.inl (hw _ (own_m 16 rfl))) Via.refl e11 F_planes_ob (g := (mkF m 19 #[.val (.ref ob), .val (.int 2), .val (.int 0), .val (.int 0)] [(.ref ob), (.int ((0 : Int32) <<< ((8 : Int32) &&& 31)))])) rfl rfl (hb hby d4_19)
    refine own_by (T' := T13) (g' := (mkF m 22 #[.val (.ref ob), .val (.int 2), .val (.int 0), .val (.int 0)] [(.ref b), (.int ((0 : Int32) <<< ((8 : Int32) &&& 31)))])) (fun t k => st13 t k) ?_
    refine own_by (T' := T13) (g' := (mkF m 23 #[.val (.ref ob), .val (.int 2), .val (.int 0), .val (.int 0)] [(.int 0), (.ref b), (.int ((0 : Int32) <<< ((8 : Int32) &&& 31)))])) (fun t k => XS.iloadN X13.here hx rfl (hb hby d4_22) rfl k) ?_
    obtain ⟨cl14, Ar14, q14, S14, N14, Hs14, G14⟩ := id V_b
    have hin14 : ¬ ((0 : Int32) < 0 ∨ cl14.slots.size ≤ ((0 : Int32)).toNatClampNeg) := inb_of S14 ⟨by decide, by decide⟩
    have hat14 : cl14.slots[((0 : Int32)).toNatClampNeg]? = some (.ref y0) := Hs14.at hin14 rfl
    refine own_by (T' := T13) (g' := (mkF m 24 #[.val (.ref ob), .val (.int 2), .val (.int 0), .val (.int 0)] [(.ref y0), (.int ((0 : Int32) <<< ((8 : Int32) &&& 31)))])) (fun t k => X13.aaload hx (j := (0 : Int32)) (v := (.ref y0)) (by rw [e13]; exact Ar14.1) (State.isArrayOf_alike hZ.alike Ar14.2.1) rfl Ar14.2.2 hin14 hat14 (g := (mkF m 23 #[.val (.ref ob), .val (.int 2), .val (.int 0), .val (.int 0)] [(.int 0), (.ref b), (.int ((0 : Int32) <<< ((8 : Int32) &&& 31)))])) rfl rfl (hb hby d4_23) _ k) ?_
    refine own_by (T' := T13) (g' := (mkF m 25 #[.val (.ref ob), .val (.int 2), .val (.int 0), .val (.int 0)] [(.int 2), (.ref y0), (.int ((0 : Int32) <<< ((8 : Int32) &&& 31)))])) (fun t k => XS.iloadN X13.here hx rfl (hb hby d4_24) rfl k) ?_
    obtain ⟨cl15, Ar15, q15, S15, N15, Hs15, G15⟩ := id V_y0
    have hin15 : ¬ ((2 : Int32) < 0 ∨ cl15.slots.size ≤ ((2 : Int32)).toNatClampNeg) := inb_of S15 ⟨by decide, by decide⟩
    have hat15 : cl15.slots[((2 : Int32)).toNatClampNeg]? = some (.int ee02) := Hs15.at hin15 rfl
    refine own_by (T' := T13) (g' := (mkF m 26 #[.val (.ref ob), .val (.int 2), .val (.int 0), .val (.int 0)] [(.int ee02), (.int ((0 : Int32) <<< ((8 : Int32) &&& 31)))])) (fun t k => X13.baloadBytes hx (j := (2 : Int32)) (v := (.int ee02)) (by rw [e13]; exact Ar15.1) (State.isArrayOf_alike hZ.alike Ar15.2.1) Ar15.2.2 hin15 hat15 (g := (mkF m 25 #[.val (.ref ob), .val (.int 2), .val (.int 0), .val (.int 0)] [(.int 2), (.ref y0), (.int ((0 : Int32) <<< ((8 : Int32) &&& 31)))])) rfl rfl (hb hby d4_25) _ k) ?_
    refine own_by (T' := T13) (g' := (mkF m 29 #[.val (.ref ob), .val (.int 2), .val (.int 0), .val (.int 0)] [(.int 255), (.int ee02), (.int ((0 : Int32) <<< ((8 : Int32) &&& 31)))])) (fun t k => XS.sipush X13.here hx rfl (hb hby d4_26) k) ?_
    refine own_by (T' := T13) (g' := (mkF m 30 #[.val (.ref ob), .val (.int 2), .val (.int 0), .val (.int 0)] [(.int (ee02 &&& (255 : Int32))), (.int ((0 : Int32) <<< ((8 : Int32) &&& 31)))])) (fun t k => XS.iand X13.here hx rfl (hb hby d4_29) rfl k) ?_
    refine own_by (T' := T13) (g' := (mkF m 31 #[.val (.ref ob), .val (.int 2), .val (.int 0), .val (.int 0)] [(.int (((0 : Int32) <<< ((8 : Int32) &&& 31)) ||| (ee02 &&& (255 : Int32))))])) (fun t k => XS.ior X13.here hx rfl (hb hby d4_30) rfl k) ?_
    refine own_by (T' := T13) (g' := (mkF m 32 #[.val (.ref ob), .val (.int 2), .val (.int (((0 : Int32) <<< ((8 : Int32) &&& 31)) ||| (ee02 &&& (255 : Int32)))), .val (.int 0)] [])) (fun t k => XS.istoreN X13.here hx rfl (hb hby d4_31) rfl (l' := #[.val (.ref ob), .val (.int 2), .val (.int (((0 : Int32) <<< ((8 : Int32) &&& 31)) ||| (ee02 &&& (255 : Int32)))), .val (.int 0)]) rfl k) ?_
    refine own_by (T' := T13) (g' := (mkF m 35 #[.val (.ref ob), .val (.int 2), .val (.int (((0 : Int32) <<< ((8 : Int32) &&& 31)) ||| (ee02 &&& (255 : Int32)))), .val (.int (-1))] [])) (fun t k => XS.iinc X13.here hx rfl (hb hby d4_32) rfl (l' := #[.val (.ref ob), .val (.int 2), .val (.int (((0 : Int32) <<< ((8 : Int32) &&& 31)) ||| (ee02 &&& (255 : Int32)))), .val (.int (-1))]) rfl k) ?_
    refine own_by (T' := T13) (g' := (mkF m 10 #[.val (.ref ob), .val (.int 2), .val (.int (((0 : Int32) <<< ((8 : Int32) &&& 31)) ||| (ee02 &&& (255 : Int32)))), .val (.int (-1))] [])) (fun t k => XS.goto X13.here hx rfl (pc0 := 35) (pc' := 10) rfl (hb hby d4_35) (by decide) (by decide) k) ?_
    refine own_by (T' := T13) (g' := (mkF m 11 #[.val (.ref ob), .val (.int 2), .val (.int (((0 : Int32) <<< ((8 : Int32) &&& 31)) ||| (ee02 &&& (255 : Int32)))), .val (.int (-1))] [(.int (-1))])) (fun t k => XS.iloadN X13.here hx rfl (hb hby d4_10) rfl k) ?_
    refine own_by (T' := T13) (g' := (mkF m 38 #[.val (.ref ob), .val (.int 2), .val (.int (((0 : Int32) <<< ((8 : Int32) &&& 31)) ||| (ee02 &&& (255 : Int32)))), .val (.int (-1))] [])) (fun t k => XS.ifYes X13.here hx rfl (pc0 := 11) (pc' := 38) rfl (hb hby d4_11) rfl ((if0 _ _).trans (tlt (by decide)).1) (by decide) (by decide) k) ?_
    refine own_by (T' := T13) (g' := (mkF m 39 #[.val (.ref ob), .val (.int 2), .val (.int (((0 : Int32) <<< ((8 : Int32) &&& 31)) ||| (ee02 &&& (255 : Int32)))), .val (.int (-1))] [(.int (((0 : Int32) <<< ((8 : Int32) &&& 31)) ||| (ee02 &&& (255 : Int32))))])) (fun t k => XS.iloadN X13.here hx rfl (hb hby d4_38) rfl k) ?_
    exact own_retI X13 hx Bd.notSynchronized Bd.returns (hb hby d4_39) (by decide) (by decide) (by rw [e13]; exact ⟨rfl, N_, rfl⟩)

theorem ef_1P2 (m : MethodId) (ob : Addr) (pp : Int32) : entryFrame m #[(.ref ob), (.long 3), (.int pp)] 5 = mkF m 0 #[.val (.ref ob), .val (.long 3), .second, .val (.int pp), .unset] [] := by first | (simp [entryFrame, mkF, argsToLocals, Value.category]; done) | rfl
theorem d1_37 : decode prog_45_method_1_code 37 = .ok (.iinc 4 1, 3) := by decide +kernel
theorem d1_40 : decode prog_45_method_1_code 40 = .ok (.goto (-15), 3) := by decide +kernel
def Q1P2 (Z : State) (ob : Addr) (pp : Int32) (h0 : Heap) (n0 : Nat) (v : Option Value) (h : Heap) (L : List Loc) : Prop := ∃ (b y0 y1 : Addr) (kb kc : ClassId), v = none ∧ Fr n0 L ∧ Keep h0 h [ob] ∧ Exa Z h ob "com/example/cipherloom/cipherloom/core/Letters" ∧ h0.size ≤ b ∧ h0.size ≤ y0 ∧ h0.size ≤ y1 ∧ Fld Z h ob "com/example/cipherloom/cipherloom/core/Letters" "planes" "[[B" (.ref b) ∧ Arv Z h b kb (.array .byte) (2 : Int32) [(.ref y0), (.ref y1)] .null ∧ Arv Z h y0 kc .byte (3 : Int32) [(.int 0), (.int 0), (.int 0)] (.int 0) ∧ Arv Z h y1 kc .byte (3 : Int32) [(.int 0), (.int 0), (.int 0)] (.int 0) ∧ b ≠ y0 ∧ b ≠ y1 ∧ y0 ≠ y1
set_option maxRecDepth 65536 in
set_option maxHeartbeats 40000000 in
theorem rm1P2 (l : Launch) (Z : State) (a0 : Array Value) (hw : ∀ d ∈ tables_1, d.before a0 Z = true) (ws : List Jvm.Cond) (ob : Addr) (pp : Int32) (h0 : Heap) (n0 : Nat) (Zle : n0 ≤ h0.size) (E_ob : Exa Z h0 ob "com/example/cipherloom/cipherloom/core/Letters") (g_ob : n0 ≤ ob) (F_planes_ob : Fld Z h0 ob "com/example/cipherloom/cipherloom/core/Letters" "planes" "[[B" .null) (hn1 : ¬ ((((pp - (1 : Int32)).toUInt32 >>> ((8 : Int32) &&& 31).toUInt32).toInt32) = (0 : Int32))) (hz : (((pp - (1 : Int32)).toUInt32 >>> ((16 : Int32) &&& 31).toUInt32).toInt32) = (0 : Int32)) :
    MetFree l (⟨"com/example/cipherloom/cipherloom/core/Letters", "<init>", "(JI)V"⟩ : MethodName) (head1 (Jvm.Cond.code (⟨"com/example/cipherloom/cipherloom/core/Letters", "<init>", "(JI)V"⟩ : MethodName) prog_45_method_1_code 5 none :: ws) ({ frames := 1, cells := 3, slots := 8, locals := 12 } : Room)) (fun a U => a = #[(.ref ob), (.long 3), (.int pp)] ∧ Z.Warmed39 U.vm ∧ U.heap = h0) (fun _ _ _ _ _ => True) (fun _ U o U' => ∃ v L, o = .returned v ∧ Q1P2 Z ob pp h0 n0 v U'.heap L ∧ FrameEnd U o U' L ({ frames := 1, cells := 3, slots := 8, locals := 12 } : Room).cells ({ frames := 1, cells := 3, slots := 8, locals := 12 } : Room).slots) := by
  refine MetFree.of_bodySF (plainFor_of_name pn_com_example_cipherloom_cipherloom_core_Letters) hisR ?_
  intro p e s m args below meth c s₁ Bd hml0 hP hK
  obtain ⟨rfl, hZ, hh⟩ := hP
  have hx := Bd.exec
  have hby := Bd.bytes
  have hml : c.maxLocals = 5 := hml0
  have hown : s.vm.findClass "com/example/cipherloom/cipherloom/core/Letters" = some m.cls := findClass_of_methodNamed Bd.named
  have hnm := (name_of_methodNamed Bd.named Bd.method).1
  have X0 : Stand p l e ({ frames := 1, cells := 3, slots := 8, locals := 12 } : Room) s m #[(.ref ob), (.long 3), (.int pp)] below meth c s₁ [] 0 0 := Stand.of_body Bd
  have e0 : s₁.heap = h0 := by rw [← hh, Bd.state]; rfl
  have N_ := Fr.nil n0
  have K_ := Keep.refl h0 [ob]
  show own_Goes p.tables e below s (Q1P2 Z ob pp h0 n0) ({ frames := 1, cells := 3, slots := 8, locals := 12 } : Room).cells ({ frames := 1, cells := 3, slots := 8, locals := 12 } : Room).slots s₁ (entryFrame m #[(.ref ob), (.long 3), (.int pp)] 5)
  refine own_by (T' := s₁) (g' := (mkF m 0 #[.val (.ref ob), .val (.long 3), .second, .val (.int pp), .unset] [])) (fun t k => castTop (ef_1P2 m ob pp) k) ?_
  refine own_by (T' := s₁) (g' := (mkF m 1 #[.val (.ref ob), .val (.long 3), .second, .val (.int pp), .unset] [(.ref ob)])) (fun t k => XS.aloadN X0.here hx rfl (hb hby d1_0) rfl rfl k) ?_
  obtain ⟨T1, X1, e1, st1⟩ := initO X0 hx hZ hown (hw _ (own_m 9 rfl)) (hw _ (own_m 10 rfl)) (hw _ (own_m 11 rfl)) e0 (g := (mkF m 1 #[.val (.ref ob), .val (.long 3), .second, .val (.int pp), .unset] [(.ref ob)])) rfl (by rw [hml]; rfl) rfl (hb hby d1_1) (by decide) (W := 0) (own_le rfl) (by decide)
  refine own_by (T' := T1) (g' := (mkF m 4 #[.val (.ref ob), .val (.long 3), .second, .val (.int pp), .unset] [])) (fun t k => st1 t k) ?_
  refine own_by (T' := T1) (g' := (mkF m 5 #[.val (.ref ob), .val (.long 3), .second, .val (.int pp), .unset] [(.long 3)])) (fun t k => XS.lloadN X1.here hx rfl (hb hby d1_4) rfl k) ?_
  refine own_by (T' := T1) (g' := (mkF m 8 #[.val (.ref ob), .val (.long 3), .second, .val (.int pp), .unset] [(.long 2147483639), (.long 3)])) (fun t k => X1.ldc2Long hx hown (mvT hZ (hw _ (own_m 12 rfl))) (g := (mkF m 5 #[.val (.ref ob), .val (.long 3), .second, .val (.int pp), .unset] [(.long 3)])) rfl (hb hby d1_5) _ k) ?_
  refine own_by (T' := T1) (g' := (mkF m 9 #[.val (.ref ob), .val (.long 3), .second, .val (.int pp), .unset] [(.int (lcmpW (3 : Int64) (2147483639 : Int64)))])) (fun t k => XS.lcmp X1.here hx rfl (hb hby d1_8) rfl k) ?_
  refine own_by (T' := T1) (g' := (mkF m 22 #[.val (.ref ob), .val (.long 3), .second, .val (.int pp), .unset] [])) (fun t k => XS.ifYes X1.here hx rfl (pc0 := 9) (pc' := 22) rfl (hb hby d1_9) rfl ((if0 _ _).trans (flt (fun q => (by decide : ¬ ((2147483639 : Int64) < (3 : Int64))) ((lw_gt _ _).mp q))).2.2.2) (by decide) (by decide) k) ?_
  refine own_by (T' := T1) (g' := (mkF m 23 #[.val (.ref ob), .val (.long 3), .second, .val (.int pp), .unset] [(.int 1)])) (fun t k => XS.iconst X1.here hx rfl (hb hby d1_22) k) ?_
  refine own_by (T' := T1) (g' := (mkF m 25 #[.val (.ref ob), .val (.long 3), .second, .val (.int pp), .val (.int 1)] [])) (fun t k => XS.istore X1.here hx rfl (hb hby d1_23) rfl (l' := #[.val (.ref ob), .val (.long 3), .second, .val (.int pp), .val (.int 1)]) rfl k) ?_
  refine own_by (T' := T1) (g' := (mkF m 26 #[.val (.ref ob), .val (.long 3), .second, .val (.int pp), .val (.int 1)] [(.int pp)])) (fun t k => XS.iloadN X1.here hx rfl (hb hby d1_25) rfl k) ?_
  refine own_by (T' := T1) (g' := (mkF m 27 #[.val (.ref ob), .val (.long 3), .second, .val (.int pp), .val (.int 1)] [(.int 1), (.int pp)])) (fun t k => XS.iconst X1.here hx rfl (hb hby d1_26) k) ?_
  refine own_by (T' := T1) (g' := (mkF m 28 #[.val (.ref ob), .val (.long 3), .second, .val (.int pp), .val (.int 1)] [(.int (pp - (1 : Int32)))])) (fun t k => XS.isub X1.here hx rfl (hb hby d1_27) rfl k) ?_
  refine own_by (T' := T1) (g' := (mkF m 30 #[.val (.ref ob), .val (.long 3), .second, .val (.int pp), .val (.int 1)] [(.int 8), (.int (pp - (1 : Int32)))])) (fun t k => XS.bipush X1.here hx rfl (hb hby d1_28) k) ?_
  refine own_by (T' := T1) (g' := (mkF m 32 #[.val (.ref ob), .val (.long 3), .second, .val (.int pp), .val (.int 1)] [(.int 1), (.int 8), (.int (pp - (1 : Int32)))])) (fun t k => XS.iload X1.here hx rfl (hb hby d1_30) rfl k) ?_
  refine own_by (T' := T1) (g' := (mkF m 33 #[.val (.ref ob), .val (.long 3), .second, .val (.int pp), .val (.int 1)] [(.int 8), (.int (pp - (1 : Int32)))])) (fun t k => XS.imul X1.here hx rfl (hb hby d1_32) rfl k) ?_
  refine own_by (T' := T1) (g' := (mkF m 34 #[.val (.ref ob), .val (.long 3), .second, .val (.int pp), .val (.int 1)] [(.int (((pp - (1 : Int32)).toUInt32 >>> ((8 : Int32) &&& 31).toUInt32).toInt32))])) (fun t k => XS.iushr X1.here hx rfl (hb hby d1_33) rfl k) ?_
  refine own_by (T' := T1) (g' := (mkF m 37 #[.val (.ref ob), .val (.long 3), .second, .val (.int pp), .val (.int 1)] [])) (fun t k => XS.ifNo X1.here hx rfl (hb hby d1_34) rfl ((if0 _ _).trans (feq hn1).1) k) ?_
  refine own_by (T' := T1) (g' := (mkF m 40 #[.val (.ref ob), .val (.long 3), .second, .val (.int pp), .val (.int 2)] [])) (fun t k => XS.iinc X1.here hx rfl (hb hby d1_37) rfl (l' := #[.val (.ref ob), .val (.long 3), .second, .val (.int pp), .val (.int 2)]) rfl k) ?_
  refine own_by (T' := T1) (g' := (mkF m 25 #[.val (.ref ob), .val (.long 3), .second, .val (.int pp), .val (.int 2)] [])) (fun t k => XS.goto X1.here hx rfl (pc0 := 40) (pc' := 25) rfl (hb hby d1_40) (by decide) (by decide) k) ?_
  refine own_by (T' := T1) (g' := (mkF m 26 #[.val (.ref ob), .val (.long 3), .second, .val (.int pp), .val (.int 2)] [(.int pp)])) (fun t k => XS.iloadN X1.here hx rfl (hb hby d1_25) rfl k) ?_
  refine own_by (T' := T1) (g' := (mkF m 27 #[.val (.ref ob), .val (.long 3), .second, .val (.int pp), .val (.int 2)] [(.int 1), (.int pp)])) (fun t k => XS.iconst X1.here hx rfl (hb hby d1_26) k) ?_
  refine own_by (T' := T1) (g' := (mkF m 28 #[.val (.ref ob), .val (.long 3), .second, .val (.int pp), .val (.int 2)] [(.int (pp - (1 : Int32)))])) (fun t k => XS.isub X1.here hx rfl (hb hby d1_27) rfl k) ?_
  refine own_by (T' := T1) (g' := (mkF m 30 #[.val (.ref ob), .val (.long 3), .second, .val (.int pp), .val (.int 2)] [(.int 8), (.int (pp - (1 : Int32)))])) (fun t k => XS.bipush X1.here hx rfl (hb hby d1_28) k) ?_
  refine own_by (T' := T1) (g' := (mkF m 32 #[.val (.ref ob), .val (.long 3), .second, .val (.int pp), .val (.int 2)] [(.int 2), (.int 8), (.int (pp - (1 : Int32)))])) (fun t k => XS.iload X1.here hx rfl (hb hby d1_30) rfl k) ?_
  refine own_by (T' := T1) (g' := (mkF m 33 #[.val (.ref ob), .val (.long 3), .second, .val (.int pp), .val (.int 2)] [(.int 16), (.int (pp - (1 : Int32)))])) (fun t k => XS.imul X1.here hx rfl (hb hby d1_32) rfl k) ?_
  refine own_by (T' := T1) (g' := (mkF m 34 #[.val (.ref ob), .val (.long 3), .second, .val (.int pp), .val (.int 2)] [(.int (((pp - (1 : Int32)).toUInt32 >>> ((16 : Int32) &&& 31).toUInt32).toInt32))])) (fun t k => XS.iushr X1.here hx rfl (hb hby d1_33) rfl k) ?_
  refine own_by (T' := T1) (g' := (mkF m 43 #[.val (.ref ob), .val (.long 3), .second, .val (.int pp), .val (.int 2)] [])) (fun t k => XS.ifYes X1.here hx rfl (pc0 := 34) (pc' := 43) rfl (hb hby d1_34) rfl ((if0 _ _).trans (teq hz).1) (by decide) (by decide) k) ?_
  refine own_by (T' := T1) (g' := (mkF m 44 #[.val (.ref ob), .val (.long 3), .second, .val (.int pp), .val (.int 2)] [(.ref ob)])) (fun t k => XS.aloadN X1.here hx rfl (hb hby d1_43) rfl rfl k) ?_
  refine own_by (T' := T1) (g' := (mkF m 46 #[.val (.ref ob), .val (.long 3), .second, .val (.int pp), .val (.int 2)] [(.int 2), (.ref ob)])) (fun t k => XS.iload X1.here hx rfl (hb hby d1_44) rfl k) ?_
  refine own_by (T' := T1) (g' := (mkF m 47 #[.val (.ref ob), .val (.long 3), .second, .val (.int pp), .val (.int 2)] [(.long 3), (.int 2), (.ref ob)])) (fun t k => XS.lloadN X1.here hx rfl (hb hby d1_46) rfl k) ?_
  refine own_by (T' := T1) (g' := (mkF m 48 #[.val (.ref ob), .val (.long 3), .second, .val (.int pp), .val (.int 2)] [(.int 3), (.int 2), (.ref ob)])) (fun t k => XS.l2i X1.here hx rfl (hb hby d1_47) rfl k) ?_
  obtain ⟨y2_0, hyy2_0⟩ : ∃ z, z = h0.size + 1 + 0 := ⟨_, rfl⟩
  obtain ⟨y2_1, hyy2_1⟩ : ∃ z, z = h0.size + 1 + 1 := ⟨_, rfl⟩
  obtain ⟨T2, h2, k2, c2, X2, e2, E2, A2, O2, AE2, I2, st2⟩ := gridM X1 hx hZ hown (C := "[B") (ad := "[[B") (ty := .byte) (by decide) (by decide) (hw _ (own_m 13 rfl)) (hw _ (own_m 14 rfl)) (hw _ (own_m 15 rfl)) e1 (g := (mkF m 48 #[.val (.ref ob), .val (.long 3), .second, .val (.int pp), .val (.int 2)] [(.int 3), (.int 2), (.ref ob)])) rfl (hb hby d1_48) rfl (by decide) (by decide) (xs := [y2_0, y2_1]) (N := 2) (by decide) (by rw [hyy2_0]; rw [hyy2_1]; rfl) (cap := 3) (by decide) (by decide) (by decide) rfl rfl (by decide) (by decide)
  obtain ⟨b2, g2⟩ : ∃ z, z = h0.size := ⟨_, rfl⟩
  rw [← g2] at A2 AE2 st2
  have ne_ob_y2_0 : ob ≠ y2_0 := Nat.ne_of_lt (Nat.lt_of_lt_of_le E_ob.lt (by omega))
  have g_y2_0 : n0 ≤ y2_0 := by have := Zle; omega
  have sz_y2_0 : h0.size ≤ y2_0 := by have := K_.1; omega
  have ne_b2_y2_0 : b2 ≠ y2_0 := by omega
  have ne_y2_0_y2_1 : y2_0 ≠ y2_1 := by omega
  have ne_ob_y2_1 : ob ≠ y2_1 := Nat.ne_of_lt (Nat.lt_of_lt_of_le E_ob.lt (by omega))
  have g_y2_1 : n0 ≤ y2_1 := by have := Zle; omega
  have sz_y2_1 : h0.size ≤ y2_1 := by have := K_.1; omega
  have ne_b2_y2_1 : b2 ≠ y2_1 := by omega
  have ne_ob_b2 : ob ≠ b2 := Nat.ne_of_lt (Nat.lt_of_lt_of_eq E_ob.lt g2.symm)
  have g_b2 : n0 ≤ b2 := Nat.le_trans Zle (Nat.le_of_eq g2.symm)
  have sz_b2 : h0.size ≤ b2 := Nat.le_trans K_.1 (Nat.le_of_eq g2.symm)
  have E_ob := E_ob.ext E2
  have F_planes_ob := F_planes_ob.ext E2
  have Zle := Nat.le_trans Zle E2.1
  have K_ := K_.ext E2
  have V_b2 : Arv Z h2 b2 k2 (.array .byte) (2 : Int32) [(.ref y2_0), (.ref y2_1)] .null := A2
  have V_y2_0 : Arv Z h2 y2_0 c2 .byte (3 : Int32) [(.int 0), (.int 0), (.int 0)] (.int 0) := (Arv.new (I2 0 y2_0 rfl).1 (by decide)).pad (pad_rep [] (.int 0) 3)
  have V_y2_1 : Arv Z h2 y2_1 c2 .byte (3 : Int32) [(.int 0), (.int 0), (.int 0)] (.int 0) := (Arv.new (I2 1 y2_1 rfl).1 (by decide)).pad (pad_rep [] (.int 0) 3)
  refine own_by (T' := T2) (g' := (mkF m 52 #[.val (.ref ob), .val (.long 3), .second, .val (.int pp), .val (.int 2)] [(.ref b2), (.ref ob)])) (fun t k => st2 t k) ?_
  obtain ⟨T3, h3, X3, e3, W3, st3⟩ := putF X2 hx hZ hown (host := "") (Or.inl (hw _ (own_m 16 rfl))) Via.refl e2 F_planes_ob E_ob (Or.inr ⟨(hw _ (own_m 17 rfl)), rfl, hnm⟩) (hw _ (own_m 3 rfl)) (ty := (.array (.array .byte))) (by decide) rfl rfl (g := (mkF m 52 #[.val (.ref ob), .val (.long 3), .second, .val (.int pp), .val (.int 2)] [(.ref b2), (.ref ob)])) rfl rfl (hb hby d1_52)
  have F_planes_ob_ := F_planes_ob.same W3
  have E_ob := E_ob.wr W3
  have Zle := Nat.le_trans Zle (Keep.of_wr W3).1
  have K_ := K_.wr W3 (Or.inl (List.mem_of_getElem? (i := 0) rfl))
  have V_b2 := V_b2.other W3 ne_ob_b2.symm
  have V_y2_0 := V_y2_0.other W3 ne_ob_y2_0.symm
  have V_y2_1 := V_y2_1.other W3 ne_ob_y2_1.symm
  have F_planes_ob := F_planes_ob_
  have N_ := Fr.snoc X3 N_ g_ob
  refine own_by (T' := T3) (g' := (mkF m 55 #[.val (.ref ob), .val (.long 3), .second, .val (.int pp), .val (.int 2)] [])) (fun t k => st3 t k) ?_
  exact own_retV X3 hx Bd.notSynchronized Bd.returns (hb hby d1_55) (by decide) (by decide) (by rw [e3]; exact ⟨b2, y2_0, y2_1, _, _, rfl, N_, K_, E_ob, sz_b2, sz_y2_0, sz_y2_1, F_planes_ob, V_b2, V_y2_0, V_y2_1, ne_b2_y2_0, ne_b2_y2_1, ne_y2_0_y2_1⟩)

theorem ef_3P2 (m : MethodId) (ob : Addr) (jj : Int32) (pp : Int32) : entryFrame m #[(.ref ob), (.int jj), (.int pp)] 4 = mkF m 0 #[.val (.ref ob), .val (.int jj), .val (.int pp), .unset] [] := by first | (simp [entryFrame, mkF, argsToLocals, Value.category]; done) | rfl
def Q3P2 (Z : State) (ob : Addr) (jj : Int32) (pp : Int32) (b : Addr) (y0 : Addr) (y1 : Addr) (kb : ClassId) (kc : ClassId) (ee00 : Int32) (ee01 : Int32) (ee02 : Int32) (ee10 : Int32) (ee11 : Int32) (ee12 : Int32) (h0 : Heap) (n0 : Nat) (v : Option Value) (h : Heap) (L : List Loc) : Prop := v = none ∧ Fr n0 L ∧ Keep h0 h [y0, y1] ∧ Arv Z h b kb (.array .byte) (2 : Int32) [(.ref y0), (.ref y1)] .null ∧ Arv Z h y0 kc .byte (3 : Int32) [(.int (own_pk jj (0 : Int32) (own_e0 pp) ee00)), (.int (own_pk jj (1 : Int32) (own_e0 pp) ee01)), (.int (own_pk jj (2 : Int32) (own_e0 pp) ee02))] (.int 0) ∧ Arv Z h y1 kc .byte (3 : Int32) [(.int (own_pk jj (0 : Int32) (own_e1 pp) ee10)), (.int (own_pk jj (1 : Int32) (own_e1 pp) ee11)), (.int (own_pk jj (2 : Int32) (own_e1 pp) ee12))] (.int 0)
set_option maxRecDepth 65536 in
set_option maxHeartbeats 40000000 in
theorem rm3P2 (l : Launch) (Z : State) (a0 : Array Value) (hw : ∀ d ∈ tables_1, d.before a0 Z = true) (ws : List Jvm.Cond) (ob : Addr) (jj : Int32) (pp : Int32) (b : Addr) (y0 : Addr) (y1 : Addr) (kb : ClassId) (kc : ClassId) (ee00 : Int32) (ee01 : Int32) (ee02 : Int32) (ee10 : Int32) (ee11 : Int32) (ee12 : Int32) (h0 : Heap) (n0 : Nat) (Zle : n0 ≤ h0.size) (F_planes_ob : Fld Z h0 ob "com/example/cipherloom/cipherloom/core/Letters" "planes" "[[B" (.ref b)) (V_b : Arv Z h0 b kb (.array .byte) (2 : Int32) [(.ref y0), (.ref y1)] .null) (V_y0 : Arv Z h0 y0 kc .byte (3 : Int32) [(.int ee00), (.int ee01), (.int ee02)] (.int 0)) (V_y1 : Arv Z h0 y1 kc .byte (3 : Int32) [(.int ee10), (.int ee11), (.int ee12)] (.int 0)) (g_y0 : n0 ≤ y0) (g_y1 : n0 ≤ y1) (ne_b_y0 : b ≠ y0) (ne_b_y1 : b ≠ y1) (ne_y0_y1 : y0 ≠ y1) (ne_ob_y0 : ob ≠ y0) (ne_ob_y1 : ob ≠ y1) (hj : jj = 0 ∨ jj = 1 ∨ jj = 2) :
    MetFree l (⟨"com/example/cipherloom/cipherloom/core/Letters", "set", "(II)V"⟩ : MethodName) (head1 (Jvm.Cond.code (⟨"com/example/cipherloom/cipherloom/core/Letters", "set", "(II)V"⟩ : MethodName) prog_45_method_6_code 4 none :: ws) ({ frames := 0, cells := 0, slots := 0, locals := 0 } : Room)) (fun a U => a = #[(.ref ob), (.int jj), (.int pp)] ∧ Z.Warmed39 U.vm ∧ U.heap = h0) (fun _ _ _ _ _ => True) (fun _ U o U' => ∃ v L, o = .returned v ∧ Q3P2 Z ob jj pp b y0 y1 kb kc ee00 ee01 ee02 ee10 ee11 ee12 h0 n0 v U'.heap L ∧ FrameEnd U o U' L ({ frames := 0, cells := 0, slots := 0, locals := 0 } : Room).cells ({ frames := 0, cells := 0, slots := 0, locals := 0 } : Room).slots) := by
  refine MetFree.of_bodySF (plainFor_of_name pn_com_example_cipherloom_cipherloom_core_Letters) hisR ?_
  intro p e s m args below meth c s₁ Bd hml0 hP hK
  obtain ⟨rfl, hZ, hh⟩ := hP
  have hx := Bd.exec
  have hby := Bd.bytes
  have hml : c.maxLocals = 4 := hml0
  have hown : s.vm.findClass "com/example/cipherloom/cipherloom/core/Letters" = some m.cls := findClass_of_methodNamed Bd.named
  have hnm := (name_of_methodNamed Bd.named Bd.method).1
  have X0 : Stand p l e ({ frames := 0, cells := 0, slots := 0, locals := 0 } : Room) s m #[(.ref ob), (.int jj), (.int pp)] below meth c s₁ [] 0 0 := Stand.of_body Bd
  have e0 : s₁.heap = h0 := by rw [← hh, Bd.state]; rfl
  have N_ := Fr.nil n0
  have K_ := Keep.refl h0 [y0, y1]
  show own_Goes p.tables e below s (Q3P2 Z ob jj pp b y0 y1 kb kc ee00 ee01 ee02 ee10 ee11 ee12 h0 n0) ({ frames := 0, cells := 0, slots := 0, locals := 0 } : Room).cells ({ frames := 0, cells := 0, slots := 0, locals := 0 } : Room).slots s₁ (entryFrame m #[(.ref ob), (.int jj), (.int pp)] 4)
  refine own_by (T' := s₁) (g' := (mkF m 0 #[.val (.ref ob), .val (.int jj), .val (.int pp), .unset] [])) (fun t k => castTop (ef_3P2 m ob jj pp) k) ?_
  rcases hj with rfl | rfl | rfl
  · refine own_by (T' := s₁) (g' := (mkF m 1 #[.val (.ref ob), .val (.int 0), .val (.int pp), .unset] [(.int 0)])) (fun t k => XS.iconst X0.here hx rfl (hb hby d3_0) k) ?_
    refine own_by (T' := s₁) (g' := (mkF m 2 #[.val (.ref ob), .val (.int 0), .val (.int pp), .val (.int 0)] [])) (fun t k => XS.istoreN X0.here hx rfl (hb hby d3_1) rfl (l' := #[.val (.ref ob), .val (.int 0), .val (.int pp), .val (.int 0)]) rfl k) ?_
    refine own_by (T' := s₁) (g' := (mkF m 3 #[.val (.ref ob), .val (.int 0), .val (.int pp), .val (.int 0)] [(.int 0)])) (fun t k => XS.iloadN X0.here hx rfl (hb hby d3_2) rfl k) ?_
    refine own_by (T' := s₁) (g' := (mkF m 4 #[.val (.ref ob), .val (.int 0), .val (.int pp), .val (.int 0)] [(.ref ob), (.int 0)])) (fun t k => XS.aloadN X0.here hx rfl (hb hby d3_3) rfl rfl k) ?_
    obtain ⟨T1, X1, e1, st1⟩ := getF X0 hx hZ hown (host := "") (Or.inl (hw _ (own_m 16 rfl))) Via.refl e0 F_planes_ob (g := (mkF m 4 #[.val (.ref ob), .val (.int 0), .val (.int pp), .val (.int 0)] [(.ref ob), (.int 0)])) rfl rfl (hb hby d3_4)
    refine own_by (T' := T1) (g' := (mkF m 7 #[.val (.ref ob), .val (.int 0), .val (.int pp), .val (.int 0)] [(.ref b), (.int 0)])) (fun t k => st1 t k) ?_
    obtain ⟨cl2, Ar2, -, S2, N2, -, -⟩ := id V_b
    have st2 : ∀ t, Steps p.tables e below (T1.setTop (mkF m 8 #[.val (.ref ob), .val (.int 0), .val (.int pp), .val (.int 0)] [(.int 2), (.int 0)])) t → Steps p.tables e below (T1.setTop (mkF m 7 #[.val (.ref ob), .val (.int 0), .val (.int pp), .val (.int 0)] [(.ref b), (.int 0)])) t := fun t k => X1.arraylength hx (by rw [e1]; exact Ar2.1) (State.isArrayOf_alike hZ.alike Ar2.2.1) (g := (mkF m 7 #[.val (.ref ob), .val (.int 0), .val (.int pp), .val (.int 0)] [(.ref b), (.int 0)])) rfl rfl (hb hby d3_7) _ (by rw [len_of S2 N2]; exact k)
    refine own_by (T' := T1) (g' := (mkF m 8 #[.val (.ref ob), .val (.int 0), .val (.int pp), .val (.int 0)] [(.int 2), (.int 0)])) (fun t k => st2 t k) ?_
    refine own_by (T' := T1) (g' := (mkF m 11 #[.val (.ref ob), .val (.int 0), .val (.int pp), .val (.int 0)] [])) (fun t k => XS.icmpNo X1.here hx rfl (hb hby d3_8) rfl (tlt (by decide)).2.1 k) ?_
    refine own_by (T' := T1) (g' := (mkF m 12 #[.val (.ref ob), .val (.int 0), .val (.int pp), .val (.int 0)] [(.ref ob)])) (fun t k => XS.aloadN X1.here hx rfl (hb hby d3_11) rfl rfl k) ?_
    obtain ⟨T3, X3, e3, st3⟩ := getF X1 hx hZ hown (host := "") (Or.inl (hw _ (own_m 16 rfl))) Via.refl e1 F_planes_ob (g := (mkF m 12 #[.val (.ref ob), .val (.int 0), .val (.int pp), .val (.int 0)] [(.ref ob)])) rfl rfl (hb hby d3_12)
    refine own_by (T' := T3) (g' := (mkF m 15 #[.val (.ref ob), .val (.int 0), .val (.int pp), .val (.int 0)] [(.ref b)])) (fun t k => st3 t k) ?_
    refine own_by (T' := T3) (g' := (mkF m 16 #[.val (.ref ob), .val (.int 0), .val (.int pp), .val (.int 0)] [(.int 0), (.ref b)])) (fun t k => XS.iloadN X3.here hx rfl (hb hby d3_15) rfl k) ?_
    obtain ⟨cl4, Ar4, q4, S4, N4, Hs4, G4⟩ := id V_b
    have hin4 : ¬ ((0 : Int32) < 0 ∨ cl4.slots.size ≤ ((0 : Int32)).toNatClampNeg) := inb_of S4 ⟨by decide, by decide⟩
    have hat4 : cl4.slots[((0 : Int32)).toNatClampNeg]? = some (.ref y0) := Hs4.at hin4 rfl
    refine own_by (T' := T3) (g' := (mkF m 17 #[.val (.ref ob), .val (.int 0), .val (.int pp), .val (.int 0)] [(.ref y0)])) (fun t k => X3.aaload hx (j := (0 : Int32)) (v := (.ref y0)) (by rw [e3]; exact Ar4.1) (State.isArrayOf_alike hZ.alike Ar4.2.1) rfl Ar4.2.2 hin4 hat4 (g := (mkF m 16 #[.val (.ref ob), .val (.int 0), .val (.int pp), .val (.int 0)] [(.int 0), (.ref b)])) rfl rfl (hb hby d3_16) _ k) ?_
    refine own_by (T' := T3) (g' := (mkF m 18 #[.val (.ref ob), .val (.int 0), .val (.int pp), .val (.int 0)] [(.int 0), (.ref y0)])) (fun t k => XS.iloadN X3.here hx rfl (hb hby d3_17) rfl k) ?_
    refine own_by (T' := T3) (g' := (mkF m 19 #[.val (.ref ob), .val (.int 0), .val (.int pp), .val (.int 0)] [(.int pp), (.int 0), (.ref y0)])) (fun t k => XS.iloadN X3.here hx rfl (hb hby d3_18) rfl k) ?_
    refine own_by (T' := T3) (g' := (mkF m 21 #[.val (.ref ob), .val (.int 0), .val (.int pp), .val (.int 0)] [(.int 8), (.int pp), (.int 0), (.ref y0)])) (fun t k => XS.bipush X3.here hx rfl (hb hby d3_19) k) ?_
    refine own_by (T' := T3) (g' := (mkF m 22 #[.val (.ref ob), .val (.int 0), .val (.int pp), .val (.int 0)] [(.int 0), (.int 8), (.int pp), (.int 0), (.ref y0)])) (fun t k => XS.iloadN X3.here hx rfl (hb hby d3_21) rfl k) ?_
    refine own_by (T' := T3) (g' := (mkF m 23 #[.val (.ref ob), .val (.int 0), .val (.int pp), .val (.int 0)] [(.int 0), (.int pp), (.int 0), (.ref y0)])) (fun t k => XS.imul X3.here hx rfl (hb hby d3_22) rfl k) ?_
    refine own_by (T' := T3) (g' := (mkF m 24 #[.val (.ref ob), .val (.int 0), .val (.int pp), .val (.int 0)] [(.int ((pp.toUInt32 >>> ((0 : Int32) &&& 31).toUInt32).toInt32)), (.int 0), (.ref y0)])) (fun t k => XS.iushr X3.here hx rfl (hb hby d3_23) rfl k) ?_
    refine own_by (T' := T3) (g' := (mkF m 25 #[.val (.ref ob), .val (.int 0), .val (.int pp), .val (.int 0)] [(.int (((pp.toUInt32 >>> ((0 : Int32) &&& 31).toUInt32).toInt32).toInt8.toInt32)), (.int 0), (.ref y0)])) (fun t k => XS.i2b X3.here hx rfl (hb hby d3_24) rfl k) ?_
    obtain ⟨cl5, Ar5, q5, S5, N5, Hs5, G5⟩ := id V_y0
    have hin5 : ¬ ((0 : Int32) < 0 ∨ cl5.slots.size ≤ ((0 : Int32)).toNatClampNeg) := inb_of S5 ⟨by decide, by decide⟩
    obtain ⟨T5, h5, X5, e5, W5, st5⟩ := stB X3 hx hZ e3 Ar5 (j := (0 : Int32)) hin5 (g := (mkF m 25 #[.val (.ref ob), .val (.int 0), .val (.int pp), .val (.int 0)] [(.int (((pp.toUInt32 >>> ((0 : Int32) &&& 31).toUInt32).toInt32).toInt8.toInt32)), (.int 0), (.ref y0)])) rfl rfl (hb hby d3_25)
    have V_y0_ : Arv Z h5 y0 kc .byte (3 : Int32) [(.int (nar .byte (((pp.toUInt32 >>> ((0 : Int32) &&& 31).toUInt32).toInt32).toInt8.toInt32))), (.int ee01), (.int ee02)] (.int 0) := Arv.set Ar5 q5 S5 N5 Hs5 G5 (fits_nar_byte _) W5 0 rfl (Nat.le_of_ble_eq_true rfl)
    have F_planes_ob := F_planes_ob.other W5 (Or.inl ne_ob_y0)
    have V_b := V_b.other W5 ne_b_y0
    have V_y1 := V_y1.other W5 ne_y0_y1.symm
    have Zle := Nat.le_trans Zle (Keep.of_wr W5).1
    have K_ := K_.wr W5 (Or.inl (List.mem_of_getElem? (i := 0) rfl))
    have V_y0 := V_y0_
    have N_ := Fr.snoc X5 N_ g_y0
    refine own_by (T' := T5) (g' := (mkF m 26 #[.val (.ref ob), .val (.int 0), .val (.int pp), .val (.int 0)] [])) (fun t k => st5 t k) ?_
    refine own_by (T' := T5) (g' := (mkF m 29 #[.val (.ref ob), .val (.int 0), .val (.int pp), .val (.int 1)] [])) (fun t k => XS.iinc X5.here hx rfl (hb hby d3_26) rfl (l' := #[.val (.ref ob), .val (.int 0), .val (.int pp), .val (.int 1)]) rfl k) ?_
    refine own_by (T' := T5) (g' := (mkF m 2 #[.val (.ref ob), .val (.int 0), .val (.int pp), .val (.int 1)] [])) (fun t k => XS.goto X5.here hx rfl (pc0 := 29) (pc' := 2) rfl (hb hby d3_29) (by decide) (by decide) k) ?_
    refine own_by (T' := T5) (g' := (mkF m 3 #[.val (.ref ob), .val (.int 0), .val (.int pp), .val (.int 1)] [(.int 1)])) (fun t k => XS.iloadN X5.here hx rfl (hb hby d3_2) rfl k) ?_
    refine own_by (T' := T5) (g' := (mkF m 4 #[.val (.ref ob), .val (.int 0), .val (.int pp), .val (.int 1)] [(.ref ob), (.int 1)])) (fun t k => XS.aloadN X5.here hx rfl (hb hby d3_3) rfl rfl k) ?_
    obtain ⟨T6, X6, e6, st6⟩ := getF X5 hx hZ hown (host := "") (Or.inl (hw _ (own_m 16 rfl))) Via.refl e5 F_planes_ob (g := (mkF m 4 #[.val (.ref ob), .val (.int 0), .val (.int pp), .val (.int 1)] [(.ref ob), (.int 1)])) rfl rfl (hb hby d3_4)
    refine own_by (T' := T6) (g' := (mkF m 7 #[.val (.ref ob), .val (.int 0), .val (.int pp), .val (.int 1)] [(.ref b), (.int 1)])) (fun t k => st6 t k) ?_
    obtain ⟨cl7, Ar7, -, S7, N7, -, -⟩ := id V_b
    have st7 : ∀ t, Steps p.tables e below (T6.setTop (mkF m 8 #[.val (.ref ob), .val (.int 0), .val (.int pp), .val (.int 1)] [(.int 2), (.int 1)])) t → Steps p.tables e below (T6.setTop (mkF m 7 #[.val (.ref ob), .val (.int 0), .val (.int pp), .val (.int 1)] [(.ref b), (.int 1)])) t := fun t k => X6.arraylength hx (by rw [e6]; exact Ar7.1) (State.isArrayOf_alike hZ.alike Ar7.2.1) (g := (mkF m 7 #[.val (.ref ob), .val (.int 0), .val (.int pp), .val (.int 1)] [(.ref b), (.int 1)])) rfl rfl (hb hby d3_7) _ (by rw [len_of S7 N7]; exact k)
    refine own_by (T' := T6) (g' := (mkF m 8 #[.val (.ref ob), .val (.int 0), .val (.int pp), .val (.int 1)] [(.int 2), (.int 1)])) (fun t k => st7 t k) ?_
    refine own_by (T' := T6) (g' := (mkF m 11 #[.val (.ref ob), .val (.int 0), .val (.int pp), .val (.int 1)] [])) (fun t k => XS.icmpNo X6.here hx rfl (hb hby d3_8) rfl (tlt (by decide)).2.1 k) ?_
    refine own_by (T' := T6) (g' := (mkF m 12 #[.val (.ref ob), .val (.int 0), .val (.int pp), .val (.int 1)] [(.ref ob)])) (fun t k => XS.aloadN X6.here hx rfl (hb hby d3_11) rfl rfl k) ?_
    obtain ⟨T8, X8, e8, st8⟩ := getF X6 hx hZ hown (host := "") (Or.inl (hw _ (own_m 16 rfl))) Via.refl e6 F_planes_ob (g := (mkF m 12 #[.val (.ref ob), .val (.int 0), .val (.int pp), .val (.int 1)] [(.ref ob)])) rfl rfl (hb hby d3_12)
    refine own_by (T' := T8) (g' := (mkF m 15 #[.val (.ref ob), .val (.int 0), .val (.int pp), .val (.int 1)] [(.ref b)])) (fun t k => st8 t k) ?_
    refine own_by (T' := T8) (g' := (mkF m 16 #[.val (.ref ob), .val (.int 0), .val (.int pp), .val (.int 1)] [(.int 1), (.ref b)])) (fun t k => XS.iloadN X8.here hx rfl (hb hby d3_15) rfl k) ?_
    obtain ⟨cl9, Ar9, q9, S9, N9, Hs9, G9⟩ := id V_b
    have hin9 : ¬ ((1 : Int32) < 0 ∨ cl9.slots.size ≤ ((1 : Int32)).toNatClampNeg) := inb_of S9 ⟨by decide, by decide⟩
    have hat9 : cl9.slots[((1 : Int32)).toNatClampNeg]? = some (.ref y1) := Hs9.at hin9 rfl
    refine own_by (T' := T8) (g' := (mkF m 17 #[.val (.ref ob), .val (.int 0), .val (.int pp), .val (.int 1)] [(.ref y1)])) (fun t k => X8.aaload hx (j := (1 : Int32)) (v := (.ref y1)) (by rw [e8]; exact Ar9.1) (State.isArrayOf_alike hZ.alike Ar9.2.1) rfl Ar9.2.2 hin9 hat9 (g := (mkF m 16 #[.val (.ref ob), .val (.int 0), .val (.int pp), .val (.int 1)] [(.int 1), (.ref b)])) rfl rfl (hb hby d3_16) _ k) ?_
    refine own_by (T' := T8) (g' := (mkF m 18 #[.val (.ref ob), .val (.int 0), .val (.int pp), .val (.int 1)] [(.int 0), (.ref y1)])) (fun t k => XS.iloadN X8.here hx rfl (hb hby d3_17) rfl k) ?_
    refine own_by (T' := T8) (g' := (mkF m 19 #[.val (.ref ob), .val (.int 0), .val (.int pp), .val (.int 1)] [(.int pp), (.int 0), (.ref y1)])) (fun t k => XS.iloadN X8.here hx rfl (hb hby d3_18) rfl k) ?_
    refine own_by (T' := T8) (g' := (mkF m 21 #[.val (.ref ob), .val (.int 0), .val (.int pp), .val (.int 1)] [(.int 8), (.int pp), (.int 0), (.ref y1)])) (fun t k => XS.bipush X8.here hx rfl (hb hby d3_19) k) ?_
    refine own_by (T' := T8) (g' := (mkF m 22 #[.val (.ref ob), .val (.int 0), .val (.int pp), .val (.int 1)] [(.int 1), (.int 8), (.int pp), (.int 0), (.ref y1)])) (fun t k => XS.iloadN X8.here hx rfl (hb hby d3_21) rfl k) ?_
    refine own_by (T' := T8) (g' := (mkF m 23 #[.val (.ref ob), .val (.int 0), .val (.int pp), .val (.int 1)] [(.int 8), (.int pp), (.int 0), (.ref y1)])) (fun t k => XS.imul X8.here hx rfl (hb hby d3_22) rfl k) ?_
    refine own_by (T' := T8) (g' := (mkF m 24 #[.val (.ref ob), .val (.int 0), .val (.int pp), .val (.int 1)] [(.int ((pp.toUInt32 >>> ((8 : Int32) &&& 31).toUInt32).toInt32)), (.int 0), (.ref y1)])) (fun t k => XS.iushr X8.here hx rfl (hb hby d3_23) rfl k) ?_
    refine own_by (T' := T8) (g' := (mkF m 25 #[.val (.ref ob), .val (.int 0), .val (.int pp), .val (.int 1)] [(.int (((pp.toUInt32 >>> ((8 : Int32) &&& 31).toUInt32).toInt32).toInt8.toInt32)), (.int 0), (.ref y1)])) (fun t k => XS.i2b X8.here hx rfl (hb hby d3_24) rfl k) ?_
    obtain ⟨cl10, Ar10, q10, S10, N10, Hs10, G10⟩ := id V_y1
    have hin10 : ¬ ((0 : Int32) < 0 ∨ cl10.slots.size ≤ ((0 : Int32)).toNatClampNeg) := inb_of S10 ⟨by decide, by decide⟩
    obtain ⟨T10, h10, X10, e10, W10, st10⟩ := stB X8 hx hZ e8 Ar10 (j := (0 : Int32)) hin10 (g := (mkF m 25 #[.val (.ref ob), .val (.int 0), .val (.int pp), .val (.int 1)] [(.int (((pp.toUInt32 >>> ((8 : Int32) &&& 31).toUInt32).toInt32).toInt8.toInt32)), (.int 0), (.ref y1)])) rfl rfl (hb hby d3_25)
    have V_y1_ : Arv Z h10 y1 kc .byte (3 : Int32) [(.int (nar .byte (((pp.toUInt32 >>> ((8 : Int32) &&& 31).toUInt32).toInt32).toInt8.toInt32))), (.int ee11), (.int ee12)] (.int 0) := Arv.set Ar10 q10 S10 N10 Hs10 G10 (fits_nar_byte _) W10 0 rfl (Nat.le_of_ble_eq_true rfl)
    have F_planes_ob := F_planes_ob.other W10 (Or.inl ne_ob_y1)
    have V_b := V_b.other W10 ne_b_y1
    have Zle := Nat.le_trans Zle (Keep.of_wr W10).1
    have K_ := K_.wr W10 (Or.inl (List.mem_of_getElem? (i := 1) rfl))
    have V_y0 := V_y0.other W10 ne_y0_y1
    have V_y1 := V_y1_
    have N_ := Fr.snoc X10 N_ g_y1
    refine own_by (T' := T10) (g' := (mkF m 26 #[.val (.ref ob), .val (.int 0), .val (.int pp), .val (.int 1)] [])) (fun t k => st10 t k) ?_
    refine own_by (T' := T10) (g' := (mkF m 29 #[.val (.ref ob), .val (.int 0), .val (.int pp), .val (.int 2)] [])) (fun t k => XS.iinc X10.here hx rfl (hb hby d3_26) rfl (l' := #[.val (.ref ob), .val (.int 0), .val (.int pp), .val (.int 2)]) rfl k) ?_
    refine own_by (T' := T10) (g' := (mkF m 2 #[.val (.ref ob), .val (.int 0), .val (.int pp), .val (.int 2)] [])) (fun t k => XS.goto X10.here hx rfl (pc0 := 29) (pc' := 2) rfl (hb hby d3_29) (by decide) (by decide) k) ?_
    refine own_by (T' := T10) (g' := (mkF m 3 #[.val (.ref ob), .val (.int 0), .val (.int pp), .val (.int 2)] [(.int 2)])) (fun t k => XS.iloadN X10.here hx rfl (hb hby d3_2) rfl k) ?_
    refine own_by (T' := T10) (g' := (mkF m 4 #[.val (.ref ob), .val (.int 0), .val (.int pp), .val (.int 2)] [(.ref ob), (.int 2)])) (fun t k => XS.aloadN X10.here hx rfl (hb hby d3_3) rfl rfl k) ?_
    obtain ⟨T11, X11, e11, st11⟩ := getF X10 hx hZ hown (host := "") (Or.inl (hw _ (own_m 16 rfl))) Via.refl e10 F_planes_ob (g := (mkF m 4 #[.val (.ref ob), .val (.int 0), .val (.int pp), .val (.int 2)] [(.ref ob), (.int 2)])) rfl rfl (hb hby d3_4)
    refine own_by (T' := T11) (g' := (mkF m 7 #[.val (.ref ob), .val (.int 0), .val (.int pp), .val (.int 2)] [(.ref b), (.int 2)])) (fun t k => st11 t k) ?_
    obtain ⟨cl12, Ar12, -, S12, N12, -, -⟩ := id V_b
    have st12 : ∀ t, Steps p.tables e below (T11.setTop (mkF m 8 #[.val (.ref ob), .val (.int 0), .val (.int pp), .val (.int 2)] [(.int 2), (.int 2)])) t → Steps p.tables e below (T11.setTop (mkF m 7 #[.val (.ref ob), .val (.int 0), .val (.int pp), .val (.int 2)] [(.ref b), (.int 2)])) t := fun t k => X11.arraylength hx (by rw [e11]; exact Ar12.1) (State.isArrayOf_alike hZ.alike Ar12.2.1) (g := (mkF m 7 #[.val (.ref ob), .val (.int 0), .val (.int pp), .val (.int 2)] [(.ref b), (.int 2)])) rfl rfl (hb hby d3_7) _ (by rw [len_of S12 N12]; exact k)
    refine own_by (T' := T11) (g' := (mkF m 8 #[.val (.ref ob), .val (.int 0), .val (.int pp), .val (.int 2)] [(.int 2), (.int 2)])) (fun t k => st12 t k) ?_
    refine own_by (T' := T11) (g' := (mkF m 32 #[.val (.ref ob), .val (.int 0), .val (.int pp), .val (.int 2)] [])) (fun t k => XS.icmpYes X11.here hx rfl (pc0 := 8) (pc' := 32) rfl (hb hby d3_8) rfl (flt (by decide)).2.1 (by decide) (by decide) k) ?_
    exact own_retV X11 hx Bd.notSynchronized Bd.returns (hb hby d3_32) (by decide) (by decide) (by rw [e11]; exact ⟨rfl, N_, K_, V_b, V_y0, V_y1⟩)
  · refine own_by (T' := s₁) (g' := (mkF m 1 #[.val (.ref ob), .val (.int 1), .val (.int pp), .unset] [(.int 0)])) (fun t k => XS.iconst X0.here hx rfl (hb hby d3_0) k) ?_
    refine own_by (T' := s₁) (g' := (mkF m 2 #[.val (.ref ob), .val (.int 1), .val (.int pp), .val (.int 0)] [])) (fun t k => XS.istoreN X0.here hx rfl (hb hby d3_1) rfl (l' := #[.val (.ref ob), .val (.int 1), .val (.int pp), .val (.int 0)]) rfl k) ?_
    refine own_by (T' := s₁) (g' := (mkF m 3 #[.val (.ref ob), .val (.int 1), .val (.int pp), .val (.int 0)] [(.int 0)])) (fun t k => XS.iloadN X0.here hx rfl (hb hby d3_2) rfl k) ?_
    refine own_by (T' := s₁) (g' := (mkF m 4 #[.val (.ref ob), .val (.int 1), .val (.int pp), .val (.int 0)] [(.ref ob), (.int 0)])) (fun t k => XS.aloadN X0.here hx rfl (hb hby d3_3) rfl rfl k) ?_
    obtain ⟨T13, X13, e13, st13⟩ := getF X0 hx hZ hown (host := "") (Or.inl (hw _ (own_m 16 rfl))) Via.refl e0 F_planes_ob (g := (mkF m 4 #[.val (.ref ob), .val (.int 1), .val (.int pp), .val (.int 0)] [(.ref ob), (.int 0)])) rfl rfl (hb hby d3_4)
    refine own_by (T' := T13) (g' := (mkF m 7 #[.val (.ref ob), .val (.int 1), .val (.int pp), .val (.int 0)] [(.ref b), (.int 0)])) (fun t k => st13 t k) ?_
    obtain ⟨cl14, Ar14, -, S14, N14, -, -⟩ := id V_b
    have st14 : ∀ t, Steps p.tables e below (T13.setTop (mkF m 8 #[.val (.ref ob), .val (.int 1), .val (.int pp), .val (.int 0)] [(.int 2), (.int 0)])) t → Steps p.tables e below (T13.setTop (mkF m 7 #[.val (.ref ob), .val (.int 1), .val (.int pp), .val (.int 0)] [(.ref b), (.int 0)])) t := fun t k => X13.arraylength hx (by rw [e13]; exact Ar14.1) (State.isArrayOf_alike hZ.alike Ar14.2.1) (g := (mkF m 7 #[.val (.ref ob), .val (.int 1), .val (.int pp), .val (.int 0)] [(.ref b), (.int 0)])) rfl rfl (hb hby d3_7) _ (by rw [len_of S14 N14]; exact k)
    refine own_by (T' := T13) (g' := (mkF m 8 #[.val (.ref ob), .val (.int 1), .val (.int pp), .val (.int 0)] [(.int 2), (.int 0)])) (fun t k => st14 t k) ?_
    refine own_by (T' := T13) (g' := (mkF m 11 #[.val (.ref ob), .val (.int 1), .val (.int pp), .val (.int 0)] [])) (fun t k => XS.icmpNo X13.here hx rfl (hb hby d3_8) rfl (tlt (by decide)).2.1 k) ?_
    refine own_by (T' := T13) (g' := (mkF m 12 #[.val (.ref ob), .val (.int 1), .val (.int pp), .val (.int 0)] [(.ref ob)])) (fun t k => XS.aloadN X13.here hx rfl (hb hby d3_11) rfl rfl k) ?_
    obtain ⟨T15, X15, e15, st15⟩ := getF X13 hx hZ hown (host := "") (Or.inl (hw _ (own_m 16 rfl))) Via.refl e13 F_planes_ob (g := (mkF m 12 #[.val (.ref ob), .val (.int 1), .val (.int pp), .val (.int 0)] [(.ref ob)])) rfl rfl (hb hby d3_12)
    refine own_by (T' := T15) (g' := (mkF m 15 #[.val (.ref ob), .val (.int 1), .val (.int pp), .val (.int 0)] [(.ref b)])) (fun t k => st15 t k) ?_
    refine own_by (T' := T15) (g' := (mkF m 16 #[.val (.ref ob), .val (.int 1), .val (.int pp), .val (.int 0)] [(.int 0), (.ref b)])) (fun t k => XS.iloadN X15.here hx rfl (hb hby d3_15) rfl k) ?_
    obtain ⟨cl16, Ar16, q16, S16, N16, Hs16, G16⟩ := id V_b
    have hin16 : ¬ ((0 : Int32) < 0 ∨ cl16.slots.size ≤ ((0 : Int32)).toNatClampNeg) := inb_of S16 ⟨by decide, by decide⟩
    have hat16 : cl16.slots[((0 : Int32)).toNatClampNeg]? = some (.ref y0) := Hs16.at hin16 rfl
    refine own_by (T' := T15) (g' := (mkF m 17 #[.val (.ref ob), .val (.int 1), .val (.int pp), .val (.int 0)] [(.ref y0)])) (fun t k => X15.aaload hx (j := (0 : Int32)) (v := (.ref y0)) (by rw [e15]; exact Ar16.1) (State.isArrayOf_alike hZ.alike Ar16.2.1) rfl Ar16.2.2 hin16 hat16 (g := (mkF m 16 #[.val (.ref ob), .val (.int 1), .val (.int pp), .val (.int 0)] [(.int 0), (.ref b)])) rfl rfl (hb hby d3_16) _ k) ?_
    refine own_by (T' := T15) (g' := (mkF m 18 #[.val (.ref ob), .val (.int 1), .val (.int pp), .val (.int 0)] [(.int 1), (.ref y0)])) (fun t k => XS.iloadN X15.here hx rfl (hb hby d3_17) rfl k) ?_
    refine own_by (T' := T15) (g' := (mkF m 19 #[.val (.ref ob), .val (.int 1), .val (.int pp), .val (.int 0)] [(.int pp), (.int 1), (.ref y0)])) (fun t k => XS.iloadN X15.here hx rfl (hb hby d3_18) rfl k) ?_
    refine own_by (T' := T15) (g' := (mkF m 21 #[.val (.ref ob), .val (.int 1), .val (.int pp), .val (.int 0)] [(.int 8), (.int pp), (.int 1), (.ref y0)])) (fun t k => XS.bipush X15.here hx rfl (hb hby d3_19) k) ?_
    refine own_by (T' := T15) (g' := (mkF m 22 #[.val (.ref ob), .val (.int 1), .val (.int pp), .val (.int 0)] [(.int 0), (.int 8), (.int pp), (.int 1), (.ref y0)])) (fun t k => XS.iloadN X15.here hx rfl (hb hby d3_21) rfl k) ?_
    refine own_by (T' := T15) (g' := (mkF m 23 #[.val (.ref ob), .val (.int 1), .val (.int pp), .val (.int 0)] [(.int 0), (.int pp), (.int 1), (.ref y0)])) (fun t k => XS.imul X15.here hx rfl (hb hby d3_22) rfl k) ?_
    refine own_by (T' := T15) (g' := (mkF m 24 #[.val (.ref ob), .val (.int 1), .val (.int pp), .val (.int 0)] [(.int ((pp.toUInt32 >>> ((0 : Int32) &&& 31).toUInt32).toInt32)), (.int 1), (.ref y0)])) (fun t k => XS.iushr X15.here hx rfl (hb hby d3_23) rfl k) ?_
    refine own_by (T' := T15) (g' := (mkF m 25 #[.val (.ref ob), .val (.int 1), .val (.int pp), .val (.int 0)] [(.int (((pp.toUInt32 >>> ((0 : Int32) &&& 31).toUInt32).toInt32).toInt8.toInt32)), (.int 1), (.ref y0)])) (fun t k => XS.i2b X15.here hx rfl (hb hby d3_24) rfl k) ?_
    obtain ⟨cl17, Ar17, q17, S17, N17, Hs17, G17⟩ := id V_y0
    have hin17 : ¬ ((1 : Int32) < 0 ∨ cl17.slots.size ≤ ((1 : Int32)).toNatClampNeg) := inb_of S17 ⟨by decide, by decide⟩
    obtain ⟨T17, h17, X17, e17, W17, st17⟩ := stB X15 hx hZ e15 Ar17 (j := (1 : Int32)) hin17 (g := (mkF m 25 #[.val (.ref ob), .val (.int 1), .val (.int pp), .val (.int 0)] [(.int (((pp.toUInt32 >>> ((0 : Int32) &&& 31).toUInt32).toInt32).toInt8.toInt32)), (.int 1), (.ref y0)])) rfl rfl (hb hby d3_25)
    have V_y0_ : Arv Z h17 y0 kc .byte (3 : Int32) [(.int ee00), (.int (nar .byte (((pp.toUInt32 >>> ((0 : Int32) &&& 31).toUInt32).toInt32).toInt8.toInt32))), (.int ee02)] (.int 0) := Arv.set Ar17 q17 S17 N17 Hs17 G17 (fits_nar_byte _) W17 1 rfl (Nat.le_of_ble_eq_true rfl)
    have F_planes_ob := F_planes_ob.other W17 (Or.inl ne_ob_y0)
    have V_b := V_b.other W17 ne_b_y0
    have V_y1 := V_y1.other W17 ne_y0_y1.symm
    have Zle := Nat.le_trans Zle (Keep.of_wr W17).1
    have K_ := K_.wr W17 (Or.inl (List.mem_of_getElem? (i := 0) rfl))
    have V_y0 := V_y0_
    have N_ := Fr.snoc X17 N_ g_y0
    refine own_by (T' := T17) (g' := (mkF m 26 #[.val (.ref ob), .val (.int 1), .val (.int pp), .val (.int 0)] [])) (fun t k => st17 t k) ?_
    refine own_by (T' := T17) (g' := (mkF m 29 #[.val (.ref ob), .val (.int 1), .val (.int pp), .val (.int 1)] [])) (fun t k => XS.iinc X17.here hx rfl (hb hby d3_26) rfl (l' := #[.val (.ref ob), .val (.int 1), .val (.int pp), .val (.int 1)]) rfl k) ?_
    refine own_by (T' := T17) (g' := (mkF m 2 #[.val (.ref ob), .val (.int 1), .val (.int pp), .val (.int 1)] [])) (fun t k => XS.goto X17.here hx rfl (pc0 := 29) (pc' := 2) rfl (hb hby d3_29) (by decide) (by decide) k) ?_
    refine own_by (T' := T17) (g' := (mkF m 3 #[.val (.ref ob), .val (.int 1), .val (.int pp), .val (.int 1)] [(.int 1)])) (fun t k => XS.iloadN X17.here hx rfl (hb hby d3_2) rfl k) ?_
    refine own_by (T' := T17) (g' := (mkF m 4 #[.val (.ref ob), .val (.int 1), .val (.int pp), .val (.int 1)] [(.ref ob), (.int 1)])) (fun t k => XS.aloadN X17.here hx rfl (hb hby d3_3) rfl rfl k) ?_
    obtain ⟨T18, X18, e18, st18⟩ := getF X17 hx hZ hown (host := "") (Or.inl (hw _ (own_m 16 rfl))) Via.refl e17 F_planes_ob (g := (mkF m 4 #[.val (.ref ob), .val (.int 1), .val (.int pp), .val (.int 1)] [(.ref ob), (.int 1)])) rfl rfl (hb hby d3_4)
    refine own_by (T' := T18) (g' := (mkF m 7 #[.val (.ref ob), .val (.int 1), .val (.int pp), .val (.int 1)] [(.ref b), (.int 1)])) (fun t k => st18 t k) ?_
    obtain ⟨cl19, Ar19, -, S19, N19, -, -⟩ := id V_b
    have st19 : ∀ t, Steps p.tables e below (T18.setTop (mkF m 8 #[.val (.ref ob), .val (.int 1), .val (.int pp), .val (.int 1)] [(.int 2), (.int 1)])) t → Steps p.tables e below (T18.setTop (mkF m 7 #[.val (.ref ob), .val (.int 1), .val (.int pp), .val (.int 1)] [(.ref b), (.int 1)])) t := fun t k => X18.arraylength hx (by rw [e18]; exact Ar19.1) (State.isArrayOf_alike hZ.alike Ar19.2.1) (g := (mkF m 7 #[.val (.ref ob), .val (.int 1), .val (.int pp), .val (.int 1)] [(.ref b), (.int 1)])) rfl rfl (hb hby d3_7) _ (by rw [len_of S19 N19]; exact k)
    refine own_by (T' := T18) (g' := (mkF m 8 #[.val (.ref ob), .val (.int 1), .val (.int pp), .val (.int 1)] [(.int 2), (.int 1)])) (fun t k => st19 t k) ?_
    refine own_by (T' := T18) (g' := (mkF m 11 #[.val (.ref ob), .val (.int 1), .val (.int pp), .val (.int 1)] [])) (fun t k => XS.icmpNo X18.here hx rfl (hb hby d3_8) rfl (tlt (by decide)).2.1 k) ?_
    refine own_by (T' := T18) (g' := (mkF m 12 #[.val (.ref ob), .val (.int 1), .val (.int pp), .val (.int 1)] [(.ref ob)])) (fun t k => XS.aloadN X18.here hx rfl (hb hby d3_11) rfl rfl k) ?_
    obtain ⟨T20, X20, e20, st20⟩ := getF X18 hx hZ hown (host := "") (Or.inl (hw _ (own_m 16 rfl))) Via.refl e18 F_planes_ob (g := (mkF m 12 #[.val (.ref ob), .val (.int 1), .val (.int pp), .val (.int 1)] [(.ref ob)])) rfl rfl (hb hby d3_12)
    refine own_by (T' := T20) (g' := (mkF m 15 #[.val (.ref ob), .val (.int 1), .val (.int pp), .val (.int 1)] [(.ref b)])) (fun t k => st20 t k) ?_
    refine own_by (T' := T20) (g' := (mkF m 16 #[.val (.ref ob), .val (.int 1), .val (.int pp), .val (.int 1)] [(.int 1), (.ref b)])) (fun t k => XS.iloadN X20.here hx rfl (hb hby d3_15) rfl k) ?_
    obtain ⟨cl21, Ar21, q21, S21, N21, Hs21, G21⟩ := id V_b
    have hin21 : ¬ ((1 : Int32) < 0 ∨ cl21.slots.size ≤ ((1 : Int32)).toNatClampNeg) := inb_of S21 ⟨by decide, by decide⟩
    have hat21 : cl21.slots[((1 : Int32)).toNatClampNeg]? = some (.ref y1) := Hs21.at hin21 rfl
    refine own_by (T' := T20) (g' := (mkF m 17 #[.val (.ref ob), .val (.int 1), .val (.int pp), .val (.int 1)] [(.ref y1)])) (fun t k => X20.aaload hx (j := (1 : Int32)) (v := (.ref y1)) (by rw [e20]; exact Ar21.1) (State.isArrayOf_alike hZ.alike Ar21.2.1) rfl Ar21.2.2 hin21 hat21 (g := (mkF m 16 #[.val (.ref ob), .val (.int 1), .val (.int pp), .val (.int 1)] [(.int 1), (.ref b)])) rfl rfl (hb hby d3_16) _ k) ?_
    refine own_by (T' := T20) (g' := (mkF m 18 #[.val (.ref ob), .val (.int 1), .val (.int pp), .val (.int 1)] [(.int 1), (.ref y1)])) (fun t k => XS.iloadN X20.here hx rfl (hb hby d3_17) rfl k) ?_
    refine own_by (T' := T20) (g' := (mkF m 19 #[.val (.ref ob), .val (.int 1), .val (.int pp), .val (.int 1)] [(.int pp), (.int 1), (.ref y1)])) (fun t k => XS.iloadN X20.here hx rfl (hb hby d3_18) rfl k) ?_
    refine own_by (T' := T20) (g' := (mkF m 21 #[.val (.ref ob), .val (.int 1), .val (.int pp), .val (.int 1)] [(.int 8), (.int pp), (.int 1), (.ref y1)])) (fun t k => XS.bipush X20.here hx rfl (hb hby d3_19) k) ?_
    refine own_by (T' := T20) (g' := (mkF m 22 #[.val (.ref ob), .val (.int 1), .val (.int pp), .val (.int 1)] [(.int 1), (.int 8), (.int pp), (.int 1), (.ref y1)])) (fun t k => XS.iloadN X20.here hx rfl (hb hby d3_21) rfl k) ?_
    refine own_by (T' := T20) (g' := (mkF m 23 #[.val (.ref ob), .val (.int 1), .val (.int pp), .val (.int 1)] [(.int 8), (.int pp), (.int 1), (.ref y1)])) (fun t k => XS.imul X20.here hx rfl (hb hby d3_22) rfl k) ?_
    refine own_by (T' := T20) (g' := (mkF m 24 #[.val (.ref ob), .val (.int 1), .val (.int pp), .val (.int 1)] [(.int ((pp.toUInt32 >>> ((8 : Int32) &&& 31).toUInt32).toInt32)), (.int 1), (.ref y1)])) (fun t k => XS.iushr X20.here hx rfl (hb hby d3_23) rfl k) ?_
    refine own_by (T' := T20) (g' := (mkF m 25 #[.val (.ref ob), .val (.int 1), .val (.int pp), .val (.int 1)] [(.int (((pp.toUInt32 >>> ((8 : Int32) &&& 31).toUInt32).toInt32).toInt8.toInt32)), (.int 1), (.ref y1)])) (fun t k => XS.i2b X20.here hx rfl (hb hby d3_24) rfl k) ?_
    obtain ⟨cl22, Ar22, q22, S22, N22, Hs22, G22⟩ := id V_y1
    have hin22 : ¬ ((1 : Int32) < 0 ∨ cl22.slots.size ≤ ((1 : Int32)).toNatClampNeg) := inb_of S22 ⟨by decide, by decide⟩
    obtain ⟨T22, h22, X22, e22, W22, st22⟩ := stB X20 hx hZ e20 Ar22 (j := (1 : Int32)) hin22 (g := (mkF m 25 #[.val (.ref ob), .val (.int 1), .val (.int pp), .val (.int 1)] [(.int (((pp.toUInt32 >>> ((8 : Int32) &&& 31).toUInt32).toInt32).toInt8.toInt32)), (.int 1), (.ref y1)])) rfl rfl (hb hby d3_25)
    have V_y1_ : Arv Z h22 y1 kc .byte (3 : Int32) [(.int ee10), (.int (nar .byte (((pp.toUInt32 >>> ((8 : Int32) &&& 31).toUInt32).toInt32).toInt8.toInt32))), (.int ee12)] (.int 0) := Arv.set Ar22 q22 S22 N22 Hs22 G22 (fits_nar_byte _) W22 1 rfl (Nat.le_of_ble_eq_true rfl)
    have F_planes_ob := F_planes_ob.other W22 (Or.inl ne_ob_y1)
    have V_b := V_b.other W22 ne_b_y1
    have Zle := Nat.le_trans Zle (Keep.of_wr W22).1
    have K_ := K_.wr W22 (Or.inl (List.mem_of_getElem? (i := 1) rfl))
    have V_y0 := V_y0.other W22 ne_y0_y1
    have V_y1 := V_y1_
    have N_ := Fr.snoc X22 N_ g_y1
    refine own_by (T' := T22) (g' := (mkF m 26 #[.val (.ref ob), .val (.int 1), .val (.int pp), .val (.int 1)] [])) (fun t k => st22 t k) ?_
    refine own_by (T' := T22) (g' := (mkF m 29 #[.val (.ref ob), .val (.int 1), .val (.int pp), .val (.int 2)] [])) (fun t k => XS.iinc X22.here hx rfl (hb hby d3_26) rfl (l' := #[.val (.ref ob), .val (.int 1), .val (.int pp), .val (.int 2)]) rfl k) ?_
    refine own_by (T' := T22) (g' := (mkF m 2 #[.val (.ref ob), .val (.int 1), .val (.int pp), .val (.int 2)] [])) (fun t k => XS.goto X22.here hx rfl (pc0 := 29) (pc' := 2) rfl (hb hby d3_29) (by decide) (by decide) k) ?_
    refine own_by (T' := T22) (g' := (mkF m 3 #[.val (.ref ob), .val (.int 1), .val (.int pp), .val (.int 2)] [(.int 2)])) (fun t k => XS.iloadN X22.here hx rfl (hb hby d3_2) rfl k) ?_
    refine own_by (T' := T22) (g' := (mkF m 4 #[.val (.ref ob), .val (.int 1), .val (.int pp), .val (.int 2)] [(.ref ob), (.int 2)])) (fun t k => XS.aloadN X22.here hx rfl (hb hby d3_3) rfl rfl k) ?_
    obtain ⟨T23, X23, e23, st23⟩ := getF X22 hx hZ hown (host := "") (Or.inl (hw _ (own_m 16 rfl))) Via.refl e22 F_planes_ob (g := (mkF m 4 #[.val (.ref ob), .val (.int 1), .val (.int pp), .val (.int 2)] [(.ref ob), (.int 2)])) rfl rfl (hb hby d3_4)
    refine own_by (T' := T23) (g' := (mkF m 7 #[.val (.ref ob), .val (.int 1), .val (.int pp), .val (.int 2)] [(.ref b), (.int 2)])) (fun t k => st23 t k) ?_
    obtain ⟨cl24, Ar24, -, S24, N24, -, -⟩ := id V_b
    have st24 : ∀ t, Steps p.tables e below (T23.setTop (mkF m 8 #[.val (.ref ob), .val (.int 1), .val (.int pp), .val (.int 2)] [(.int 2), (.int 2)])) t → Steps p.tables e below (T23.setTop (mkF m 7 #[.val (.ref ob), .val (.int 1), .val (.int pp), .val (.int 2)] [(.ref b), (.int 2)])) t := fun t k => X23.arraylength hx (by rw [e23]; exact Ar24.1) (State.isArrayOf_alike hZ.alike Ar24.2.1) (g := (mkF m 7 #[.val (.ref ob), .val (.int 1), .val (.int pp), .val (.int 2)] [(.ref b), (.int 2)])) rfl rfl (hb hby d3_7) _ (by rw [len_of S24 N24]; exact k)
    refine own_by (T' := T23) (g' := (mkF m 8 #[.val (.ref ob), .val (.int 1), .val (.int pp), .val (.int 2)] [(.int 2), (.int 2)])) (fun t k => st24 t k) ?_
    refine own_by (T' := T23) (g' := (mkF m 32 #[.val (.ref ob), .val (.int 1), .val (.int pp), .val (.int 2)] [])) (fun t k => XS.icmpYes X23.here hx rfl (pc0 := 8) (pc' := 32) rfl (hb hby d3_8) rfl (flt (by decide)).2.1 (by decide) (by decide) k) ?_
    exact own_retV X23 hx Bd.notSynchronized Bd.returns (hb hby d3_32) (by decide) (by decide) (by rw [e23]; exact ⟨rfl, N_, K_, V_b, V_y0, V_y1⟩)
  · refine own_by (T' := s₁) (g' := (mkF m 1 #[.val (.ref ob), .val (.int 2), .val (.int pp), .unset] [(.int 0)])) (fun t k => XS.iconst X0.here hx rfl (hb hby d3_0) k) ?_
    refine own_by (T' := s₁) (g' := (mkF m 2 #[.val (.ref ob), .val (.int 2), .val (.int pp), .val (.int 0)] [])) (fun t k => XS.istoreN X0.here hx rfl (hb hby d3_1) rfl (l' := #[.val (.ref ob), .val (.int 2), .val (.int pp), .val (.int 0)]) rfl k) ?_
    refine own_by (T' := s₁) (g' := (mkF m 3 #[.val (.ref ob), .val (.int 2), .val (.int pp), .val (.int 0)] [(.int 0)])) (fun t k => XS.iloadN X0.here hx rfl (hb hby d3_2) rfl k) ?_
    refine own_by (T' := s₁) (g' := (mkF m 4 #[.val (.ref ob), .val (.int 2), .val (.int pp), .val (.int 0)] [(.ref ob), (.int 0)])) (fun t k => XS.aloadN X0.here hx rfl (hb hby d3_3) rfl rfl k) ?_
    obtain ⟨T25, X25, e25, st25⟩ := getF X0 hx hZ hown (host := "") (Or.inl (hw _ (own_m 16 rfl))) Via.refl e0 F_planes_ob (g := (mkF m 4 #[.val (.ref ob), .val (.int 2), .val (.int pp), .val (.int 0)] [(.ref ob), (.int 0)])) rfl rfl (hb hby d3_4)
    refine own_by (T' := T25) (g' := (mkF m 7 #[.val (.ref ob), .val (.int 2), .val (.int pp), .val (.int 0)] [(.ref b), (.int 0)])) (fun t k => st25 t k) ?_
    obtain ⟨cl26, Ar26, -, S26, N26, -, -⟩ := id V_b
    have st26 : ∀ t, Steps p.tables e below (T25.setTop (mkF m 8 #[.val (.ref ob), .val (.int 2), .val (.int pp), .val (.int 0)] [(.int 2), (.int 0)])) t → Steps p.tables e below (T25.setTop (mkF m 7 #[.val (.ref ob), .val (.int 2), .val (.int pp), .val (.int 0)] [(.ref b), (.int 0)])) t := fun t k => X25.arraylength hx (by rw [e25]; exact Ar26.1) (State.isArrayOf_alike hZ.alike Ar26.2.1) (g := (mkF m 7 #[.val (.ref ob), .val (.int 2), .val (.int pp), .val (.int 0)] [(.ref b), (.int 0)])) rfl rfl (hb hby d3_7) _ (by rw [len_of S26 N26]; exact k)
    refine own_by (T' := T25) (g' := (mkF m 8 #[.val (.ref ob), .val (.int 2), .val (.int pp), .val (.int 0)] [(.int 2), (.int 0)])) (fun t k => st26 t k) ?_
    refine own_by (T' := T25) (g' := (mkF m 11 #[.val (.ref ob), .val (.int 2), .val (.int pp), .val (.int 0)] [])) (fun t k => XS.icmpNo X25.here hx rfl (hb hby d3_8) rfl (tlt (by decide)).2.1 k) ?_
    refine own_by (T' := T25) (g' := (mkF m 12 #[.val (.ref ob), .val (.int 2), .val (.int pp), .val (.int 0)] [(.ref ob)])) (fun t k => XS.aloadN X25.here hx rfl (hb hby d3_11) rfl rfl k) ?_
    obtain ⟨T27, X27, e27, st27⟩ := getF X25 hx hZ hown (host := "") (Or.inl (hw _ (own_m 16 rfl))) Via.refl e25 F_planes_ob (g := (mkF m 12 #[.val (.ref ob), .val (.int 2), .val (.int pp), .val (.int 0)] [(.ref ob)])) rfl rfl (hb hby d3_12)
    refine own_by (T' := T27) (g' := (mkF m 15 #[.val (.ref ob), .val (.int 2), .val (.int pp), .val (.int 0)] [(.ref b)])) (fun t k => st27 t k) ?_
    refine own_by (T' := T27) (g' := (mkF m 16 #[.val (.ref ob), .val (.int 2), .val (.int pp), .val (.int 0)] [(.int 0), (.ref b)])) (fun t k => XS.iloadN X27.here hx rfl (hb hby d3_15) rfl k) ?_
    obtain ⟨cl28, Ar28, q28, S28, N28, Hs28, G28⟩ := id V_b
    have hin28 : ¬ ((0 : Int32) < 0 ∨ cl28.slots.size ≤ ((0 : Int32)).toNatClampNeg) := inb_of S28 ⟨by decide, by decide⟩
    have hat28 : cl28.slots[((0 : Int32)).toNatClampNeg]? = some (.ref y0) := Hs28.at hin28 rfl
    refine own_by (T' := T27) (g' := (mkF m 17 #[.val (.ref ob), .val (.int 2), .val (.int pp), .val (.int 0)] [(.ref y0)])) (fun t k => X27.aaload hx (j := (0 : Int32)) (v := (.ref y0)) (by rw [e27]; exact Ar28.1) (State.isArrayOf_alike hZ.alike Ar28.2.1) rfl Ar28.2.2 hin28 hat28 (g := (mkF m 16 #[.val (.ref ob), .val (.int 2), .val (.int pp), .val (.int 0)] [(.int 0), (.ref b)])) rfl rfl (hb hby d3_16) _ k) ?_
    refine own_by (T' := T27) (g' := (mkF m 18 #[.val (.ref ob), .val (.int 2), .val (.int pp), .val (.int 0)] [(.int 2), (.ref y0)])) (fun t k => XS.iloadN X27.here hx rfl (hb hby d3_17) rfl k) ?_
    refine own_by (T' := T27) (g' := (mkF m 19 #[.val (.ref ob), .val (.int 2), .val (.int pp), .val (.int 0)] [(.int pp), (.int 2), (.ref y0)])) (fun t k => XS.iloadN X27.here hx rfl (hb hby d3_18) rfl k) ?_
    refine own_by (T' := T27) (g' := (mkF m 21 #[.val (.ref ob), .val (.int 2), .val (.int pp), .val (.int 0)] [(.int 8), (.int pp), (.int 2), (.ref y0)])) (fun t k => XS.bipush X27.here hx rfl (hb hby d3_19) k) ?_
    refine own_by (T' := T27) (g' := (mkF m 22 #[.val (.ref ob), .val (.int 2), .val (.int pp), .val (.int 0)] [(.int 0), (.int 8), (.int pp), (.int 2), (.ref y0)])) (fun t k => XS.iloadN X27.here hx rfl (hb hby d3_21) rfl k) ?_
    refine own_by (T' := T27) (g' := (mkF m 23 #[.val (.ref ob), .val (.int 2), .val (.int pp), .val (.int 0)] [(.int 0), (.int pp), (.int 2), (.ref y0)])) (fun t k => XS.imul X27.here hx rfl (hb hby d3_22) rfl k) ?_
    refine own_by (T' := T27) (g' := (mkF m 24 #[.val (.ref ob), .val (.int 2), .val (.int pp), .val (.int 0)] [(.int ((pp.toUInt32 >>> ((0 : Int32) &&& 31).toUInt32).toInt32)), (.int 2), (.ref y0)])) (fun t k => XS.iushr X27.here hx rfl (hb hby d3_23) rfl k) ?_
    refine own_by (T' := T27) (g' := (mkF m 25 #[.val (.ref ob), .val (.int 2), .val (.int pp), .val (.int 0)] [(.int (((pp.toUInt32 >>> ((0 : Int32) &&& 31).toUInt32).toInt32).toInt8.toInt32)), (.int 2), (.ref y0)])) (fun t k => XS.i2b X27.here hx rfl (hb hby d3_24) rfl k) ?_
    obtain ⟨cl29, Ar29, q29, S29, N29, Hs29, G29⟩ := id V_y0
    have hin29 : ¬ ((2 : Int32) < 0 ∨ cl29.slots.size ≤ ((2 : Int32)).toNatClampNeg) := inb_of S29 ⟨by decide, by decide⟩
    obtain ⟨T29, h29, X29, e29, W29, st29⟩ := stB X27 hx hZ e27 Ar29 (j := (2 : Int32)) hin29 (g := (mkF m 25 #[.val (.ref ob), .val (.int 2), .val (.int pp), .val (.int 0)] [(.int (((pp.toUInt32 >>> ((0 : Int32) &&& 31).toUInt32).toInt32).toInt8.toInt32)), (.int 2), (.ref y0)])) rfl rfl (hb hby d3_25)
    have V_y0_ : Arv Z h29 y0 kc .byte (3 : Int32) [(.int ee00), (.int ee01), (.int (nar .byte (((pp.toUInt32 >>> ((0 : Int32) &&& 31).toUInt32).toInt32).toInt8.toInt32)))] (.int 0) := Arv.set Ar29 q29 S29 N29 Hs29 G29 (fits_nar_byte _) W29 2 rfl (Nat.le_of_ble_eq_true rfl)
    have F_planes_ob := F_planes_ob.other W29 (Or.inl ne_ob_y0)
    have V_b := V_b.other W29 ne_b_y0
    have V_y1 := V_y1.other W29 ne_y0_y1.symm
    have Zle := Nat.le_trans Zle (Keep.of_wr W29).1
    have K_ := K_.wr W29 (Or.inl (List.mem_of_getElem? (i := 0) rfl))
    have V_y0 := V_y0_
    have N_ := Fr.snoc X29 N_ g_y0
    refine own_by (T' := T29) (g' := (mkF m 26 #[.val (.ref ob), .val (.int 2), .val (.int pp), .val (.int 0)] [])) (fun t k => st29 t k) ?_
    refine own_by (T' := T29) (g' := (mkF m 29 #[.val (.ref ob), .val (.int 2), .val (.int pp), .val (.int 1)] [])) (fun t k => XS.iinc X29.here hx rfl (hb hby d3_26) rfl (l' := #[.val (.ref ob), .val (.int 2), .val (.int pp), .val (.int 1)]) rfl k) ?_
    refine own_by (T' := T29) (g' := (mkF m 2 #[.val (.ref ob), .val (.int 2), .val (.int pp), .val (.int 1)] [])) (fun t k => XS.goto X29.here hx rfl (pc0 := 29) (pc' := 2) rfl (hb hby d3_29) (by decide) (by decide) k) ?_
    refine own_by (T' := T29) (g' := (mkF m 3 #[.val (.ref ob), .val (.int 2), .val (.int pp), .val (.int 1)] [(.int 1)])) (fun t k => XS.iloadN X29.here hx rfl (hb hby d3_2) rfl k) ?_
    refine own_by (T' := T29) (g' := (mkF m 4 #[.val (.ref ob), .val (.int 2), .val (.int pp), .val (.int 1)] [(.ref ob), (.int 1)])) (fun t k => XS.aloadN X29.here hx rfl (hb hby d3_3) rfl rfl k) ?_
    obtain ⟨T30, X30, e30, st30⟩ := getF X29 hx hZ hown (host := "") (Or.inl (hw _ (own_m 16 rfl))) Via.refl e29 F_planes_ob (g := (mkF m 4 #[.val (.ref ob), .val (.int 2), .val (.int pp), .val (.int 1)] [(.ref ob), (.int 1)])) rfl rfl (hb hby d3_4)
    refine own_by (T' := T30) (g' := (mkF m 7 #[.val (.ref ob), .val (.int 2), .val (.int pp), .val (.int 1)] [(.ref b), (.int 1)])) (fun t k => st30 t k) ?_
    obtain ⟨cl31, Ar31, -, S31, N31, -, -⟩ := id V_b
    have st31 : ∀ t, Steps p.tables e below (T30.setTop (mkF m 8 #[.val (.ref ob), .val (.int 2), .val (.int pp), .val (.int 1)] [(.int 2), (.int 1)])) t → Steps p.tables e below (T30.setTop (mkF m 7 #[.val (.ref ob), .val (.int 2), .val (.int pp), .val (.int 1)] [(.ref b), (.int 1)])) t := fun t k => X30.arraylength hx (by rw [e30]; exact Ar31.1) (State.isArrayOf_alike hZ.alike Ar31.2.1) (g := (mkF m 7 #[.val (.ref ob), .val (.int 2), .val (.int pp), .val (.int 1)] [(.ref b), (.int 1)])) rfl rfl (hb hby d3_7) _ (by rw [len_of S31 N31]; exact k)
    refine own_by (T' := T30) (g' := (mkF m 8 #[.val (.ref ob), .val (.int 2), .val (.int pp), .val (.int 1)] [(.int 2), (.int 1)])) (fun t k => st31 t k) ?_
    refine own_by (T' := T30) (g' := (mkF m 11 #[.val (.ref ob), .val (.int 2), .val (.int pp), .val (.int 1)] [])) (fun t k => XS.icmpNo X30.here hx rfl (hb hby d3_8) rfl (tlt (by decide)).2.1 k) ?_
    refine own_by (T' := T30) (g' := (mkF m 12 #[.val (.ref ob), .val (.int 2), .val (.int pp), .val (.int 1)] [(.ref ob)])) (fun t k => XS.aloadN X30.here hx rfl (hb hby d3_11) rfl rfl k) ?_
    obtain ⟨T32, X32, e32, st32⟩ := getF X30 hx hZ hown (host := "") (Or.inl (hw _ (own_m 16 rfl))) Via.refl e30 F_planes_ob (g := (mkF m 12 #[.val (.ref ob), .val (.int 2), .val (.int pp), .val (.int 1)] [(.ref ob)])) rfl rfl (hb hby d3_12)
    refine own_by (T' := T32) (g' := (mkF m 15 #[.val (.ref ob), .val (.int 2), .val (.int pp), .val (.int 1)] [(.ref b)])) (fun t k => st32 t k) ?_
    refine own_by (T' := T32) (g' := (mkF m 16 #[.val (.ref ob), .val (.int 2), .val (.int pp), .val (.int 1)] [(.int 1), (.ref b)])) (fun t k => XS.iloadN X32.here hx rfl (hb hby d3_15) rfl k) ?_
    obtain ⟨cl33, Ar33, q33, S33, N33, Hs33, G33⟩ := id V_b
    have hin33 : ¬ ((1 : Int32) < 0 ∨ cl33.slots.size ≤ ((1 : Int32)).toNatClampNeg) := inb_of S33 ⟨by decide, by decide⟩
    have hat33 : cl33.slots[((1 : Int32)).toNatClampNeg]? = some (.ref y1) := Hs33.at hin33 rfl
    refine own_by (T' := T32) (g' := (mkF m 17 #[.val (.ref ob), .val (.int 2), .val (.int pp), .val (.int 1)] [(.ref y1)])) (fun t k => X32.aaload hx (j := (1 : Int32)) (v := (.ref y1)) (by rw [e32]; exact Ar33.1) (State.isArrayOf_alike hZ.alike Ar33.2.1) rfl Ar33.2.2 hin33 hat33 (g := (mkF m 16 #[.val (.ref ob), .val (.int 2), .val (.int pp), .val (.int 1)] [(.int 1), (.ref b)])) rfl rfl (hb hby d3_16) _ k) ?_
    refine own_by (T' := T32) (g' := (mkF m 18 #[.val (.ref ob), .val (.int 2), .val (.int pp), .val (.int 1)] [(.int 2), (.ref y1)])) (fun t k => XS.iloadN X32.here hx rfl (hb hby d3_17) rfl k) ?_
    refine own_by (T' := T32) (g' := (mkF m 19 #[.val (.ref ob), .val (.int 2), .val (.int pp), .val (.int 1)] [(.int pp), (.int 2), (.ref y1)])) (fun t k => XS.iloadN X32.here hx rfl (hb hby d3_18) rfl k) ?_
    refine own_by (T' := T32) (g' := (mkF m 21 #[.val (.ref ob), .val (.int 2), .val (.int pp), .val (.int 1)] [(.int 8), (.int pp), (.int 2), (.ref y1)])) (fun t k => XS.bipush X32.here hx rfl (hb hby d3_19) k) ?_
    refine own_by (T' := T32) (g' := (mkF m 22 #[.val (.ref ob), .val (.int 2), .val (.int pp), .val (.int 1)] [(.int 1), (.int 8), (.int pp), (.int 2), (.ref y1)])) (fun t k => XS.iloadN X32.here hx rfl (hb hby d3_21) rfl k) ?_
    refine own_by (T' := T32) (g' := (mkF m 23 #[.val (.ref ob), .val (.int 2), .val (.int pp), .val (.int 1)] [(.int 8), (.int pp), (.int 2), (.ref y1)])) (fun t k => XS.imul X32.here hx rfl (hb hby d3_22) rfl k) ?_
    refine own_by (T' := T32) (g' := (mkF m 24 #[.val (.ref ob), .val (.int 2), .val (.int pp), .val (.int 1)] [(.int ((pp.toUInt32 >>> ((8 : Int32) &&& 31).toUInt32).toInt32)), (.int 2), (.ref y1)])) (fun t k => XS.iushr X32.here hx rfl (hb hby d3_23) rfl k) ?_
    refine own_by (T' := T32) (g' := (mkF m 25 #[.val (.ref ob), .val (.int 2), .val (.int pp), .val (.int 1)] [(.int (((pp.toUInt32 >>> ((8 : Int32) &&& 31).toUInt32).toInt32).toInt8.toInt32)), (.int 2), (.ref y1)])) (fun t k => XS.i2b X32.here hx rfl (hb hby d3_24) rfl k) ?_
    obtain ⟨cl34, Ar34, q34, S34, N34, Hs34, G34⟩ := id V_y1
    have hin34 : ¬ ((2 : Int32) < 0 ∨ cl34.slots.size ≤ ((2 : Int32)).toNatClampNeg) := inb_of S34 ⟨by decide, by decide⟩
    obtain ⟨T34, h34, X34, e34, W34, st34⟩ := stB X32 hx hZ e32 Ar34 (j := (2 : Int32)) hin34 (g := (mkF m 25 #[.val (.ref ob), .val (.int 2), .val (.int pp), .val (.int 1)] [(.int (((pp.toUInt32 >>> ((8 : Int32) &&& 31).toUInt32).toInt32).toInt8.toInt32)), (.int 2), (.ref y1)])) rfl rfl (hb hby d3_25)
    have V_y1_ : Arv Z h34 y1 kc .byte (3 : Int32) [(.int ee10), (.int ee11), (.int (nar .byte (((pp.toUInt32 >>> ((8 : Int32) &&& 31).toUInt32).toInt32).toInt8.toInt32)))] (.int 0) := Arv.set Ar34 q34 S34 N34 Hs34 G34 (fits_nar_byte _) W34 2 rfl (Nat.le_of_ble_eq_true rfl)
    have F_planes_ob := F_planes_ob.other W34 (Or.inl ne_ob_y1)
    have V_b := V_b.other W34 ne_b_y1
    have Zle := Nat.le_trans Zle (Keep.of_wr W34).1
    have K_ := K_.wr W34 (Or.inl (List.mem_of_getElem? (i := 1) rfl))
    have V_y0 := V_y0.other W34 ne_y0_y1
    have V_y1 := V_y1_
    have N_ := Fr.snoc X34 N_ g_y1
    refine own_by (T' := T34) (g' := (mkF m 26 #[.val (.ref ob), .val (.int 2), .val (.int pp), .val (.int 1)] [])) (fun t k => st34 t k) ?_
    refine own_by (T' := T34) (g' := (mkF m 29 #[.val (.ref ob), .val (.int 2), .val (.int pp), .val (.int 2)] [])) (fun t k => XS.iinc X34.here hx rfl (hb hby d3_26) rfl (l' := #[.val (.ref ob), .val (.int 2), .val (.int pp), .val (.int 2)]) rfl k) ?_
    refine own_by (T' := T34) (g' := (mkF m 2 #[.val (.ref ob), .val (.int 2), .val (.int pp), .val (.int 2)] [])) (fun t k => XS.goto X34.here hx rfl (pc0 := 29) (pc' := 2) rfl (hb hby d3_29) (by decide) (by decide) k) ?_
    refine own_by (T' := T34) (g' := (mkF m 3 #[.val (.ref ob), .val (.int 2), .val (.int pp), .val (.int 2)] [(.int 2)])) (fun t k => XS.iloadN X34.here hx rfl (hb hby d3_2) rfl k) ?_
    refine own_by (T' := T34) (g' := (mkF m 4 #[.val (.ref ob), .val (.int 2), .val (.int pp), .val (.int 2)] [(.ref ob), (.int 2)])) (fun t k => XS.aloadN X34.here hx rfl (hb hby d3_3) rfl rfl k) ?_
    obtain ⟨T35, X35, e35, st35⟩ := getF X34 hx hZ hown (host := "") (Or.inl (hw _ (own_m 16 rfl))) Via.refl e34 F_planes_ob (g := (mkF m 4 #[.val (.ref ob), .val (.int 2), .val (.int pp), .val (.int 2)] [(.ref ob), (.int 2)])) rfl rfl (hb hby d3_4)
    refine own_by (T' := T35) (g' := (mkF m 7 #[.val (.ref ob), .val (.int 2), .val (.int pp), .val (.int 2)] [(.ref b), (.int 2)])) (fun t k => st35 t k) ?_
    obtain ⟨cl36, Ar36, -, S36, N36, -, -⟩ := id V_b
    have st36 : ∀ t, Steps p.tables e below (T35.setTop (mkF m 8 #[.val (.ref ob), .val (.int 2), .val (.int pp), .val (.int 2)] [(.int 2), (.int 2)])) t → Steps p.tables e below (T35.setTop (mkF m 7 #[.val (.ref ob), .val (.int 2), .val (.int pp), .val (.int 2)] [(.ref b), (.int 2)])) t := fun t k => X35.arraylength hx (by rw [e35]; exact Ar36.1) (State.isArrayOf_alike hZ.alike Ar36.2.1) (g := (mkF m 7 #[.val (.ref ob), .val (.int 2), .val (.int pp), .val (.int 2)] [(.ref b), (.int 2)])) rfl rfl (hb hby d3_7) _ (by rw [len_of S36 N36]; exact k)
    refine own_by (T' := T35) (g' := (mkF m 8 #[.val (.ref ob), .val (.int 2), .val (.int pp), .val (.int 2)] [(.int 2), (.int 2)])) (fun t k => st36 t k) ?_
    refine own_by (T' := T35) (g' := (mkF m 32 #[.val (.ref ob), .val (.int 2), .val (.int pp), .val (.int 2)] [])) (fun t k => XS.icmpYes X35.here hx rfl (pc0 := 8) (pc' := 32) rfl (hb hby d3_8) rfl (flt (by decide)).2.1 (by decide) (by decide) k) ?_
    exact own_retV X35 hx Bd.notSynchronized Bd.returns (hb hby d3_32) (by decide) (by decide) (by rw [e35]; exact ⟨rfl, N_, K_, V_b, V_y0, V_y1⟩)

theorem ef_4P2 (m : MethodId) (ob : Addr) (jj : Int32) : entryFrame m #[(.ref ob), (.int jj)] 4 = mkF m 0 #[.val (.ref ob), .val (.int jj), .unset, .unset] [] := by first | (simp [entryFrame, mkF, argsToLocals, Value.category]; done) | rfl
def Q4P2 (Z : State) (ob : Addr) (jj : Int32) (b : Addr) (y0 : Addr) (y1 : Addr) (kb : ClassId) (kc : ClassId) (ee00 : Int32) (ee01 : Int32) (ee02 : Int32) (ee10 : Int32) (ee11 : Int32) (ee12 : Int32) (h0 : Heap) (n0 : Nat) (v : Option Value) (h : Heap) (L : List Loc) : Prop := v = some (.int (own_g2 (own_at jj ee00 ee01 ee02) (own_at jj ee10 ee11 ee12))) ∧ Fr n0 L ∧ h = h0
set_option maxRecDepth 65536 in
set_option maxHeartbeats 40000000 in
theorem rm4P2 (l : Launch) (Z : State) (a0 : Array Value) (hw : ∀ d ∈ tables_1, d.before a0 Z = true) (ws : List Jvm.Cond) (ob : Addr) (jj : Int32) (b : Addr) (y0 : Addr) (y1 : Addr) (kb : ClassId) (kc : ClassId) (ee00 : Int32) (ee01 : Int32) (ee02 : Int32) (ee10 : Int32) (ee11 : Int32) (ee12 : Int32) (h0 : Heap) (n0 : Nat) (Zle : n0 ≤ h0.size) (F_planes_ob : Fld Z h0 ob "com/example/cipherloom/cipherloom/core/Letters" "planes" "[[B" (.ref b)) (V_b : Arv Z h0 b kb (.array .byte) (2 : Int32) [(.ref y0), (.ref y1)] .null) (V_y0 : Arv Z h0 y0 kc .byte (3 : Int32) [(.int ee00), (.int ee01), (.int ee02)] (.int 0)) (V_y1 : Arv Z h0 y1 kc .byte (3 : Int32) [(.int ee10), (.int ee11), (.int ee12)] (.int 0)) (hj : jj = 0 ∨ jj = 1 ∨ jj = 2) :
    MetFree l (⟨"com/example/cipherloom/cipherloom/core/Letters", "get", "(I)I"⟩ : MethodName) (head1 (Jvm.Cond.code (⟨"com/example/cipherloom/cipherloom/core/Letters", "get", "(I)I"⟩ : MethodName) prog_45_method_5_code 4 (some .int) :: ws) ({ frames := 0, cells := 0, slots := 0, locals := 0 } : Room)) (fun a U => a = #[(.ref ob), (.int jj)] ∧ Z.Warmed39 U.vm ∧ U.heap = h0) (fun _ _ _ _ _ => True) (fun _ U o U' => ∃ v L, o = .returned v ∧ Q4P2 Z ob jj b y0 y1 kb kc ee00 ee01 ee02 ee10 ee11 ee12 h0 n0 v U'.heap L ∧ FrameEnd U o U' L ({ frames := 0, cells := 0, slots := 0, locals := 0 } : Room).cells ({ frames := 0, cells := 0, slots := 0, locals := 0 } : Room).slots) := by
  refine MetFree.of_bodySF (plainFor_of_name pn_com_example_cipherloom_cipherloom_core_Letters) hisR ?_
  intro p e s m args below meth c s₁ Bd hml0 hP hK
  obtain ⟨rfl, hZ, hh⟩ := hP
  have hx := Bd.exec
  have hby := Bd.bytes
  have hml : c.maxLocals = 4 := hml0
  have hown : s.vm.findClass "com/example/cipherloom/cipherloom/core/Letters" = some m.cls := findClass_of_methodNamed Bd.named
  have hnm := (name_of_methodNamed Bd.named Bd.method).1
  have X0 : Stand p l e ({ frames := 0, cells := 0, slots := 0, locals := 0 } : Room) s m #[(.ref ob), (.int jj)] below meth c s₁ [] 0 0 := Stand.of_body Bd
  have e0 : s₁.heap = h0 := by rw [← hh, Bd.state]; rfl
  have N_ := Fr.nil n0
  show own_Goes p.tables e below s (Q4P2 Z ob jj b y0 y1 kb kc ee00 ee01 ee02 ee10 ee11 ee12 h0 n0) ({ frames := 0, cells := 0, slots := 0, locals := 0 } : Room).cells ({ frames := 0, cells := 0, slots := 0, locals := 0 } : Room).slots s₁ (entryFrame m #[(.ref ob), (.int jj)] 4)
  refine own_by (T' := s₁) (g' := (mkF m 0 #[.val (.ref ob), .val (.int jj), .unset, .unset] [])) (fun t k => castTop (ef_4P2 m ob jj) k) ?_
  rcases hj with rfl | rfl | rfl
  · refine own_by (T' := s₁) (g' := (mkF m 1 #[.val (.ref ob), .val (.int 0), .unset, .unset] [(.int 0)])) (fun t k => XS.iconst X0.here hx rfl (hb hby d4_0) k) ?_
    refine own_by (T' := s₁) (g' := (mkF m 2 #[.val (.ref ob), .val (.int 0), .val (.int 0), .unset] [])) (fun t k => XS.istoreN X0.here hx rfl (hb hby d4_1) rfl (l' := #[.val (.ref ob), .val (.int 0), .val (.int 0), .unset]) rfl k) ?_
    refine own_by (T' := s₁) (g' := (mkF m 3 #[.val (.ref ob), .val (.int 0), .val (.int 0), .unset] [(.ref ob)])) (fun t k => XS.aloadN X0.here hx rfl (hb hby d4_2) rfl rfl k) ?_
    obtain ⟨T1, X1, e1, st1⟩ := getF X0 hx hZ hown (host := "") (Or.inl (hw _ (own_m 16 rfl))) Via.refl e0 F_planes_ob (g := (mkF m 3 #[.val (.ref ob), .val (.int 0), .val (.int 0), .unset] [(.ref ob)])) rfl rfl (hb hby d4_3)
    refine own_by (T' := T1) (g' := (mkF m 6 #[.val (.ref ob), .val (.int 0), .val (.int 0), .unset] [(.ref b)])) (fun t k => st1 t k) ?_
    obtain ⟨cl2, Ar2, -, S2, N2, -, -⟩ := id V_b
    have st2 : ∀ t, Steps p.tables e below (T1.setTop (mkF m 7 #[.val (.ref ob), .val (.int 0), .val (.int 0), .unset] [(.int 2)])) t → Steps p.tables e below (T1.setTop (mkF m 6 #[.val (.ref ob), .val (.int 0), .val (.int 0), .unset] [(.ref b)])) t := fun t k => X1.arraylength hx (by rw [e1]; exact Ar2.1) (State.isArrayOf_alike hZ.alike Ar2.2.1) (g := (mkF m 6 #[.val (.ref ob), .val (.int 0), .val (.int 0), .unset] [(.ref b)])) rfl rfl (hb hby d4_6) _ (by rw [len_of S2 N2]; exact k)
    refine own_by (T' := T1) (g' := (mkF m 7 #[.val (.ref ob), .val (.int 0), .val (.int 0), .unset] [(.int 2)])) (fun t k => st2 t k) ?_
    refine own_by (T' := T1) (g' := (mkF m 8 #[.val (.ref ob), .val (.int 0), .val (.int 0), .unset] [(.int 1), (.int 2)])) (fun t k => XS.iconst X1.here hx rfl (hb hby d4_7) k) ?_
    refine own_by (T' := T1) (g' := (mkF m 9 #[.val (.ref ob), .val (.int 0), .val (.int 0), .unset] [(.int 1)])) (fun t k => XS.isub X1.here hx rfl (hb hby d4_8) rfl k) ?_
    refine own_by (T' := T1) (g' := (mkF m 10 #[.val (.ref ob), .val (.int 0), .val (.int 0), .val (.int 1)] [])) (fun t k => XS.istoreN X1.here hx rfl (hb hby d4_9) rfl (l' := #[.val (.ref ob), .val (.int 0), .val (.int 0), .val (.int 1)]) rfl k) ?_
    refine own_by (T' := T1) (g' := (mkF m 11 #[.val (.ref ob), .val (.int 0), .val (.int 0), .val (.int 1)] [(.int 1)])) (fun t k => XS.iloadN X1.here hx rfl (hb hby d4_10) rfl k) ?_
    refine own_by (T' := T1) (g' := (mkF m 14 #[.val (.ref ob), .val (.int 0), .val (.int 0), .val (.int 1)] [])) (fun t k => XS.ifNo X1.here hx rfl (hb hby d4_11) rfl ((if0 _ _).trans (flt (by decide)).1) k) ?_
    refine own_by (T' := T1) (g' := (mkF m 15 #[.val (.ref ob), .val (.int 0), .val (.int 0), .val (.int 1)] [(.int 0)])) (fun t k => XS.iloadN X1.here hx rfl (hb hby d4_14) rfl k) ?_
    refine own_by (T' := T1) (g' := (mkF m 17 #[.val (.ref ob), .val (.int 0), .val (.int 0), .val (.int 1)] [(.int 8), (.int 0)])) (fun t k => XS.bipush X1.here hx rfl (hb hby d4_15) k) ?_
    refine own_by (T' := T1) (g' := (mkF m 18 #[.val (.ref ob), .val (.int 0), .val (.int 0), .val (.int 1)] [(.int ((0 : Int32) <<< ((8 : Int32) &&& 31)))])) (fun t k => XS.ishl X1.here hx rfl (hb hby d4_17) rfl k) ?_
    refine own_by (T' := T1) (g' := (mkF m 19 #[.val (.ref ob), .val (.int 0), .val (.int 0), .val (.int 1)] [(.ref ob), (.int ((0 : Int32) <<< ((8 : Int32) &&& 31)))])) (fun t k => XS.aloadN X1.here hx rfl (hb hby d4_18) rfl rfl k) ?_
    obtain ⟨T3, X3, e3, st3⟩ := getF X1 hx hZ hown (host := "") (Or.inl (hw _ (own_m 16 rfl))) Via.refl e1 F_planes_ob (g := (mkF m 19 #[.val (.ref ob), .val (.int 0), .val (.int 0), .val (.int 1)] [(.ref ob), (.int ((0 : Int32) <<< ((8 : Int32) &&& 31)))])) rfl rfl (hb hby d4_19)
    refine own_by (T' := T3) (g' := (mkF m 22 #[.val (.ref ob), .val (.int 0), .val (.int 0), .val (.int 1)] [(.ref b), (.int ((0 : Int32) <<< ((8 : Int32) &&& 31)))])) (fun t k => st3 t k) ?_
    refine own_by (T' := T3) (g' := (mkF m 23 #[.val (.ref ob), .val (.int 0), .val (.int 0), .val (.int 1)] [(.int 1), (.ref b), (.int ((0 : Int32) <<< ((8 : Int32) &&& 31)))])) (fun t k => XS.iloadN X3.here hx rfl (hb hby d4_22) rfl k) ?_
    obtain ⟨cl4, Ar4, q4, S4, N4, Hs4, G4⟩ := id V_b
    have hin4 : ¬ ((1 : Int32) < 0 ∨ cl4.slots.size ≤ ((1 : Int32)).toNatClampNeg) := inb_of S4 ⟨by decide, by decide⟩
    have hat4 : cl4.slots[((1 : Int32)).toNatClampNeg]? = some (.ref y1) := Hs4.at hin4 rfl
    refine own_by (T' := T3) (g' := (mkF m 24 #[.val (.ref ob), .val (.int 0), .val (.int 0), .val (.int 1)] [(.ref y1), (.int ((0 : Int32) <<< ((8 : Int32) &&& 31)))])) (fun t k => X3.aaload hx (j := (1 : Int32)) (v := (.ref y1)) (by rw [e3]; exact Ar4.1) (State.isArrayOf_alike hZ.alike Ar4.2.1) rfl Ar4.2.2 hin4 hat4 (g := (mkF m 23 #[.val (.ref ob), .val (.int 0), .val (.int 0), .val (.int 1)] [(.int 1), (.ref b), (.int ((0 : Int32) <<< ((8 : Int32) &&& 31)))])) rfl rfl (hb hby d4_23) _ k) ?_
    refine own_by (T' := T3) (g' := (mkF m 25 #[.val (.ref ob), .val (.int 0), .val (.int 0), .val (.int 1)] [(.int 0), (.ref y1), (.int ((0 : Int32) <<< ((8 : Int32) &&& 31)))])) (fun t k => XS.iloadN X3.here hx rfl (hb hby d4_24) rfl k) ?_
    obtain ⟨cl5, Ar5, q5, S5, N5, Hs5, G5⟩ := id V_y1
    have hin5 : ¬ ((0 : Int32) < 0 ∨ cl5.slots.size ≤ ((0 : Int32)).toNatClampNeg) := inb_of S5 ⟨by decide, by decide⟩
    have hat5 : cl5.slots[((0 : Int32)).toNatClampNeg]? = some (.int ee10) := Hs5.at hin5 rfl
    refine own_by (T' := T3) (g' := (mkF m 26 #[.val (.ref ob), .val (.int 0), .val (.int 0), .val (.int 1)] [(.int ee10), (.int ((0 : Int32) <<< ((8 : Int32) &&& 31)))])) (fun t k => X3.baloadBytes hx (j := (0 : Int32)) (v := (.int ee10)) (by rw [e3]; exact Ar5.1) (State.isArrayOf_alike hZ.alike Ar5.2.1) Ar5.2.2 hin5 hat5 (g := (mkF m 25 #[.val (.ref ob), .val (.int 0), .val (.int 0), .val (.int 1)] [(.int 0), (.ref y1), (.int ((0 : Int32) <<< ((8 : Int32) &&& 31)))])) rfl rfl (hb hby d4_25) _ k) ?_
    refine own_by (T' := T3) (g' := (mkF m 29 #[.val (.ref ob), .val (.int 0), .val (.int 0), .val (.int 1)] [(.int 255), (.int ee10), (.int ((0 : Int32) <<< ((8 : Int32) &&& 31)))])) (fun t k => XS.sipush X3.here hx rfl (hb hby d4_26) k) ?_
    refine own_by (T' := T3) (g' := (mkF m 30 #[.val (.ref ob), .val (.int 0), .val (.int 0), .val (.int 1)] [(.int (ee10 &&& (255 : Int32))), (.int ((0 : Int32) <<< ((8 : Int32) &&& 31)))])) (fun t k => XS.iand X3.here hx rfl (hb hby d4_29) rfl k) ?_
    refine own_by (T' := T3) (g' := (mkF m 31 #[.val (.ref ob), .val (.int 0), .val (.int 0), .val (.int 1)] [(.int (((0 : Int32) <<< ((8 : Int32) &&& 31)) ||| (ee10 &&& (255 : Int32))))])) (fun t k => XS.ior X3.here hx rfl (hb hby d4_30) rfl k) ?_
    refine own_by (T' := T3) (g' := (mkF m 32 #[.val (.ref ob), .val (.int 0), .val (.int (((0 : Int32) <<< ((8 : Int32) &&& 31)) ||| (ee10 &&& (255 : Int32)))), .val (.int 1)] [])) (fun t k => XS.istoreN X3.here hx rfl (hb hby d4_31) rfl (l' := #[.val (.ref ob), .val (.int 0), .val (.int (((0 : Int32) <<< ((8 : Int32) &&& 31)) ||| (ee10 &&& (255 : Int32)))), .val (.int 1)]) rfl k) ?_
    refine own_by (T' := T3) (g' := (mkF m 35 #[.val (.ref ob), .val (.int 0), .val (.int (((0 : Int32) <<< ((8 : Int32) &&& 31)) ||| (ee10 &&& (255 : Int32)))), .val (.int 0)] [])) (fun t k => XS.iinc X3.here hx rfl (hb hby d4_32) rfl (l' := #[.val (.ref ob), .val (.int 0), .val (.int (((0 : Int32) <<< ((8 : Int32) &&& 31)) ||| (ee10 &&& (255 : Int32)))), .val (.int 0)]) rfl k) ?_
    refine own_by (T' := T3) (g' := (mkF m 10 #[.val (.ref ob), .val (.int 0), .val (.int (((0 : Int32) <<< ((8 : Int32) &&& 31)) ||| (ee10 &&& (255 : Int32)))), .val (.int 0)] [])) (fun t k => XS.goto X3.here hx rfl (pc0 := 35) (pc' := 10) rfl (hb hby d4_35) (by decide) (by decide) k) ?_
    refine own_by (T' := T3) (g' := (mkF m 11 #[.val (.ref ob), .val (.int 0), .val (.int (((0 : Int32) <<< ((8 : Int32) &&& 31)) ||| (ee10 &&& (255 : Int32)))), .val (.int 0)] [(.int 0)])) (fun t k => XS.iloadN X3.here hx rfl (hb hby d4_10) rfl k) ?_
    refine own_by (T' := T3) (g' := (mkF m 14 #[.val (.ref ob), .val (.int 0), .val (.int (((0 : Int32) <<< ((8 : Int32) &&& 31)) ||| (ee10 &&& (255 : Int32)))), .val (.int 0)] [])) (fun t k => XS.ifNo X3.here hx rfl (hb hby d4_11) rfl ((if0 _ _).trans (flt (by decide)).1) k) ?_
    refine own_by (T' := T3) (g' := (mkF m 15 #[.val (.ref ob), .val (.int 0), .val (.int (((0 : Int32) <<< ((8 : Int32) &&& 31)) ||| (ee10 &&& (255 : Int32)))), .val (.int 0)] [(.int (((0 : Int32) <<< ((8 : Int32) &&& 31)) ||| (ee10 &&& (255 : Int32))))])) (fun t k => XS.iloadN X3.here hx rfl (hb hby d4_14) rfl k) ?_
    refine own_by (T' := T3) (g' := (mkF m 17 #[.val (.ref ob), .val (.int 0), .val (.int (((0 : Int32) <<< ((8 : Int32) &&& 31)) ||| (ee10 &&& (255 : Int32)))), .val (.int 0)] [(.int 8), (.int (((0 : Int32) <<< ((8 : Int32) &&& 31)) ||| (ee10 &&& (255 : Int32))))])) (fun t k => XS.bipush X3.here hx rfl (hb hby d4_15) k) ?_
    refine own_by (T' := T3) (g' := (mkF m 18 #[.val (.ref ob), .val (.int 0), .val (.int (((0 : Int32) <<< ((8 : Int32) &&& 31)) ||| (ee10 &&& (255 : Int32)))), .val (.int 0)] [(.int ((((0 : Int32) <<< ((8 : Int32) &&& 31)) ||| (ee10 &&& (255 : Int32))) <<< ((8 : Int32) &&& 31)))])) (fun t k => XS.ishl X3.here hx rfl (hb hby d4_17) rfl k) ?_
    refine own_by (T' := T3) (g' := (mkF m 19 #[.val (.ref ob), .val (.int 0), .val (.int (((0 : Int32) <<< ((8 : Int32) &&& 31)) ||| (ee10 &&& (255 : Int32)))), .val (.int 0)] [(.ref ob), (.int ((((0 : Int32) <<< ((8 : Int32) &&& 31)) ||| (ee10 &&& (255 : Int32))) <<< ((8 : Int32) &&& 31)))])) (fun t k => XS.aloadN X3.here hx rfl (hb hby d4_18) rfl rfl k) ?_
    obtain ⟨T6, X6, e6, st6⟩ := getF X3 hx hZ hown (host := "") (Or.inl (hw _ (own_m 16 rfl))) Via.refl e3 F_planes_ob (g := (mkF m 19 #[.val (.ref ob), .val (.int 0), .val (.int (((0 : Int32) <<< ((8 : Int32) &&& 31)) ||| (ee10 &&& (255 : Int32)))), .val (.int 0)] [(.ref ob), (.int ((((0 : Int32) <<< ((8 : Int32) &&& 31)) ||| (ee10 &&& (255 : Int32))) <<< ((8 : Int32) &&& 31)))])) rfl rfl (hb hby d4_19)
    refine own_by (T' := T6) (g' := (mkF m 22 #[.val (.ref ob), .val (.int 0), .val (.int (((0 : Int32) <<< ((8 : Int32) &&& 31)) ||| (ee10 &&& (255 : Int32)))), .val (.int 0)] [(.ref b), (.int ((((0 : Int32) <<< ((8 : Int32) &&& 31)) ||| (ee10 &&& (255 : Int32))) <<< ((8 : Int32) &&& 31)))])) (fun t k => st6 t k) ?_
    refine own_by (T' := T6) (g' := (mkF m 23 #[.val (.ref ob), .val (.int 0), .val (.int (((0 : Int32) <<< ((8 : Int32) &&& 31)) ||| (ee10 &&& (255 : Int32)))), .val (.int 0)] [(.int 0), (.ref b), (.int ((((0 : Int32) <<< ((8 : Int32) &&& 31)) ||| (ee10 &&& (255 : Int32))) <<< ((8 : Int32) &&& 31)))])) (fun t k => XS.iloadN X6.here hx rfl (hb hby d4_22) rfl k) ?_
    obtain ⟨cl7, Ar7, q7, S7, N7, Hs7, G7⟩ := id V_b
    have hin7 : ¬ ((0 : Int32) < 0 ∨ cl7.slots.size ≤ ((0 : Int32)).toNatClampNeg) := inb_of S7 ⟨by decide, by decide⟩
    have hat7 : cl7.slots[((0 : Int32)).toNatClampNeg]? = some (.ref y0) := Hs7.at hin7 rfl
    refine own_by (T' := T6) (g' := (mkF m 24 #[.val (.ref ob), .val (.int 0), .val (.int (((0 : Int32) <<< ((8 : Int32) &&& 31)) ||| (ee10 &&& (255 : Int32)))), .val (.int 0)] [(.ref y0), (.int ((((0 : Int32) <<< ((8 : Int32) &&& 31)) ||| (ee10 &&& (255 : Int32))) <<< ((8 : Int32) &&& 31)))])) (fun t k => X6.aaload hx (j := (0 : Int32)) (v := (.ref y0)) (by rw [e6]; exact Ar7.1) (State.isArrayOf_alike hZ.alike Ar7.2.1) rfl Ar7.2.2 hin7 hat7 (g := (mkF m 23 #[.val (.ref ob), .val (.int 0), .val (.int (((0 : Int32) <<< ((8 : Int32) &&& 31)) ||| (ee10 &&& (255 : Int32)))), .val (.int 0)] [(.int 0), (.ref b), (.int ((((0 : Int32) <<< ((8 : Int32) &&& 31)) ||| (ee10 &&& (255 : Int32))) <<< ((8 : Int32) &&& 31)))])) rfl rfl (hb hby d4_23) _ k) ?_
    refine own_by (T' := T6) (g' := (mkF m 25 #[.val (.ref ob), .val (.int 0), .val (.int (((0 : Int32) <<< ((8 : Int32) &&& 31)) ||| (ee10 &&& (255 : Int32)))), .val (.int 0)] [(.int 0), (.ref y0), (.int ((((0 : Int32) <<< ((8 : Int32) &&& 31)) ||| (ee10 &&& (255 : Int32))) <<< ((8 : Int32) &&& 31)))])) (fun t k => XS.iloadN X6.here hx rfl (hb hby d4_24) rfl k) ?_
    obtain ⟨cl8, Ar8, q8, S8, N8, Hs8, G8⟩ := id V_y0
    have hin8 : ¬ ((0 : Int32) < 0 ∨ cl8.slots.size ≤ ((0 : Int32)).toNatClampNeg) := inb_of S8 ⟨by decide, by decide⟩
    have hat8 : cl8.slots[((0 : Int32)).toNatClampNeg]? = some (.int ee00) := Hs8.at hin8 rfl
    refine own_by (T' := T6) (g' := (mkF m 26 #[.val (.ref ob), .val (.int 0), .val (.int (((0 : Int32) <<< ((8 : Int32) &&& 31)) ||| (ee10 &&& (255 : Int32)))), .val (.int 0)] [(.int ee00), (.int ((((0 : Int32) <<< ((8 : Int32) &&& 31)) ||| (ee10 &&& (255 : Int32))) <<< ((8 : Int32) &&& 31)))])) (fun t k => X6.baloadBytes hx (j := (0 : Int32)) (v := (.int ee00)) (by rw [e6]; exact Ar8.1) (State.isArrayOf_alike hZ.alike Ar8.2.1) Ar8.2.2 hin8 hat8 (g := (mkF m 25 #[.val (.ref ob), .val (.int 0), .val (.int (((0 : Int32) <<< ((8 : Int32) &&& 31)) ||| (ee10 &&& (255 : Int32)))), .val (.int 0)] [(.int 0), (.ref y0), (.int ((((0 : Int32) <<< ((8 : Int32) &&& 31)) ||| (ee10 &&& (255 : Int32))) <<< ((8 : Int32) &&& 31)))])) rfl rfl (hb hby d4_25) _ k) ?_
    refine own_by (T' := T6) (g' := (mkF m 29 #[.val (.ref ob), .val (.int 0), .val (.int (((0 : Int32) <<< ((8 : Int32) &&& 31)) ||| (ee10 &&& (255 : Int32)))), .val (.int 0)] [(.int 255), (.int ee00), (.int ((((0 : Int32) <<< ((8 : Int32) &&& 31)) ||| (ee10 &&& (255 : Int32))) <<< ((8 : Int32) &&& 31)))])) (fun t k => XS.sipush X6.here hx rfl (hb hby d4_26) k) ?_
    refine own_by (T' := T6) (g' := (mkF m 30 #[.val (.ref ob), .val (.int 0), .val (.int (((0 : Int32) <<< ((8 : Int32) &&& 31)) ||| (ee10 &&& (255 : Int32)))), .val (.int 0)] [(.int (ee00 &&& (255 : Int32))), (.int ((((0 : Int32) <<< ((8 : Int32) &&& 31)) ||| (ee10 &&& (255 : Int32))) <<< ((8 : Int32) &&& 31)))])) (fun t k => XS.iand X6.here hx rfl (hb hby d4_29) rfl k) ?_
    refine own_by (T' := T6) (g' := (mkF m 31 #[.val (.ref ob), .val (.int 0), .val (.int (((0 : Int32) <<< ((8 : Int32) &&& 31)) ||| (ee10 &&& (255 : Int32)))), .val (.int 0)] [(.int (((((0 : Int32) <<< ((8 : Int32) &&& 31)) ||| (ee10 &&& (255 : Int32))) <<< ((8 : Int32) &&& 31)) ||| (ee00 &&& (255 : Int32))))])) (fun t k => XS.ior X6.here hx rfl (hb hby d4_30) rfl k) ?_
    refine own_by (T' := T6) (g' := (mkF m 32 #[.val (.ref ob), .val (.int 0), .val (.int (((((0 : Int32) <<< ((8 : Int32) &&& 31)) ||| (ee10 &&& (255 : Int32))) <<< ((8 : Int32) &&& 31)) ||| (ee00 &&& (255 : Int32)))), .val (.int 0)] [])) (fun t k => XS.istoreN X6.here hx rfl (hb hby d4_31) rfl (l' := #[.val (.ref ob), .val (.int 0), .val (.int (((((0 : Int32) <<< ((8 : Int32) &&& 31)) ||| (ee10 &&& (255 : Int32))) <<< ((8 : Int32) &&& 31)) ||| (ee00 &&& (255 : Int32)))), .val (.int 0)]) rfl k) ?_
    refine own_by (T' := T6) (g' := (mkF m 35 #[.val (.ref ob), .val (.int 0), .val (.int (((((0 : Int32) <<< ((8 : Int32) &&& 31)) ||| (ee10 &&& (255 : Int32))) <<< ((8 : Int32) &&& 31)) ||| (ee00 &&& (255 : Int32)))), .val (.int (-1))] [])) (fun t k => XS.iinc X6.here hx rfl (hb hby d4_32) rfl (l' := #[.val (.ref ob), .val (.int 0), .val (.int (((((0 : Int32) <<< ((8 : Int32) &&& 31)) ||| (ee10 &&& (255 : Int32))) <<< ((8 : Int32) &&& 31)) ||| (ee00 &&& (255 : Int32)))), .val (.int (-1))]) rfl k) ?_
    refine own_by (T' := T6) (g' := (mkF m 10 #[.val (.ref ob), .val (.int 0), .val (.int (((((0 : Int32) <<< ((8 : Int32) &&& 31)) ||| (ee10 &&& (255 : Int32))) <<< ((8 : Int32) &&& 31)) ||| (ee00 &&& (255 : Int32)))), .val (.int (-1))] [])) (fun t k => XS.goto X6.here hx rfl (pc0 := 35) (pc' := 10) rfl (hb hby d4_35) (by decide) (by decide) k) ?_
    refine own_by (T' := T6) (g' := (mkF m 11 #[.val (.ref ob), .val (.int 0), .val (.int (((((0 : Int32) <<< ((8 : Int32) &&& 31)) ||| (ee10 &&& (255 : Int32))) <<< ((8 : Int32) &&& 31)) ||| (ee00 &&& (255 : Int32)))), .val (.int (-1))] [(.int (-1))])) (fun t k => XS.iloadN X6.here hx rfl (hb hby d4_10) rfl k) ?_
    refine own_by (T' := T6) (g' := (mkF m 38 #[.val (.ref ob), .val (.int 0), .val (.int (((((0 : Int32) <<< ((8 : Int32) &&& 31)) ||| (ee10 &&& (255 : Int32))) <<< ((8 : Int32) &&& 31)) ||| (ee00 &&& (255 : Int32)))), .val (.int (-1))] [])) (fun t k => XS.ifYes X6.here hx rfl (pc0 := 11) (pc' := 38) rfl (hb hby d4_11) rfl ((if0 _ _).trans (tlt (by decide)).1) (by decide) (by decide) k) ?_
    refine own_by (T' := T6) (g' := (mkF m 39 #[.val (.ref ob), .val (.int 0), .val (.int (((((0 : Int32) <<< ((8 : Int32) &&& 31)) ||| (ee10 &&& (255 : Int32))) <<< ((8 : Int32) &&& 31)) ||| (ee00 &&& (255 : Int32)))), .val (.int (-1))] [(.int (((((0 : Int32) <<< ((8 : Int32) &&& 31)) ||| (ee10 &&& (255 : Int32))) <<< ((8 : Int32) &&& 31)) ||| (ee00 &&& (255 : Int32))))])) (fun t k => XS.iloadN X6.here hx rfl (hb hby d4_38) rfl k) ?_
    exact own_retI X6 hx Bd.notSynchronized Bd.returns (hb hby d4_39) (by decide) (by decide) (by rw [e6]; exact ⟨rfl, N_, rfl⟩)
  · refine own_by (T' := s₁) (g' := (mkF m 1 #[.val (.ref ob), .val (.int 1), .unset, .unset] [(.int 0)])) (fun t k => XS.iconst X0.here hx rfl (hb hby d4_0) k) ?_
    refine own_by (T' := s₁) (g' := (mkF m 2 #[.val (.ref ob), .val (.int 1), .val (.int 0), .unset] [])) (fun t k => XS.istoreN X0.here hx rfl (hb hby d4_1) rfl (l' := #[.val (.ref ob), .val (.int 1), .val (.int 0), .unset]) rfl k) ?_
    refine own_by (T' := s₁) (g' := (mkF m 3 #[.val (.ref ob), .val (.int 1), .val (.int 0), .unset] [(.ref ob)])) (fun t k => XS.aloadN X0.here hx rfl (hb hby d4_2) rfl rfl k) ?_
    obtain ⟨T9, X9, e9, st9⟩ := getF X0 hx hZ hown (host := "") (Or.inl (hw _ (own_m 16 rfl))) Via.refl e0 F_planes_ob (g := (mkF m 3 #[.val (.ref ob), .val (.int 1), .val (.int 0), .unset] [(.ref ob)])) rfl rfl (hb hby d4_3)
    refine own_by (T' := T9) (g' := (mkF m 6 #[.val (.ref ob), .val (.int 1), .val (.int 0), .unset] [(.ref b)])) (fun t k => st9 t k) ?_
    obtain ⟨cl10, Ar10, -, S10, N10, -, -⟩ := id V_b
    have st10 : ∀ t, Steps p.tables e below (T9.setTop (mkF m 7 #[.val (.ref ob), .val (.int 1), .val (.int 0), .unset] [(.int 2)])) t → Steps p.tables e below (T9.setTop (mkF m 6 #[.val (.ref ob), .val (.int 1), .val (.int 0), .unset] [(.ref b)])) t := fun t k => X9.arraylength hx (by rw [e9]; exact Ar10.1) (State.isArrayOf_alike hZ.alike Ar10.2.1) (g := (mkF m 6 #[.val (.ref ob), .val (.int 1), .val (.int 0), .unset] [(.ref b)])) rfl rfl (hb hby d4_6) _ (by rw [len_of S10 N10]; exact k)
    refine own_by (T' := T9) (g' := (mkF m 7 #[.val (.ref ob), .val (.int 1), .val (.int 0), .unset] [(.int 2)])) (fun t k => st10 t k) ?_
    refine own_by (T' := T9) (g' := (mkF m 8 #[.val (.ref ob), .val (.int 1), .val (.int 0), .unset] [(.int 1), (.int 2)])) (fun t k => XS.iconst X9.here hx rfl (hb hby d4_7) k) ?_
    refine own_by (T' := T9) (g' := (mkF m 9 #[.val (.ref ob), .val (.int 1), .val (.int 0), .unset] [(.int 1)])) (fun t k => XS.isub X9.here hx rfl (hb hby d4_8) rfl k) ?_
    refine own_by (T' := T9) (g' := (mkF m 10 #[.val (.ref ob), .val (.int 1), .val (.int 0), .val (.int 1)] [])) (fun t k => XS.istoreN X9.here hx rfl (hb hby d4_9) rfl (l' := #[.val (.ref ob), .val (.int 1), .val (.int 0), .val (.int 1)]) rfl k) ?_
    refine own_by (T' := T9) (g' := (mkF m 11 #[.val (.ref ob), .val (.int 1), .val (.int 0), .val (.int 1)] [(.int 1)])) (fun t k => XS.iloadN X9.here hx rfl (hb hby d4_10) rfl k) ?_
    refine own_by (T' := T9) (g' := (mkF m 14 #[.val (.ref ob), .val (.int 1), .val (.int 0), .val (.int 1)] [])) (fun t k => XS.ifNo X9.here hx rfl (hb hby d4_11) rfl ((if0 _ _).trans (flt (by decide)).1) k) ?_
    refine own_by (T' := T9) (g' := (mkF m 15 #[.val (.ref ob), .val (.int 1), .val (.int 0), .val (.int 1)] [(.int 0)])) (fun t k => XS.iloadN X9.here hx rfl (hb hby d4_14) rfl k) ?_
    refine own_by (T' := T9) (g' := (mkF m 17 #[.val (.ref ob), .val (.int 1), .val (.int 0), .val (.int 1)] [(.int 8), (.int 0)])) (fun t k => XS.bipush X9.here hx rfl (hb hby d4_15) k) ?_
    refine own_by (T' := T9) (g' := (mkF m 18 #[.val (.ref ob), .val (.int 1), .val (.int 0), .val (.int 1)] [(.int ((0 : Int32) <<< ((8 : Int32) &&& 31)))])) (fun t k => XS.ishl X9.here hx rfl (hb hby d4_17) rfl k) ?_
    refine own_by (T' := T9) (g' := (mkF m 19 #[.val (.ref ob), .val (.int 1), .val (.int 0), .val (.int 1)] [(.ref ob), (.int ((0 : Int32) <<< ((8 : Int32) &&& 31)))])) (fun t k => XS.aloadN X9.here hx rfl (hb hby d4_18) rfl rfl k) ?_
    obtain ⟨T11, X11, e11, st11⟩ := getF X9 hx hZ hown (host := "") (Or.inl (hw _ (own_m 16 rfl))) Via.refl e9 F_planes_ob (g := (mkF m 19 #[.val (.ref ob), .val (.int 1), .val (.int 0), .val (.int 1)] [(.ref ob), (.int ((0 : Int32) <<< ((8 : Int32) &&& 31)))])) rfl rfl (hb hby d4_19)
    refine own_by (T' := T11) (g' := (mkF m 22 #[.val (.ref ob), .val (.int 1), .val (.int 0), .val (.int 1)] [(.ref b), (.int ((0 : Int32) <<< ((8 : Int32) &&& 31)))])) (fun t k => st11 t k) ?_
    refine own_by (T' := T11) (g' := (mkF m 23 #[.val (.ref ob), .val (.int 1), .val (.int 0), .val (.int 1)] [(.int 1), (.ref b), (.int ((0 : Int32) <<< ((8 : Int32) &&& 31)))])) (fun t k => XS.iloadN X11.here hx rfl (hb hby d4_22) rfl k) ?_
    obtain ⟨cl12, Ar12, q12, S12, N12, Hs12, G12⟩ := id V_b
    have hin12 : ¬ ((1 : Int32) < 0 ∨ cl12.slots.size ≤ ((1 : Int32)).toNatClampNeg) := inb_of S12 ⟨by decide, by decide⟩
    have hat12 : cl12.slots[((1 : Int32)).toNatClampNeg]? = some (.ref y1) := Hs12.at hin12 rfl
    refine own_by (T' := T11) (g' := (mkF m 24 #[.val (.ref ob), .val (.int 1), .val (.int 0), .val (.int 1)] [(.ref y1), (.int ((0 : Int32) <<< ((8 : Int32) &&& 31)))])) (fun t k => X11.aaload hx (j := (1 : Int32)) (v := (.ref y1)) (by rw [e11]; exact Ar12.1) (State.isArrayOf_alike hZ.alike Ar12.2.1) rfl Ar12.2.2 hin12 hat12 (g := (mkF m 23 #[.val (.ref ob), .val (.int 1), .val (.int 0), .val (.int 1)] [(.int 1), (.ref b), (.int ((0 : Int32) <<< ((8 : Int32) &&& 31)))])) rfl rfl (hb hby d4_23) _ k) ?_
    refine own_by (T' := T11) (g' := (mkF m 25 #[.val (.ref ob), .val (.int 1), .val (.int 0), .val (.int 1)] [(.int 1), (.ref y1), (.int ((0 : Int32) <<< ((8 : Int32) &&& 31)))])) (fun t k => XS.iloadN X11.here hx rfl (hb hby d4_24) rfl k) ?_
    obtain ⟨cl13, Ar13, q13, S13, N13, Hs13, G13⟩ := id V_y1
    have hin13 : ¬ ((1 : Int32) < 0 ∨ cl13.slots.size ≤ ((1 : Int32)).toNatClampNeg) := inb_of S13 ⟨by decide, by decide⟩
    have hat13 : cl13.slots[((1 : Int32)).toNatClampNeg]? = some (.int ee11) := Hs13.at hin13 rfl
    refine own_by (T' := T11) (g' := (mkF m 26 #[.val (.ref ob), .val (.int 1), .val (.int 0), .val (.int 1)] [(.int ee11), (.int ((0 : Int32) <<< ((8 : Int32) &&& 31)))])) (fun t k => X11.baloadBytes hx (j := (1 : Int32)) (v := (.int ee11)) (by rw [e11]; exact Ar13.1) (State.isArrayOf_alike hZ.alike Ar13.2.1) Ar13.2.2 hin13 hat13 (g := (mkF m 25 #[.val (.ref ob), .val (.int 1), .val (.int 0), .val (.int 1)] [(.int 1), (.ref y1), (.int ((0 : Int32) <<< ((8 : Int32) &&& 31)))])) rfl rfl (hb hby d4_25) _ k) ?_
    refine own_by (T' := T11) (g' := (mkF m 29 #[.val (.ref ob), .val (.int 1), .val (.int 0), .val (.int 1)] [(.int 255), (.int ee11), (.int ((0 : Int32) <<< ((8 : Int32) &&& 31)))])) (fun t k => XS.sipush X11.here hx rfl (hb hby d4_26) k) ?_
    refine own_by (T' := T11) (g' := (mkF m 30 #[.val (.ref ob), .val (.int 1), .val (.int 0), .val (.int 1)] [(.int (ee11 &&& (255 : Int32))), (.int ((0 : Int32) <<< ((8 : Int32) &&& 31)))])) (fun t k => XS.iand X11.here hx rfl (hb hby d4_29) rfl k) ?_
    refine own_by (T' := T11) (g' := (mkF m 31 #[.val (.ref ob), .val (.int 1), .val (.int 0), .val (.int 1)] [(.int (((0 : Int32) <<< ((8 : Int32) &&& 31)) ||| (ee11 &&& (255 : Int32))))])) (fun t k => XS.ior X11.here hx rfl (hb hby d4_30) rfl k) ?_
    refine own_by (T' := T11) (g' := (mkF m 32 #[.val (.ref ob), .val (.int 1), .val (.int (((0 : Int32) <<< ((8 : Int32) &&& 31)) ||| (ee11 &&& (255 : Int32)))), .val (.int 1)] [])) (fun t k => XS.istoreN X11.here hx rfl (hb hby d4_31) rfl (l' := #[.val (.ref ob), .val (.int 1), .val (.int (((0 : Int32) <<< ((8 : Int32) &&& 31)) ||| (ee11 &&& (255 : Int32)))), .val (.int 1)]) rfl k) ?_
    refine own_by (T' := T11) (g' := (mkF m 35 #[.val (.ref ob), .val (.int 1), .val (.int (((0 : Int32) <<< ((8 : Int32) &&& 31)) ||| (ee11 &&& (255 : Int32)))), .val (.int 0)] [])) (fun t k => XS.iinc X11.here hx rfl (hb hby d4_32) rfl (l' := #[.val (.ref ob), .val (.int 1), .val (.int (((0 : Int32) <<< ((8 : Int32) &&& 31)) ||| (ee11 &&& (255 : Int32)))), .val (.int 0)]) rfl k) ?_
    refine own_by (T' := T11) (g' := (mkF m 10 #[.val (.ref ob), .val (.int 1), .val (.int (((0 : Int32) <<< ((8 : Int32) &&& 31)) ||| (ee11 &&& (255 : Int32)))), .val (.int 0)] [])) (fun t k => XS.goto X11.here hx rfl (pc0 := 35) (pc' := 10) rfl (hb hby d4_35) (by decide) (by decide) k) ?_
    refine own_by (T' := T11) (g' := (mkF m 11 #[.val (.ref ob), .val (.int 1), .val (.int (((0 : Int32) <<< ((8 : Int32) &&& 31)) ||| (ee11 &&& (255 : Int32)))), .val (.int 0)] [(.int 0)])) (fun t k => XS.iloadN X11.here hx rfl (hb hby d4_10) rfl k) ?_
    refine own_by (T' := T11) (g' := (mkF m 14 #[.val (.ref ob), .val (.int 1), .val (.int (((0 : Int32) <<< ((8 : Int32) &&& 31)) ||| (ee11 &&& (255 : Int32)))), .val (.int 0)] [])) (fun t k => XS.ifNo X11.here hx rfl (hb hby d4_11) rfl ((if0 _ _).trans (flt (by decide)).1) k) ?_
    refine own_by (T' := T11) (g' := (mkF m 15 #[.val (.ref ob), .val (.int 1), .val (.int (((0 : Int32) <<< ((8 : Int32) &&& 31)) ||| (ee11 &&& (255 : Int32)))), .val (.int 0)] [(.int (((0 : Int32) <<< ((8 : Int32) &&& 31)) ||| (ee11 &&& (255 : Int32))))])) (fun t k => XS.iloadN X11.here hx rfl (hb hby d4_14) rfl k) ?_
    refine own_by (T' := T11) (g' := (mkF m 17 #[.val (.ref ob), .val (.int 1), .val (.int (((0 : Int32) <<< ((8 : Int32) &&& 31)) ||| (ee11 &&& (255 : Int32)))), .val (.int 0)] [(.int 8), (.int (((0 : Int32) <<< ((8 : Int32) &&& 31)) ||| (ee11 &&& (255 : Int32))))])) (fun t k => XS.bipush X11.here hx rfl (hb hby d4_15) k) ?_
    refine own_by (T' := T11) (g' := (mkF m 18 #[.val (.ref ob), .val (.int 1), .val (.int (((0 : Int32) <<< ((8 : Int32) &&& 31)) ||| (ee11 &&& (255 : Int32)))), .val (.int 0)] [(.int ((((0 : Int32) <<< ((8 : Int32) &&& 31)) ||| (ee11 &&& (255 : Int32))) <<< ((8 : Int32) &&& 31)))])) (fun t k => XS.ishl X11.here hx rfl (hb hby d4_17) rfl k) ?_
    refine own_by (T' := T11) (g' := (mkF m 19 #[.val (.ref ob), .val (.int 1), .val (.int (((0 : Int32) <<< ((8 : Int32) &&& 31)) ||| (ee11 &&& (255 : Int32)))), .val (.int 0)] [(.ref ob), (.int ((((0 : Int32) <<< ((8 : Int32) &&& 31)) ||| (ee11 &&& (255 : Int32))) <<< ((8 : Int32) &&& 31)))])) (fun t k => XS.aloadN X11.here hx rfl (hb hby d4_18) rfl rfl k) ?_
    obtain ⟨T14, X14, e14, st14⟩ := getF X11 hx hZ hown (host := "") (Or.inl (hw _ (own_m 16 rfl))) Via.refl e11 F_planes_ob (g := (mkF m 19 #[.val (.ref ob), .val (.int 1), .val (.int (((0 : Int32) <<< ((8 : Int32) &&& 31)) ||| (ee11 &&& (255 : Int32)))), .val (.int 0)] [(.ref ob), (.int ((((0 : Int32) <<< ((8 : Int32) &&& 31)) ||| (ee11 &&& (255 : Int32))) <<< ((8 : Int32) &&& 31)))])) rfl rfl (hb hby d4_19)
    refine own_by (T' := T14) (g' := (mkF m 22 #[.val (.ref ob), .val (.int 1), .val (.int (((0 : Int32) <<< ((8 : Int32) &&& 31)) ||| (ee11 &&& (255 : Int32)))), .val (.int 0)] [(.ref b), (.int ((((0 : Int32) <<< ((8 : Int32) &&& 31)) ||| (ee11 &&& (255 : Int32))) <<< ((8 : Int32) &&& 31)))])) (fun t k => st14 t k) ?_
    refine own_by (T' := T14) (g' := (mkF m 23 #[.val (.ref ob), .val (.int 1), .val (.int (((0 : Int32) <<< ((8 : Int32) &&& 31)) ||| (ee11 &&& (255 : Int32)))), .val (.int 0)] [(.int 0), (.ref b), (.int ((((0 : Int32) <<< ((8 : Int32) &&& 31)) ||| (ee11 &&& (255 : Int32))) <<< ((8 : Int32) &&& 31)))])) (fun t k => XS.iloadN X14.here hx rfl (hb hby d4_22) rfl k) ?_
    obtain ⟨cl15, Ar15, q15, S15, N15, Hs15, G15⟩ := id V_b
    have hin15 : ¬ ((0 : Int32) < 0 ∨ cl15.slots.size ≤ ((0 : Int32)).toNatClampNeg) := inb_of S15 ⟨by decide, by decide⟩
    have hat15 : cl15.slots[((0 : Int32)).toNatClampNeg]? = some (.ref y0) := Hs15.at hin15 rfl
    refine own_by (T' := T14) (g' := (mkF m 24 #[.val (.ref ob), .val (.int 1), .val (.int (((0 : Int32) <<< ((8 : Int32) &&& 31)) ||| (ee11 &&& (255 : Int32)))), .val (.int 0)] [(.ref y0), (.int ((((0 : Int32) <<< ((8 : Int32) &&& 31)) ||| (ee11 &&& (255 : Int32))) <<< ((8 : Int32) &&& 31)))])) (fun t k => X14.aaload hx (j := (0 : Int32)) (v := (.ref y0)) (by rw [e14]; exact Ar15.1) (State.isArrayOf_alike hZ.alike Ar15.2.1) rfl Ar15.2.2 hin15 hat15 (g := (mkF m 23 #[.val (.ref ob), .val (.int 1), .val (.int (((0 : Int32) <<< ((8 : Int32) &&& 31)) ||| (ee11 &&& (255 : Int32)))), .val (.int 0)] [(.int 0), (.ref b), (.int ((((0 : Int32) <<< ((8 : Int32) &&& 31)) ||| (ee11 &&& (255 : Int32))) <<< ((8 : Int32) &&& 31)))])) rfl rfl (hb hby d4_23) _ k) ?_
    refine own_by (T' := T14) (g' := (mkF m 25 #[.val (.ref ob), .val (.int 1), .val (.int (((0 : Int32) <<< ((8 : Int32) &&& 31)) ||| (ee11 &&& (255 : Int32)))), .val (.int 0)] [(.int 1), (.ref y0), (.int ((((0 : Int32) <<< ((8 : Int32) &&& 31)) ||| (ee11 &&& (255 : Int32))) <<< ((8 : Int32) &&& 31)))])) (fun t k => XS.iloadN X14.here hx rfl (hb hby d4_24) rfl k) ?_
    obtain ⟨cl16, Ar16, q16, S16, N16, Hs16, G16⟩ := id V_y0
    have hin16 : ¬ ((1 : Int32) < 0 ∨ cl16.slots.size ≤ ((1 : Int32)).toNatClampNeg) := inb_of S16 ⟨by decide, by decide⟩
    have hat16 : cl16.slots[((1 : Int32)).toNatClampNeg]? = some (.int ee01) := Hs16.at hin16 rfl
    refine own_by (T' := T14) (g' := (mkF m 26 #[.val (.ref ob), .val (.int 1), .val (.int (((0 : Int32) <<< ((8 : Int32) &&& 31)) ||| (ee11 &&& (255 : Int32)))), .val (.int 0)] [(.int ee01), (.int ((((0 : Int32) <<< ((8 : Int32) &&& 31)) ||| (ee11 &&& (255 : Int32))) <<< ((8 : Int32) &&& 31)))])) (fun t k => X14.baloadBytes hx (j := (1 : Int32)) (v := (.int ee01)) (by rw [e14]; exact Ar16.1) (State.isArrayOf_alike hZ.alike Ar16.2.1) Ar16.2.2 hin16 hat16 (g := (mkF m 25 #[.val (.ref ob), .val (.int 1), .val (.int (((0 : Int32) <<< ((8 : Int32) &&& 31)) ||| (ee11 &&& (255 : Int32)))), .val (.int 0)] [(.int 1), (.ref y0), (.int ((((0 : Int32) <<< ((8 : Int32) &&& 31)) ||| (ee11 &&& (255 : Int32))) <<< ((8 : Int32) &&& 31)))])) rfl rfl (hb hby d4_25) _ k) ?_
    refine own_by (T' := T14) (g' := (mkF m 29 #[.val (.ref ob), .val (.int 1), .val (.int (((0 : Int32) <<< ((8 : Int32) &&& 31)) ||| (ee11 &&& (255 : Int32)))), .val (.int 0)] [(.int 255), (.int ee01), (.int ((((0 : Int32) <<< ((8 : Int32) &&& 31)) ||| (ee11 &&& (255 : Int32))) <<< ((8 : Int32) &&& 31)))])) (fun t k => XS.sipush X14.here hx rfl (hb hby d4_26) k) ?_
    refine own_by (T' := T14) (g' := (mkF m 30 #[.val (.ref ob), .val (.int 1), .val (.int (((0 : Int32) <<< ((8 : Int32) &&& 31)) ||| (ee11 &&& (255 : Int32)))), .val (.int 0)] [(.int (ee01 &&& (255 : Int32))), (.int ((((0 : Int32) <<< ((8 : Int32) &&& 31)) ||| (ee11 &&& (255 : Int32))) <<< ((8 : Int32) &&& 31)))])) (fun t k => XS.iand X14.here hx rfl (hb hby d4_29) rfl k) ?_
    refine own_by (T' := T14) (g' := (mkF m 31 #[.val (.ref ob), .val (.int 1), .val (.int (((0 : Int32) <<< ((8 : Int32) &&& 31)) ||| (ee11 &&& (255 : Int32)))), .val (.int 0)] [(.int (((((0 : Int32) <<< ((8 : Int32) &&& 31)) ||| (ee11 &&& (255 : Int32))) <<< ((8 : Int32) &&& 31)) ||| (ee01 &&& (255 : Int32))))])) (fun t k => XS.ior X14.here hx rfl (hb hby d4_30) rfl k) ?_
    refine own_by (T' := T14) (g' := (mkF m 32 #[.val (.ref ob), .val (.int 1), .val (.int (((((0 : Int32) <<< ((8 : Int32) &&& 31)) ||| (ee11 &&& (255 : Int32))) <<< ((8 : Int32) &&& 31)) ||| (ee01 &&& (255 : Int32)))), .val (.int 0)] [])) (fun t k => XS.istoreN X14.here hx rfl (hb hby d4_31) rfl (l' := #[.val (.ref ob), .val (.int 1), .val (.int (((((0 : Int32) <<< ((8 : Int32) &&& 31)) ||| (ee11 &&& (255 : Int32))) <<< ((8 : Int32) &&& 31)) ||| (ee01 &&& (255 : Int32)))), .val (.int 0)]) rfl k) ?_
    refine own_by (T' := T14) (g' := (mkF m 35 #[.val (.ref ob), .val (.int 1), .val (.int (((((0 : Int32) <<< ((8 : Int32) &&& 31)) ||| (ee11 &&& (255 : Int32))) <<< ((8 : Int32) &&& 31)) ||| (ee01 &&& (255 : Int32)))), .val (.int (-1))] [])) (fun t k => XS.iinc X14.here hx rfl (hb hby d4_32) rfl (l' := #[.val (.ref ob), .val (.int 1), .val (.int (((((0 : Int32) <<< ((8 : Int32) &&& 31)) ||| (ee11 &&& (255 : Int32))) <<< ((8 : Int32) &&& 31)) ||| (ee01 &&& (255 : Int32)))), .val (.int (-1))]) rfl k) ?_
    refine own_by (T' := T14) (g' := (mkF m 10 #[.val (.ref ob), .val (.int 1), .val (.int (((((0 : Int32) <<< ((8 : Int32) &&& 31)) ||| (ee11 &&& (255 : Int32))) <<< ((8 : Int32) &&& 31)) ||| (ee01 &&& (255 : Int32)))), .val (.int (-1))] [])) (fun t k => XS.goto X14.here hx rfl (pc0 := 35) (pc' := 10) rfl (hb hby d4_35) (by decide) (by decide) k) ?_
    refine own_by (T' := T14) (g' := (mkF m 11 #[.val (.ref ob), .val (.int 1), .val (.int (((((0 : Int32) <<< ((8 : Int32) &&& 31)) ||| (ee11 &&& (255 : Int32))) <<< ((8 : Int32) &&& 31)) ||| (ee01 &&& (255 : Int32)))), .val (.int (-1))] [(.int (-1))])) (fun t k => XS.iloadN X14.here hx rfl (hb hby d4_10) rfl k) ?_
    refine own_by (T' := T14) (g' := (mkF m 38 #[.val (.ref ob), .val (.int 1), .val (.int (((((0 : Int32) <<< ((8 : Int32) &&& 31)) ||| (ee11 &&& (255 : Int32))) <<< ((8 : Int32) &&& 31)) ||| (ee01 &&& (255 : Int32)))), .val (.int (-1))] [])) (fun t k => XS.ifYes X14.here hx rfl (pc0 := 11) (pc' := 38) rfl (hb hby d4_11) rfl ((if0 _ _).trans (tlt (by decide)).1) (by decide) (by decide) k) ?_
    refine own_by (T' := T14) (g' := (mkF m 39 #[.val (.ref ob), .val (.int 1), .val (.int (((((0 : Int32) <<< ((8 : Int32) &&& 31)) ||| (ee11 &&& (255 : Int32))) <<< ((8 : Int32) &&& 31)) ||| (ee01 &&& (255 : Int32)))), .val (.int (-1))] [(.int (((((0 : Int32) <<< ((8 : Int32) &&& 31)) ||| (ee11 &&& (255 : Int32))) <<< ((8 : Int32) &&& 31)) ||| (ee01 &&& (255 : Int32))))])) (fun t k => XS.iloadN X14.here hx rfl (hb hby d4_38) rfl k) ?_
    exact own_retI X14 hx Bd.notSynchronized Bd.returns (hb hby d4_39) (by decide) (by decide) (by rw [e14]; exact ⟨rfl, N_, rfl⟩)
  · refine own_by (T' := s₁) (g' := (mkF m 1 #[.val (.ref ob), .val (.int 2), .unset, .unset] [(.int 0)])) (fun t k => XS.iconst X0.here hx rfl (hb hby d4_0) k) ?_
    refine own_by (T' := s₁) (g' := (mkF m 2 #[.val (.ref ob), .val (.int 2), .val (.int 0), .unset] [])) (fun t k => XS.istoreN X0.here hx rfl (hb hby d4_1) rfl (l' := #[.val (.ref ob), .val (.int 2), .val (.int 0), .unset]) rfl k) ?_
    refine own_by (T' := s₁) (g' := (mkF m 3 #[.val (.ref ob), .val (.int 2), .val (.int 0), .unset] [(.ref ob)])) (fun t k => XS.aloadN X0.here hx rfl (hb hby d4_2) rfl rfl k) ?_
    obtain ⟨T17, X17, e17, st17⟩ := getF X0 hx hZ hown (host := "") (Or.inl (hw _ (own_m 16 rfl))) Via.refl e0 F_planes_ob (g := (mkF m 3 #[.val (.ref ob), .val (.int 2), .val (.int 0), .unset] [(.ref ob)])) rfl rfl (hb hby d4_3)
    refine own_by (T' := T17) (g' := (mkF m 6 #[.val (.ref ob), .val (.int 2), .val (.int 0), .unset] [(.ref b)])) (fun t k => st17 t k) ?_
    obtain ⟨cl18, Ar18, -, S18, N18, -, -⟩ := id V_b
    have st18 : ∀ t, Steps p.tables e below (T17.setTop (mkF m 7 #[.val (.ref ob), .val (.int 2), .val (.int 0), .unset] [(.int 2)])) t → Steps p.tables e below (T17.setTop (mkF m 6 #[.val (.ref ob), .val (.int 2), .val (.int 0), .unset] [(.ref b)])) t := fun t k => X17.arraylength hx (by rw [e17]; exact Ar18.1) (State.isArrayOf_alike hZ.alike Ar18.2.1) (g := (mkF m 6 #[.val (.ref ob), .val (.int 2), .val (.int 0), .unset] [(.ref b)])) rfl rfl (hb hby d4_6) _ (by rw [len_of S18 N18]; exact k)
    refine own_by (T' := T17) (g' := (mkF m 7 #[.val (.ref ob), .val (.int 2), .val (.int 0), .unset] [(.int 2)])) (fun t k => st18 t k) ?_
    refine own_by (T' := T17) (g' := (mkF m 8 #[.val (.ref ob), .val (.int 2), .val (.int 0), .unset] [(.int 1), (.int 2)])) (fun t k => XS.iconst X17.here hx rfl (hb hby d4_7) k) ?_
    refine own_by (T' := T17) (g' := (mkF m 9 #[.val (.ref ob), .val (.int 2), .val (.int 0), .unset] [(.int 1)])) (fun t k => XS.isub X17.here hx rfl (hb hby d4_8) rfl k) ?_
    refine own_by (T' := T17) (g' := (mkF m 10 #[.val (.ref ob), .val (.int 2), .val (.int 0), .val (.int 1)] [])) (fun t k => XS.istoreN X17.here hx rfl (hb hby d4_9) rfl (l' := #[.val (.ref ob), .val (.int 2), .val (.int 0), .val (.int 1)]) rfl k) ?_
    refine own_by (T' := T17) (g' := (mkF m 11 #[.val (.ref ob), .val (.int 2), .val (.int 0), .val (.int 1)] [(.int 1)])) (fun t k => XS.iloadN X17.here hx rfl (hb hby d4_10) rfl k) ?_
    refine own_by (T' := T17) (g' := (mkF m 14 #[.val (.ref ob), .val (.int 2), .val (.int 0), .val (.int 1)] [])) (fun t k => XS.ifNo X17.here hx rfl (hb hby d4_11) rfl ((if0 _ _).trans (flt (by decide)).1) k) ?_
    refine own_by (T' := T17) (g' := (mkF m 15 #[.val (.ref ob), .val (.int 2), .val (.int 0), .val (.int 1)] [(.int 0)])) (fun t k => XS.iloadN X17.here hx rfl (hb hby d4_14) rfl k) ?_
    refine own_by (T' := T17) (g' := (mkF m 17 #[.val (.ref ob), .val (.int 2), .val (.int 0), .val (.int 1)] [(.int 8), (.int 0)])) (fun t k => XS.bipush X17.here hx rfl (hb hby d4_15) k) ?_
    refine own_by (T' := T17) (g' := (mkF m 18 #[.val (.ref ob), .val (.int 2), .val (.int 0), .val (.int 1)] [(.int ((0 : Int32) <<< ((8 : Int32) &&& 31)))])) (fun t k => XS.ishl X17.here hx rfl (hb hby d4_17) rfl k) ?_
    refine own_by (T' := T17) (g' := (mkF m 19 #[.val (.ref ob), .val (.int 2), .val (.int 0), .val (.int 1)] [(.ref ob), (.int ((0 : Int32) <<< ((8 : Int32) &&& 31)))])) (fun t k => XS.aloadN X17.here hx rfl (hb hby d4_18) rfl rfl k) ?_
    obtain ⟨T19, X19, e19, st19⟩ := getF X17 hx hZ hown (host := "") (Or.inl (hw _ (own_m 16 rfl))) Via.refl e17 F_planes_ob (g := (mkF m 19 #[.val (.ref ob), .val (.int 2), .val (.int 0), .val (.int 1)] [(.ref ob), (.int ((0 : Int32) <<< ((8 : Int32) &&& 31)))])) rfl rfl (hb hby d4_19)
    refine own_by (T' := T19) (g' := (mkF m 22 #[.val (.ref ob), .val (.int 2), .val (.int 0), .val (.int 1)] [(.ref b), (.int ((0 : Int32) <<< ((8 : Int32) &&& 31)))])) (fun t k => st19 t k) ?_
    refine own_by (T' := T19) (g' := (mkF m 23 #[.val (.ref ob), .val (.int 2), .val (.int 0), .val (.int 1)] [(.int 1), (.ref b), (.int ((0 : Int32) <<< ((8 : Int32) &&& 31)))])) (fun t k => XS.iloadN X19.here hx rfl (hb hby d4_22) rfl k) ?_
    obtain ⟨cl20, Ar20, q20, S20, N20, Hs20, G20⟩ := id V_b
    have hin20 : ¬ ((1 : Int32) < 0 ∨ cl20.slots.size ≤ ((1 : Int32)).toNatClampNeg) := inb_of S20 ⟨by decide, by decide⟩
    have hat20 : cl20.slots[((1 : Int32)).toNatClampNeg]? = some (.ref y1) := Hs20.at hin20 rfl
    refine own_by (T' := T19) (g' := (mkF m 24 #[.val (.ref ob), .val (.int 2), .val (.int 0), .val (.int 1)] [(.ref y1), (.int ((0 : Int32) <<< ((8 : Int32) &&& 31)))])) (fun t k => X19.aaload hx (j := (1 : Int32)) (v := (.ref y1)) (by rw [e19]; exact Ar20.1) (State.isArrayOf_alike hZ.alike Ar20.2.1) rfl Ar20.2.2 hin20 hat20 (g := (mkF m 23 #[.val (.ref ob), .val (.int 2), .val (.int 0), .val (.int 1)] [(.int 1), (.ref b), (.int ((0 : Int32) <<< ((8 : Int32) &&& 31)))])) rfl rfl (hb hby d4_23) _ k) ?_
    refine own_by (T' := T19) (g' := (mkF m 25 #[.val (.ref ob), .val (.int 2), .val (.int 0), .val (.int 1)] [(.int 2), (.ref y1), (.int ((0 : Int32) <<< ((8 : Int32) &&& 31)))])) (fun t k => XS.iloadN X19.here hx rfl (hb hby d4_24) rfl k) ?_
    obtain ⟨cl21, Ar21, q21, S21, N21, Hs21, G21⟩ := id V_y1
    have hin21 : ¬ ((2 : Int32) < 0 ∨ cl21.slots.size ≤ ((2 : Int32)).toNatClampNeg) := inb_of S21 ⟨by decide, by decide⟩
    have hat21 : cl21.slots[((2 : Int32)).toNatClampNeg]? = some (.int ee12) := Hs21.at hin21 rfl
    refine own_by (T' := T19) (g' := (mkF m 26 #[.val (.ref ob), .val (.int 2), .val (.int 0), .val (.int 1)] [(.int ee12), (.int ((0 : Int32) <<< ((8 : Int32) &&& 31)))])) (fun t k => X19.baloadBytes hx (j := (2 : Int32)) (v := (.int ee12)) (by rw [e19]; exact Ar21.1) (State.isArrayOf_alike hZ.alike Ar21.2.1) Ar21.2.2 hin21 hat21 (g := (mkF m 25 #[.val (.ref ob), .val (.int 2), .val (.int 0), .val (.int 1)] [(.int 2), (.ref y1), (.int ((0 : Int32) <<< ((8 : Int32) &&& 31)))])) rfl rfl (hb hby d4_25) _ k) ?_
    refine own_by (T' := T19) (g' := (mkF m 29 #[.val (.ref ob), .val (.int 2), .val (.int 0), .val (.int 1)] [(.int 255), (.int ee12), (.int ((0 : Int32) <<< ((8 : Int32) &&& 31)))])) (fun t k => XS.sipush X19.here hx rfl (hb hby d4_26) k) ?_
    refine own_by (T' := T19) (g' := (mkF m 30 #[.val (.ref ob), .val (.int 2), .val (.int 0), .val (.int 1)] [(.int (ee12 &&& (255 : Int32))), (.int ((0 : Int32) <<< ((8 : Int32) &&& 31)))])) (fun t k => XS.iand X19.here hx rfl (hb hby d4_29) rfl k) ?_
    refine own_by (T' := T19) (g' := (mkF m 31 #[.val (.ref ob), .val (.int 2), .val (.int 0), .val (.int 1)] [(.int (((0 : Int32) <<< ((8 : Int32) &&& 31)) ||| (ee12 &&& (255 : Int32))))])) (fun t k => XS.ior X19.here hx rfl (hb hby d4_30) rfl k) ?_
    refine own_by (T' := T19) (g' := (mkF m 32 #[.val (.ref ob), .val (.int 2), .val (.int (((0 : Int32) <<< ((8 : Int32) &&& 31)) ||| (ee12 &&& (255 : Int32)))), .val (.int 1)] [])) (fun t k => XS.istoreN X19.here hx rfl (hb hby d4_31) rfl (l' := #[.val (.ref ob), .val (.int 2), .val (.int (((0 : Int32) <<< ((8 : Int32) &&& 31)) ||| (ee12 &&& (255 : Int32)))), .val (.int 1)]) rfl k) ?_
    refine own_by (T' := T19) (g' := (mkF m 35 #[.val (.ref ob), .val (.int 2), .val (.int (((0 : Int32) <<< ((8 : Int32) &&& 31)) ||| (ee12 &&& (255 : Int32)))), .val (.int 0)] [])) (fun t k => XS.iinc X19.here hx rfl (hb hby d4_32) rfl (l' := #[.val (.ref ob), .val (.int 2), .val (.int (((0 : Int32) <<< ((8 : Int32) &&& 31)) ||| (ee12 &&& (255 : Int32)))), .val (.int 0)]) rfl k) ?_
    refine own_by (T' := T19) (g' := (mkF m 10 #[.val (.ref ob), .val (.int 2), .val (.int (((0 : Int32) <<< ((8 : Int32) &&& 31)) ||| (ee12 &&& (255 : Int32)))), .val (.int 0)] [])) (fun t k => XS.goto X19.here hx rfl (pc0 := 35) (pc' := 10) rfl (hb hby d4_35) (by decide) (by decide) k) ?_
    refine own_by (T' := T19) (g' := (mkF m 11 #[.val (.ref ob), .val (.int 2), .val (.int (((0 : Int32) <<< ((8 : Int32) &&& 31)) ||| (ee12 &&& (255 : Int32)))), .val (.int 0)] [(.int 0)])) (fun t k => XS.iloadN X19.here hx rfl (hb hby d4_10) rfl k) ?_
    refine own_by (T' := T19) (g' := (mkF m 14 #[.val (.ref ob), .val (.int 2), .val (.int (((0 : Int32) <<< ((8 : Int32) &&& 31)) ||| (ee12 &&& (255 : Int32)))), .val (.int 0)] [])) (fun t k => XS.ifNo X19.here hx rfl (hb hby d4_11) rfl ((if0 _ _).trans (flt (by decide)).1) k) ?_
    refine own_by (T' := T19) (g' := (mkF m 15 #[.val (.ref ob), .val (.int 2), .val (.int (((0 : Int32) <<< ((8 : Int32) &&& 31)) ||| (ee12 &&& (255 : Int32)))), .val (.int 0)] [(.int (((0 : Int32) <<< ((8 : Int32) &&& 31)) ||| (ee12 &&& (255 : Int32))))])) (fun t k => XS.iloadN X19.here hx rfl (hb hby d4_14) rfl k) ?_
    refine own_by (T' := T19) (g' := (mkF m 17 #[.val (.ref ob), .val (.int 2), .val (.int (((0 : Int32) <<< ((8 : Int32) &&& 31)) ||| (ee12 &&& (255 : Int32)))), .val (.int 0)] [(.int 8), (.int (((0 : Int32) <<< ((8 : Int32) &&& 31)) ||| (ee12 &&& (255 : Int32))))])) (fun t k => XS.bipush X19.here hx rfl (hb hby d4_15) k) ?_
    refine own_by (T' := T19) (g' := (mkF m 18 #[.val (.ref ob), .val (.int 2), .val (.int (((0 : Int32) <<< ((8 : Int32) &&& 31)) ||| (ee12 &&& (255 : Int32)))), .val (.int 0)] [(.int ((((0 : Int32) <<< ((8 : Int32) &&& 31)) ||| (ee12 &&& (255 : Int32))) <<< ((8 : Int32) &&& 31)))])) (fun t k => XS.ishl X19.here hx rfl (hb hby d4_17) rfl k) ?_
    refine own_by (T' := T19) (g' := (mkF m 19 #[.val (.ref ob), .val (.int 2), .val (.int (((0 : Int32) <<< ((8 : Int32) &&& 31)) ||| (ee12 &&& (255 : Int32)))), .val (.int 0)] [(.ref ob), (.int ((((0 : Int32) <<< ((8 : Int32) &&& 31)) ||| (ee12 &&& (255 : Int32))) <<< ((8 : Int32) &&& 31)))])) (fun t k => XS.aloadN X19.here hx rfl (hb hby d4_18) rfl rfl k) ?_
    obtain ⟨T22, X22, e22, st22⟩ := getF X19 hx hZ hown (host := "") (Or.inl (hw _ (own_m 16 rfl))) Via.refl e19 F_planes_ob (g := (mkF m 19 #[.val (.ref ob), .val (.int 2), .val (.int (((0 : Int32) <<< ((8 : Int32) &&& 31)) ||| (ee12 &&& (255 : Int32)))), .val (.int 0)] [(.ref ob), (.int ((((0 : Int32) <<< ((8 : Int32) &&& 31)) ||| (ee12 &&& (255 : Int32))) <<< ((8 : Int32) &&& 31)))])) rfl rfl (hb hby d4_19)
    refine own_by (T' := T22) (g' := (mkF m 22 #[.val (.ref ob), .val (.int 2), .val (.int (((0 : Int32) <<< ((8 : Int32) &&& 31)) ||| (ee12 &&& (255 : Int32)))), .val (.int 0)] [(.ref b), (.int ((((0 : Int32) <<< ((8 : Int32) &&& 31)) ||| (ee12 &&& (255 : Int32))) <<< ((8 : Int32) &&& 31)))])) (fun t k => st22 t k) ?_
    refine own_by (T' := T22) (g' := (mkF m 23 #[.val (.ref ob), .val (.int 2), .val (.int (((0 : Int32) <<< ((8 : Int32) &&& 31)) ||| (ee12 &&& (255 : Int32)))), .val (.int 0)] [(.int 0), (.ref b), (.int ((((0 : Int32) <<< ((8 : Int32) &&& 31)) ||| (ee12 &&& (255 : Int32))) <<< ((8 : Int32) &&& 31)))])) (fun t k => XS.iloadN X22.here hx rfl (hb hby d4_22) rfl k) ?_
    obtain ⟨cl23, Ar23, q23, S23, N23, Hs23, G23⟩ := id V_b
    have hin23 : ¬ ((0 : Int32) < 0 ∨ cl23.slots.size ≤ ((0 : Int32)).toNatClampNeg) := inb_of S23 ⟨by decide, by decide⟩
    have hat23 : cl23.slots[((0 : Int32)).toNatClampNeg]? = some (.ref y0) := Hs23.at hin23 rfl
    refine own_by (T' := T22) (g' := (mkF m 24 #[.val (.ref ob), .val (.int 2), .val (.int (((0 : Int32) <<< ((8 : Int32) &&& 31)) ||| (ee12 &&& (255 : Int32)))), .val (.int 0)] [(.ref y0), (.int ((((0 : Int32) <<< ((8 : Int32) &&& 31)) ||| (ee12 &&& (255 : Int32))) <<< ((8 : Int32) &&& 31)))])) (fun t k => X22.aaload hx (j := (0 : Int32)) (v := (.ref y0)) (by rw [e22]; exact Ar23.1) (State.isArrayOf_alike hZ.alike Ar23.2.1) rfl Ar23.2.2 hin23 hat23 (g := (mkF m 23 #[.val (.ref ob), .val (.int 2), .val (.int (((0 : Int32) <<< ((8 : Int32) &&& 31)) ||| (ee12 &&& (255 : Int32)))), .val (.int 0)] [(.int 0), (.ref b), (.int ((((0 : Int32) <<< ((8 : Int32) &&& 31)) ||| (ee12 &&& (255 : Int32))) <<< ((8 : Int32) &&& 31)))])) rfl rfl (hb hby d4_23) _ k) ?_
    refine own_by (T' := T22) (g' := (mkF m 25 #[.val (.ref ob), .val (.int 2), .val (.int (((0 : Int32) <<< ((8 : Int32) &&& 31)) ||| (ee12 &&& (255 : Int32)))), .val (.int 0)] [(.int 2), (.ref y0), (.int ((((0 : Int32) <<< ((8 : Int32) &&& 31)) ||| (ee12 &&& (255 : Int32))) <<< ((8 : Int32) &&& 31)))])) (fun t k => XS.iloadN X22.here hx rfl (hb hby d4_24) rfl k) ?_
    obtain ⟨cl24, Ar24, q24, S24, N24, Hs24, G24⟩ := id V_y0
    have hin24 : ¬ ((2 : Int32) < 0 ∨ cl24.slots.size ≤ ((2 : Int32)).toNatClampNeg) := inb_of S24 ⟨by decide, by decide⟩
    have hat24 : cl24.slots[((2 : Int32)).toNatClampNeg]? = some (.int ee02) := Hs24.at hin24 rfl
    refine own_by (T' := T22) (g' := (mkF m 26 #[.val (.ref ob), .val (.int 2), .val (.int (((0 : Int32) <<< ((8 : Int32) &&& 31)) ||| (ee12 &&& (255 : Int32)))), .val (.int 0)] [(.int ee02), (.int ((((0 : Int32) <<< ((8 : Int32) &&& 31)) ||| (ee12 &&& (255 : Int32))) <<< ((8 : Int32) &&& 31)))])) (fun t k => X22.baloadBytes hx (j := (2 : Int32)) (v := (.int ee02)) (by rw [e22]; exact Ar24.1) (State.isArrayOf_alike hZ.alike Ar24.2.1) Ar24.2.2 hin24 hat24 (g := (mkF m 25 #[.val (.ref ob), .val (.int 2), .val (.int (((0 : Int32) <<< ((8 : Int32) &&& 31)) ||| (ee12 &&& (255 : Int32)))), .val (.int 0)] [(.int 2), (.ref y0), (.int ((((0 : Int32) <<< ((8 : Int32) &&& 31)) ||| (ee12 &&& (255 : Int32))) <<< ((8 : Int32) &&& 31)))])) rfl rfl (hb hby d4_25) _ k) ?_
    refine own_by (T' := T22) (g' := (mkF m 29 #[.val (.ref ob), .val (.int 2), .val (.int (((0 : Int32) <<< ((8 : Int32) &&& 31)) ||| (ee12 &&& (255 : Int32)))), .val (.int 0)] [(.int 255), (.int ee02), (.int ((((0 : Int32) <<< ((8 : Int32) &&& 31)) ||| (ee12 &&& (255 : Int32))) <<< ((8 : Int32) &&& 31)))])) (fun t k => XS.sipush X22.here hx rfl (hb hby d4_26) k) ?_
    refine own_by (T' := T22) (g' := (mkF m 30 #[.val (.ref ob), .val (.int 2), .val (.int (((0 : Int32) <<< ((8 : Int32) &&& 31)) ||| (ee12 &&& (255 : Int32)))), .val (.int 0)] [(.int (ee02 &&& (255 : Int32))), (.int ((((0 : Int32) <<< ((8 : Int32) &&& 31)) ||| (ee12 &&& (255 : Int32))) <<< ((8 : Int32) &&& 31)))])) (fun t k => XS.iand X22.here hx rfl (hb hby d4_29) rfl k) ?_
    refine own_by (T' := T22) (g' := (mkF m 31 #[.val (.ref ob), .val (.int 2), .val (.int (((0 : Int32) <<< ((8 : Int32) &&& 31)) ||| (ee12 &&& (255 : Int32)))), .val (.int 0)] [(.int (((((0 : Int32) <<< ((8 : Int32) &&& 31)) ||| (ee12 &&& (255 : Int32))) <<< ((8 : Int32) &&& 31)) ||| (ee02 &&& (255 : Int32))))])) (fun t k => XS.ior X22.here hx rfl (hb hby d4_30) rfl k) ?_
    refine own_by (T' := T22) (g' := (mkF m 32 #[.val (.ref ob), .val (.int 2), .val (.int (((((0 : Int32) <<< ((8 : Int32) &&& 31)) ||| (ee12 &&& (255 : Int32))) <<< ((8 : Int32) &&& 31)) ||| (ee02 &&& (255 : Int32)))), .val (.int 0)] [])) (fun t k => XS.istoreN X22.here hx rfl (hb hby d4_31) rfl (l' := #[.val (.ref ob), .val (.int 2), .val (.int (((((0 : Int32) <<< ((8 : Int32) &&& 31)) ||| (ee12 &&& (255 : Int32))) <<< ((8 : Int32) &&& 31)) ||| (ee02 &&& (255 : Int32)))), .val (.int 0)]) rfl k) ?_
    refine own_by (T' := T22) (g' := (mkF m 35 #[.val (.ref ob), .val (.int 2), .val (.int (((((0 : Int32) <<< ((8 : Int32) &&& 31)) ||| (ee12 &&& (255 : Int32))) <<< ((8 : Int32) &&& 31)) ||| (ee02 &&& (255 : Int32)))), .val (.int (-1))] [])) (fun t k => XS.iinc X22.here hx rfl (hb hby d4_32) rfl (l' := #[.val (.ref ob), .val (.int 2), .val (.int (((((0 : Int32) <<< ((8 : Int32) &&& 31)) ||| (ee12 &&& (255 : Int32))) <<< ((8 : Int32) &&& 31)) ||| (ee02 &&& (255 : Int32)))), .val (.int (-1))]) rfl k) ?_
    refine own_by (T' := T22) (g' := (mkF m 10 #[.val (.ref ob), .val (.int 2), .val (.int (((((0 : Int32) <<< ((8 : Int32) &&& 31)) ||| (ee12 &&& (255 : Int32))) <<< ((8 : Int32) &&& 31)) ||| (ee02 &&& (255 : Int32)))), .val (.int (-1))] [])) (fun t k => XS.goto X22.here hx rfl (pc0 := 35) (pc' := 10) rfl (hb hby d4_35) (by decide) (by decide) k) ?_
    refine own_by (T' := T22) (g' := (mkF m 11 #[.val (.ref ob), .val (.int 2), .val (.int (((((0 : Int32) <<< ((8 : Int32) &&& 31)) ||| (ee12 &&& (255 : Int32))) <<< ((8 : Int32) &&& 31)) ||| (ee02 &&& (255 : Int32)))), .val (.int (-1))] [(.int (-1))])) (fun t k => XS.iloadN X22.here hx rfl (hb hby d4_10) rfl k) ?_
    refine own_by (T' := T22) (g' := (mkF m 38 #[.val (.ref ob), .val (.int 2), .val (.int (((((0 : Int32) <<< ((8 : Int32) &&& 31)) ||| (ee12 &&& (255 : Int32))) <<< ((8 : Int32) &&& 31)) ||| (ee02 &&& (255 : Int32)))), .val (.int (-1))] [])) (fun t k => XS.ifYes X22.here hx rfl (pc0 := 11) (pc' := 38) rfl (hb hby d4_11) rfl ((if0 _ _).trans (tlt (by decide)).1) (by decide) (by decide) k) ?_
    refine own_by (T' := T22) (g' := (mkF m 39 #[.val (.ref ob), .val (.int 2), .val (.int (((((0 : Int32) <<< ((8 : Int32) &&& 31)) ||| (ee12 &&& (255 : Int32))) <<< ((8 : Int32) &&& 31)) ||| (ee02 &&& (255 : Int32)))), .val (.int (-1))] [(.int (((((0 : Int32) <<< ((8 : Int32) &&& 31)) ||| (ee12 &&& (255 : Int32))) <<< ((8 : Int32) &&& 31)) ||| (ee02 &&& (255 : Int32))))])) (fun t k => XS.iloadN X22.here hx rfl (hb hby d4_38) rfl k) ?_
    exact own_retI X22 hx Bd.notSynchronized Bd.returns (hb hby d4_39) (by decide) (by decide) (by rw [e22]; exact ⟨rfl, N_, rfl⟩)

theorem ef_1P3 (m : MethodId) (ob : Addr) (pp : Int32) : entryFrame m #[(.ref ob), (.long 3), (.int pp)] 5 = mkF m 0 #[.val (.ref ob), .val (.long 3), .second, .val (.int pp), .unset] [] := by first | (simp [entryFrame, mkF, argsToLocals, Value.category]; done) | rfl
def Q1P3 (Z : State) (ob : Addr) (pp : Int32) (h0 : Heap) (n0 : Nat) (v : Option Value) (h : Heap) (L : List Loc) : Prop := ∃ (b y0 y1 y2 : Addr) (kb kc : ClassId), v = none ∧ Fr n0 L ∧ Keep h0 h [ob] ∧ Exa Z h ob "com/example/cipherloom/cipherloom/core/Letters" ∧ h0.size ≤ b ∧ h0.size ≤ y0 ∧ h0.size ≤ y1 ∧ h0.size ≤ y2 ∧ Fld Z h ob "com/example/cipherloom/cipherloom/core/Letters" "planes" "[[B" (.ref b) ∧ Arv Z h b kb (.array .byte) (3 : Int32) [(.ref y0), (.ref y1), (.ref y2)] .null ∧ Arv Z h y0 kc .byte (3 : Int32) [(.int 0), (.int 0), (.int 0)] (.int 0) ∧ Arv Z h y1 kc .byte (3 : Int32) [(.int 0), (.int 0), (.int 0)] (.int 0) ∧ Arv Z h y2 kc .byte (3 : Int32) [(.int 0), (.int 0), (.int 0)] (.int 0) ∧ b ≠ y0 ∧ b ≠ y1 ∧ b ≠ y2 ∧ y0 ≠ y1 ∧ y0 ≠ y2 ∧ y1 ≠ y2
set_option maxRecDepth 65536 in
set_option maxHeartbeats 40000000 in
theorem rm1P3 (l : Launch) (Z : State) (a0 : Array Value) (hw : ∀ d ∈ tables_1, d.before a0 Z = true) (ws : List Jvm.Cond) (ob : Addr) (pp : Int32) (h0 : Heap) (n0 : Nat) (Zle : n0 ≤ h0.size) (E_ob : Exa Z h0 ob "com/example/cipherloom/cipherloom/core/Letters") (g_ob : n0 ≤ ob) (F_planes_ob : Fld Z h0 ob "com/example/cipherloom/cipherloom/core/Letters" "planes" "[[B" .null) (hn1 : ¬ ((((pp - (1 : Int32)).toUInt32 >>> ((8 : Int32) &&& 31).toUInt32).toInt32) = (0 : Int32))) (hn2 : ¬ ((((pp - (1 : Int32)).toUInt32 >>> ((16 : Int32) &&& 31).toUInt32).toInt32) = (0 : Int32))) (hz : (((pp - (1 : Int32)).toUInt32 >>> ((24 : Int32) &&& 31).toUInt32).toInt32) = (0 : Int32)) :
    MetFree l (⟨"com/example/cipherloom/cipherloom/core/Letters", "<init>", "(JI)V"⟩ : MethodName) (head1 (Jvm.Cond.code (⟨"com/example/cipherloom/cipherloom/core/Letters", "<init>", "(JI)V"⟩ : MethodName) prog_45_method_1_code 5 none :: ws) ({ frames := 1, cells := 4, slots := 12, locals := 12 } : Room)) (fun a U => a = #[(.ref ob), (.long 3), (.int pp)] ∧ Z.Warmed39 U.vm ∧ U.heap = h0) (fun _ _ _ _ _ => True) (fun _ U o U' => ∃ v L, o = .returned v ∧ Q1P3 Z ob pp h0 n0 v U'.heap L ∧ FrameEnd U o U' L ({ frames := 1, cells := 4, slots := 12, locals := 12 } : Room).cells ({ frames := 1, cells := 4, slots := 12, locals := 12 } : Room).slots) := by
  refine MetFree.of_bodySF (plainFor_of_name pn_com_example_cipherloom_cipherloom_core_Letters) hisR ?_
  intro p e s m args below meth c s₁ Bd hml0 hP hK
  obtain ⟨rfl, hZ, hh⟩ := hP
  have hx := Bd.exec
  have hby := Bd.bytes
  have hml : c.maxLocals = 5 := hml0
  have hown : s.vm.findClass "com/example/cipherloom/cipherloom/core/Letters" = some m.cls := findClass_of_methodNamed Bd.named
  have hnm := (name_of_methodNamed Bd.named Bd.method).1
  have X0 : Stand p l e ({ frames := 1, cells := 4, slots := 12, locals := 12 } : Room) s m #[(.ref ob), (.long 3), (.int pp)] below meth c s₁ [] 0 0 := Stand.of_body Bd
  have e0 : s₁.heap = h0 := by rw [← hh, Bd.state]; rfl
  have N_ := Fr.nil n0
  have K_ := Keep.refl h0 [ob]
  show own_Goes p.tables e below s (Q1P3 Z ob pp h0 n0) ({ frames := 1, cells := 4, slots := 12, locals := 12 } : Room).cells ({ frames := 1, cells := 4, slots := 12, locals := 12 } : Room).slots s₁ (entryFrame m #[(.ref ob), (.long 3), (.int pp)] 5)
  refine own_by (T' := s₁) (g' := (mkF m 0 #[.val (.ref ob), .val (.long 3), .second, .val (.int pp), .unset] [])) (fun t k => castTop (ef_1P3 m ob pp) k) ?_
  refine own_by (T' := s₁) (g' := (mkF m 1 #[.val (.ref ob), .val (.long 3), .second, .val (.int pp), .unset] [(.ref ob)])) (fun t k => XS.aloadN X0.here hx rfl (hb hby d1_0) rfl rfl k) ?_
  obtain ⟨T1, X1, e1, st1⟩ := initO X0 hx hZ hown (hw _ (own_m 9 rfl)) (hw _ (own_m 10 rfl)) (hw _ (own_m 11 rfl)) e0 (g := (mkF m 1 #[.val (.ref ob), .val (.long 3), .second, .val (.int pp), .unset] [(.ref ob)])) rfl (by rw [hml]; rfl) rfl (hb hby d1_1) (by decide) (W := 0) (own_le rfl) (by decide)
  refine own_by (T' := T1) (g' := (mkF m 4 #[.val (.ref ob), .val (.long 3), .second, .val (.int pp), .unset] [])) (fun t k => st1 t k) ?_
  refine own_by (T' := T1) (g' := (mkF m 5 #[.val (.ref ob), .val (.long 3), .second, .val (.int pp), .unset] [(.long 3)])) (fun t k => XS.lloadN X1.here hx rfl (hb hby d1_4) rfl k) ?_
  refine own_by (T' := T1) (g' := (mkF m 8 #[.val (.ref ob), .val (.long 3), .second, .val (.int pp), .unset] [(.long 2147483639), (.long 3)])) (fun t k => X1.ldc2Long hx hown (mvT hZ (hw _ (own_m 12 rfl))) (g := (mkF m 5 #[.val (.ref ob), .val (.long 3), .second, .val (.int pp), .unset] [(.long 3)])) rfl (hb hby d1_5) _ k) ?_
  refine own_by (T' := T1) (g' := (mkF m 9 #[.val (.ref ob), .val (.long 3), .second, .val (.int pp), .unset] [(.int (lcmpW (3 : Int64) (2147483639 : Int64)))])) (fun t k => XS.lcmp X1.here hx rfl (hb hby d1_8) rfl k) ?_
  refine own_by (T' := T1) (g' := (mkF m 22 #[.val (.ref ob), .val (.long 3), .second, .val (.int pp), .unset] [])) (fun t k => XS.ifYes X1.here hx rfl (pc0 := 9) (pc' := 22) rfl (hb hby d1_9) rfl ((if0 _ _).trans (flt (fun q => (by decide : ¬ ((2147483639 : Int64) < (3 : Int64))) ((lw_gt _ _).mp q))).2.2.2) (by decide) (by decide) k) ?_
  refine own_by (T' := T1) (g' := (mkF m 23 #[.val (.ref ob), .val (.long 3), .second, .val (.int pp), .unset] [(.int 1)])) (fun t k => XS.iconst X1.here hx rfl (hb hby d1_22) k) ?_
  refine own_by (T' := T1) (g' := (mkF m 25 #[.val (.ref ob), .val (.long 3), .second, .val (.int pp), .val (.int 1)] [])) (fun t k => XS.istore X1.here hx rfl (hb hby d1_23) rfl (l' := #[.val (.ref ob), .val (.long 3), .second, .val (.int pp), .val (.int 1)]) rfl k) ?_
  refine own_by (T' := T1) (g' := (mkF m 26 #[.val (.ref ob), .val (.long 3), .second, .val (.int pp), .val (.int 1)] [(.int pp)])) (fun t k => XS.iloadN X1.here hx rfl (hb hby d1_25) rfl k) ?_
  refine own_by (T' := T1) (g' := (mkF m 27 #[.val (.ref ob), .val (.long 3), .second, .val (.int pp), .val (.int 1)] [(.int 1), (.int pp)])) (fun t k => XS.iconst X1.here hx rfl (hb hby d1_26) k) ?_
  refine own_by (T' := T1) (g' := (mkF m 28 #[.val (.ref ob), .val (.long 3), .second, .val (.int pp), .val (.int 1)] [(.int (pp - (1 : Int32)))])) (fun t k => XS.isub X1.here hx rfl (hb hby d1_27) rfl k) ?_
  refine own_by (T' := T1) (g' := (mkF m 30 #[.val (.ref ob), .val (.long 3), .second, .val (.int pp), .val (.int 1)] [(.int 8), (.int (pp - (1 : Int32)))])) (fun t k => XS.bipush X1.here hx rfl (hb hby d1_28) k) ?_
  refine own_by (T' := T1) (g' := (mkF m 32 #[.val (.ref ob), .val (.long 3), .second, .val (.int pp), .val (.int 1)] [(.int 1), (.int 8), (.int (pp - (1 : Int32)))])) (fun t k => XS.iload X1.here hx rfl (hb hby d1_30) rfl k) ?_
  refine own_by (T' := T1) (g' := (mkF m 33 #[.val (.ref ob), .val (.long 3), .second, .val (.int pp), .val (.int 1)] [(.int 8), (.int (pp - (1 : Int32)))])) (fun t k => XS.imul X1.here hx rfl (hb hby d1_32) rfl k) ?_
  refine own_by (T' := T1) (g' := (mkF m 34 #[.val (.ref ob), .val (.long 3), .second, .val (.int pp), .val (.int 1)] [(.int (((pp - (1 : Int32)).toUInt32 >>> ((8 : Int32) &&& 31).toUInt32).toInt32))])) (fun t k => XS.iushr X1.here hx rfl (hb hby d1_33) rfl k) ?_
  refine own_by (T' := T1) (g' := (mkF m 37 #[.val (.ref ob), .val (.long 3), .second, .val (.int pp), .val (.int 1)] [])) (fun t k => XS.ifNo X1.here hx rfl (hb hby d1_34) rfl ((if0 _ _).trans (feq hn1).1) k) ?_
  refine own_by (T' := T1) (g' := (mkF m 40 #[.val (.ref ob), .val (.long 3), .second, .val (.int pp), .val (.int 2)] [])) (fun t k => XS.iinc X1.here hx rfl (hb hby d1_37) rfl (l' := #[.val (.ref ob), .val (.long 3), .second, .val (.int pp), .val (.int 2)]) rfl k) ?_
  refine own_by (T' := T1) (g' := (mkF m 25 #[.val (.ref ob), .val (.long 3), .second, .val (.int pp), .val (.int 2)] [])) (fun t k => XS.goto X1.here hx rfl (pc0 := 40) (pc' := 25) rfl (hb hby d1_40) (by decide) (by decide) k) ?_
  refine own_by (T' := T1) (g' := (mkF m 26 #[.val (.ref ob), .val (.long 3), .second, .val (.int pp), .val (.int 2)] [(.int pp)])) (fun t k => XS.iloadN X1.here hx rfl (hb hby d1_25) rfl k) ?_
  refine own_by (T' := T1) (g' := (mkF m 27 #[.val (.ref ob), .val (.long 3), .second, .val (.int pp), .val (.int 2)] [(.int 1), (.int pp)])) (fun t k => XS.iconst X1.here hx rfl (hb hby d1_26) k) ?_
  refine own_by (T' := T1) (g' := (mkF m 28 #[.val (.ref ob), .val (.long 3), .second, .val (.int pp), .val (.int 2)] [(.int (pp - (1 : Int32)))])) (fun t k => XS.isub X1.here hx rfl (hb hby d1_27) rfl k) ?_
  refine own_by (T' := T1) (g' := (mkF m 30 #[.val (.ref ob), .val (.long 3), .second, .val (.int pp), .val (.int 2)] [(.int 8), (.int (pp - (1 : Int32)))])) (fun t k => XS.bipush X1.here hx rfl (hb hby d1_28) k) ?_
  refine own_by (T' := T1) (g' := (mkF m 32 #[.val (.ref ob), .val (.long 3), .second, .val (.int pp), .val (.int 2)] [(.int 2), (.int 8), (.int (pp - (1 : Int32)))])) (fun t k => XS.iload X1.here hx rfl (hb hby d1_30) rfl k) ?_
  refine own_by (T' := T1) (g' := (mkF m 33 #[.val (.ref ob), .val (.long 3), .second, .val (.int pp), .val (.int 2)] [(.int 16), (.int (pp - (1 : Int32)))])) (fun t k => XS.imul X1.here hx rfl (hb hby d1_32) rfl k) ?_
  refine own_by (T' := T1) (g' := (mkF m 34 #[.val (.ref ob), .val (.long 3), .second, .val (.int pp), .val (.int 2)] [(.int (((pp - (1 : Int32)).toUInt32 >>> ((16 : Int32) &&& 31).toUInt32).toInt32))])) (fun t k => XS.iushr X1.here hx rfl (hb hby d1_33) rfl k) ?_
  refine own_by (T' := T1) (g' := (mkF m 37 #[.val (.ref ob), .val (.long 3), .second, .val (.int pp), .val (.int 2)] [])) (fun t k => XS.ifNo X1.here hx rfl (hb hby d1_34) rfl ((if0 _ _).trans (feq hn2).1) k) ?_
  refine own_by (T' := T1) (g' := (mkF m 40 #[.val (.ref ob), .val (.long 3), .second, .val (.int pp), .val (.int 3)] [])) (fun t k => XS.iinc X1.here hx rfl (hb hby d1_37) rfl (l' := #[.val (.ref ob), .val (.long 3), .second, .val (.int pp), .val (.int 3)]) rfl k) ?_
  refine own_by (T' := T1) (g' := (mkF m 25 #[.val (.ref ob), .val (.long 3), .second, .val (.int pp), .val (.int 3)] [])) (fun t k => XS.goto X1.here hx rfl (pc0 := 40) (pc' := 25) rfl (hb hby d1_40) (by decide) (by decide) k) ?_
  refine own_by (T' := T1) (g' := (mkF m 26 #[.val (.ref ob), .val (.long 3), .second, .val (.int pp), .val (.int 3)] [(.int pp)])) (fun t k => XS.iloadN X1.here hx rfl (hb hby d1_25) rfl k) ?_
  refine own_by (T' := T1) (g' := (mkF m 27 #[.val (.ref ob), .val (.long 3), .second, .val (.int pp), .val (.int 3)] [(.int 1), (.int pp)])) (fun t k => XS.iconst X1.here hx rfl (hb hby d1_26) k) ?_
  refine own_by (T' := T1) (g' := (mkF m 28 #[.val (.ref ob), .val (.long 3), .second, .val (.int pp), .val (.int 3)] [(.int (pp - (1 : Int32)))])) (fun t k => XS.isub X1.here hx rfl (hb hby d1_27) rfl k) ?_
  refine own_by (T' := T1) (g' := (mkF m 30 #[.val (.ref ob), .val (.long 3), .second, .val (.int pp), .val (.int 3)] [(.int 8), (.int (pp - (1 : Int32)))])) (fun t k => XS.bipush X1.here hx rfl (hb hby d1_28) k) ?_
  refine own_by (T' := T1) (g' := (mkF m 32 #[.val (.ref ob), .val (.long 3), .second, .val (.int pp), .val (.int 3)] [(.int 3), (.int 8), (.int (pp - (1 : Int32)))])) (fun t k => XS.iload X1.here hx rfl (hb hby d1_30) rfl k) ?_
  refine own_by (T' := T1) (g' := (mkF m 33 #[.val (.ref ob), .val (.long 3), .second, .val (.int pp), .val (.int 3)] [(.int 24), (.int (pp - (1 : Int32)))])) (fun t k => XS.imul X1.here hx rfl (hb hby d1_32) rfl k) ?_
  refine own_by (T' := T1) (g' := (mkF m 34 #[.val (.ref ob), .val (.long 3), .second, .val (.int pp), .val (.int 3)] [(.int (((pp - (1 : Int32)).toUInt32 >>> ((24 : Int32) &&& 31).toUInt32).toInt32))])) (fun t k => XS.iushr X1.here hx rfl (hb hby d1_33) rfl k) ?_
  refine own_by (T' := T1) (g' := (mkF m 43 #[.val (.ref ob), .val (.long 3), .second, .val (.int pp), .val (.int 3)] [])) (fun t k => XS.ifYes X1.here hx rfl (pc0 := 34) (pc' := 43) rfl (hb hby d1_34) rfl ((if0 _ _).trans (teq hz).1) (by decide) (by decide) k) ?_
  refine own_by (T' := T1) (g' := (mkF m 44 #[.val (.ref ob), .val (.long 3), .second, .val (.int pp), .val (.int 3)] [(.ref ob)])) (fun t k => XS.aloadN X1.here hx rfl (hb hby d1_43) rfl rfl k) ?_
  refine own_by (T' := T1) (g' := (mkF m 46 #[.val (.ref ob), .val (.long 3), .second, .val (.int pp), .val (.int 3)] [(.int 3), (.ref ob)])) (fun t k => XS.iload X1.here hx rfl (hb hby d1_44) rfl k) ?_
  refine own_by (T' := T1) (g' := (mkF m 47 #[.val (.ref ob), .val (.long 3), .second, .val (.int pp), .val (.int 3)] [(.long 3), (.int 3), (.ref ob)])) (fun t k => XS.lloadN X1.here hx rfl (hb hby d1_46) rfl k) ?_
  refine own_by (T' := T1) (g' := (mkF m 48 #[.val (.ref ob), .val (.long 3), .second, .val (.int pp), .val (.int 3)] [(.int 3), (.int 3), (.ref ob)])) (fun t k => XS.l2i X1.here hx rfl (hb hby d1_47) rfl k) ?_
  obtain ⟨y2_0, hyy2_0⟩ : ∃ z, z = h0.size + 1 + 0 := ⟨_, rfl⟩
  obtain ⟨y2_1, hyy2_1⟩ : ∃ z, z = h0.size + 1 + 1 := ⟨_, rfl⟩
  obtain ⟨y2_2, hyy2_2⟩ : ∃ z, z = h0.size + 1 + 2 := ⟨_, rfl⟩
  obtain ⟨T2, h2, k2, c2, X2, e2, E2, A2, O2, AE2, I2, st2⟩ := gridM X1 hx hZ hown (C := "[B") (ad := "[[B") (ty := .byte) (by decide) (by decide) (hw _ (own_m 13 rfl)) (hw _ (own_m 14 rfl)) (hw _ (own_m 15 rfl)) e1 (g := (mkF m 48 #[.val (.ref ob), .val (.long 3), .second, .val (.int pp), .val (.int 3)] [(.int 3), (.int 3), (.ref ob)])) rfl (hb hby d1_48) rfl (by decide) (by decide) (xs := [y2_0, y2_1, y2_2]) (N := 3) (by decide) (by rw [hyy2_0]; rw [hyy2_1]; rw [hyy2_2]; rfl) (cap := 3) (by decide) (by decide) (by decide) rfl rfl (by decide) (by decide)
  obtain ⟨b2, g2⟩ : ∃ z, z = h0.size := ⟨_, rfl⟩
  rw [← g2] at A2 AE2 st2
  have ne_ob_y2_0 : ob ≠ y2_0 := Nat.ne_of_lt (Nat.lt_of_lt_of_le E_ob.lt (by omega))
  have g_y2_0 : n0 ≤ y2_0 := by have := Zle; omega
  have sz_y2_0 : h0.size ≤ y2_0 := by have := K_.1; omega
  have ne_b2_y2_0 : b2 ≠ y2_0 := by omega
  have ne_y2_0_y2_1 : y2_0 ≠ y2_1 := by omega
  have ne_y2_0_y2_2 : y2_0 ≠ y2_2 := by omega
  have ne_ob_y2_1 : ob ≠ y2_1 := Nat.ne_of_lt (Nat.lt_of_lt_of_le E_ob.lt (by omega))
  have g_y2_1 : n0 ≤ y2_1 := by have := Zle; omega
  have sz_y2_1 : h0.size ≤ y2_1 := by have := K_.1; omega
  have ne_b2_y2_1 : b2 ≠ y2_1 := by omega
  have ne_y2_1_y2_2 : y2_1 ≠ y2_2 := by omega
  have ne_ob_y2_2 : ob ≠ y2_2 := Nat.ne_of_lt (Nat.lt_of_lt_of_le E_ob.lt (by omega))
  have g_y2_2 : n0 ≤ y2_2 := by have := Zle; omega
  have sz_y2_2 : h0.size ≤ y2_2 := by have := K_.1; omega
  have ne_b2_y2_2 : b2 ≠ y2_2 := by omega
  have ne_ob_b2 : ob ≠ b2 := Nat.ne_of_lt (Nat.lt_of_lt_of_eq E_ob.lt g2.symm)
  have g_b2 : n0 ≤ b2 := Nat.le_trans Zle (Nat.le_of_eq g2.symm)
  have sz_b2 : h0.size ≤ b2 := Nat.le_trans K_.1 (Nat.le_of_eq g2.symm)
  have E_ob := E_ob.ext E2
  have F_planes_ob := F_planes_ob.ext E2
  have Zle := Nat.le_trans Zle E2.1
  have K_ := K_.ext E2
  have V_b2 : Arv Z h2 b2 k2 (.array .byte) (3 : Int32) [(.ref y2_0), (.ref y2_1), (.ref y2_2)] .null := A2
  have V_y2_0 : Arv Z h2 y2_0 c2 .byte (3 : Int32) [(.int 0), (.int 0), (.int 0)] (.int 0) := (Arv.new (I2 0 y2_0 rfl).1 (by decide)).pad (pad_rep [] (.int 0) 3)
  have V_y2_1 : Arv Z h2 y2_1 c2 .byte (3 : Int32) [(.int 0), (.int 0), (.int 0)] (.int 0) := (Arv.new (I2 1 y2_1 rfl).1 (by decide)).pad (pad_rep [] (.int 0) 3)
  have V_y2_2 : Arv Z h2 y2_2 c2 .byte (3 : Int32) [(.int 0), (.int 0), (.int 0)] (.int 0) := (Arv.new (I2 2 y2_2 rfl).1 (by decide)).pad (pad_rep [] (.int 0) 3)
  refine own_by (T' := T2) (g' := (mkF m 52 #[.val (.ref ob), .val (.long 3), .second, .val (.int pp), .val (.int 3)] [(.ref b2), (.ref ob)])) (fun t k => st2 t k) ?_
  obtain ⟨T3, h3, X3, e3, W3, st3⟩ := putF X2 hx hZ hown (host := "") (Or.inl (hw _ (own_m 16 rfl))) Via.refl e2 F_planes_ob E_ob (Or.inr ⟨(hw _ (own_m 17 rfl)), rfl, hnm⟩) (hw _ (own_m 3 rfl)) (ty := (.array (.array .byte))) (by decide) rfl rfl (g := (mkF m 52 #[.val (.ref ob), .val (.long 3), .second, .val (.int pp), .val (.int 3)] [(.ref b2), (.ref ob)])) rfl rfl (hb hby d1_52)
  have F_planes_ob_ := F_planes_ob.same W3
  have E_ob := E_ob.wr W3
  have Zle := Nat.le_trans Zle (Keep.of_wr W3).1
  have K_ := K_.wr W3 (Or.inl (List.mem_of_getElem? (i := 0) rfl))
  have V_b2 := V_b2.other W3 ne_ob_b2.symm
  have V_y2_0 := V_y2_0.other W3 ne_ob_y2_0.symm
  have V_y2_1 := V_y2_1.other W3 ne_ob_y2_1.symm
  have V_y2_2 := V_y2_2.other W3 ne_ob_y2_2.symm
  have F_planes_ob := F_planes_ob_
  have N_ := Fr.snoc X3 N_ g_ob
  refine own_by (T' := T3) (g' := (mkF m 55 #[.val (.ref ob), .val (.long 3), .second, .val (.int pp), .val (.int 3)] [])) (fun t k => st3 t k) ?_
  exact own_retV X3 hx Bd.notSynchronized Bd.returns (hb hby d1_55) (by decide) (by decide) (by rw [e3]; exact ⟨b2, y2_0, y2_1, y2_2, _, _, rfl, N_, K_, E_ob, sz_b2, sz_y2_0, sz_y2_1, sz_y2_2, F_planes_ob, V_b2, V_y2_0, V_y2_1, V_y2_2, ne_b2_y2_0, ne_b2_y2_1, ne_b2_y2_2, ne_y2_0_y2_1, ne_y2_0_y2_2, ne_y2_1_y2_2⟩)

theorem ef_3P3 (m : MethodId) (ob : Addr) (jj : Int32) (pp : Int32) : entryFrame m #[(.ref ob), (.int jj), (.int pp)] 4 = mkF m 0 #[.val (.ref ob), .val (.int jj), .val (.int pp), .unset] [] := by first | (simp [entryFrame, mkF, argsToLocals, Value.category]; done) | rfl
def Q3P3 (Z : State) (ob : Addr) (jj : Int32) (pp : Int32) (b : Addr) (y0 : Addr) (y1 : Addr) (y2 : Addr) (kb : ClassId) (kc : ClassId) (ee00 : Int32) (ee01 : Int32) (ee02 : Int32) (ee10 : Int32) (ee11 : Int32) (ee12 : Int32) (ee20 : Int32) (ee21 : Int32) (ee22 : Int32) (h0 : Heap) (n0 : Nat) (v : Option Value) (h : Heap) (L : List Loc) : Prop := v = none ∧ Fr n0 L ∧ Keep h0 h [y0, y1, y2] ∧ Arv Z h b kb (.array .byte) (3 : Int32) [(.ref y0), (.ref y1), (.ref y2)] .null ∧ Arv Z h y0 kc .byte (3 : Int32) [(.int (own_pk jj (0 : Int32) (own_e0 pp) ee00)), (.int (own_pk jj (1 : Int32) (own_e0 pp) ee01)), (.int (own_pk jj (2 : Int32) (own_e0 pp) ee02))] (.int 0) ∧ Arv Z h y1 kc .byte (3 : Int32) [(.int (own_pk jj (0 : Int32) (own_e1 pp) ee10)), (.int (own_pk jj (1 : Int32) (own_e1 pp) ee11)), (.int (own_pk jj (2 : Int32) (own_e1 pp) ee12))] (.int 0) ∧ Arv Z h y2 kc .byte (3 : Int32) [(.int (own_pk jj (0 : Int32) (own_e2 pp) ee20)), (.int (own_pk jj (1 : Int32) (own_e2 pp) ee21)), (.int (own_pk jj (2 : Int32) (own_e2 pp) ee22))] (.int 0)
set_option maxRecDepth 65536 in
set_option maxHeartbeats 40000000 in
theorem rm3P3 (l : Launch) (Z : State) (a0 : Array Value) (hw : ∀ d ∈ tables_1, d.before a0 Z = true) (ws : List Jvm.Cond) (ob : Addr) (jj : Int32) (pp : Int32) (b : Addr) (y0 : Addr) (y1 : Addr) (y2 : Addr) (kb : ClassId) (kc : ClassId) (ee00 : Int32) (ee01 : Int32) (ee02 : Int32) (ee10 : Int32) (ee11 : Int32) (ee12 : Int32) (ee20 : Int32) (ee21 : Int32) (ee22 : Int32) (h0 : Heap) (n0 : Nat) (Zle : n0 ≤ h0.size) (F_planes_ob : Fld Z h0 ob "com/example/cipherloom/cipherloom/core/Letters" "planes" "[[B" (.ref b)) (V_b : Arv Z h0 b kb (.array .byte) (3 : Int32) [(.ref y0), (.ref y1), (.ref y2)] .null) (V_y0 : Arv Z h0 y0 kc .byte (3 : Int32) [(.int ee00), (.int ee01), (.int ee02)] (.int 0)) (V_y1 : Arv Z h0 y1 kc .byte (3 : Int32) [(.int ee10), (.int ee11), (.int ee12)] (.int 0)) (V_y2 : Arv Z h0 y2 kc .byte (3 : Int32) [(.int ee20), (.int ee21), (.int ee22)] (.int 0)) (g_y0 : n0 ≤ y0) (g_y1 : n0 ≤ y1) (g_y2 : n0 ≤ y2) (ne_b_y0 : b ≠ y0) (ne_b_y1 : b ≠ y1) (ne_b_y2 : b ≠ y2) (ne_y0_y1 : y0 ≠ y1) (ne_y0_y2 : y0 ≠ y2) (ne_y1_y2 : y1 ≠ y2) (ne_ob_y0 : ob ≠ y0) (ne_ob_y1 : ob ≠ y1) (ne_ob_y2 : ob ≠ y2) (hj : jj = 0 ∨ jj = 1 ∨ jj = 2) :
    MetFree l (⟨"com/example/cipherloom/cipherloom/core/Letters", "set", "(II)V"⟩ : MethodName) (head1 (Jvm.Cond.code (⟨"com/example/cipherloom/cipherloom/core/Letters", "set", "(II)V"⟩ : MethodName) prog_45_method_6_code 4 none :: ws) ({ frames := 0, cells := 0, slots := 0, locals := 0 } : Room)) (fun a U => a = #[(.ref ob), (.int jj), (.int pp)] ∧ Z.Warmed39 U.vm ∧ U.heap = h0) (fun _ _ _ _ _ => True) (fun _ U o U' => ∃ v L, o = .returned v ∧ Q3P3 Z ob jj pp b y0 y1 y2 kb kc ee00 ee01 ee02 ee10 ee11 ee12 ee20 ee21 ee22 h0 n0 v U'.heap L ∧ FrameEnd U o U' L ({ frames := 0, cells := 0, slots := 0, locals := 0 } : Room).cells ({ frames := 0, cells := 0, slots := 0, locals := 0 } : Room).slots) := by
  refine MetFree.of_bodySF (plainFor_of_name pn_com_example_cipherloom_cipherloom_core_Letters) hisR ?_
  intro p e s m args below meth c s₁ Bd hml0 hP hK
  obtain ⟨rfl, hZ, hh⟩ := hP
  have hx := Bd.exec
  have hby := Bd.bytes
  have hml : c.maxLocals = 4 := hml0
  have hown : s.vm.findClass "com/example/cipherloom/cipherloom/core/Letters" = some m.cls := findClass_of_methodNamed Bd.named
  have hnm := (name_of_methodNamed Bd.named Bd.method).1
  have X0 : Stand p l e ({ frames := 0, cells := 0, slots := 0, locals := 0 } : Room) s m #[(.ref ob), (.int jj), (.int pp)] below meth c s₁ [] 0 0 := Stand.of_body Bd
  have e0 : s₁.heap = h0 := by rw [← hh, Bd.state]; rfl
  have N_ := Fr.nil n0
  have K_ := Keep.refl h0 [y0, y1, y2]
  show own_Goes p.tables e below s (Q3P3 Z ob jj pp b y0 y1 y2 kb kc ee00 ee01 ee02 ee10 ee11 ee12 ee20 ee21 ee22 h0 n0) ({ frames := 0, cells := 0, slots := 0, locals := 0 } : Room).cells ({ frames := 0, cells := 0, slots := 0, locals := 0 } : Room).slots s₁ (entryFrame m #[(.ref ob), (.int jj), (.int pp)] 4)
  refine own_by (T' := s₁) (g' := (mkF m 0 #[.val (.ref ob), .val (.int jj), .val (.int pp), .unset] [])) (fun t k => castTop (ef_3P3 m ob jj pp) k) ?_
  rcases hj with rfl | rfl | rfl
  · refine own_by (T' := s₁) (g' := (mkF m 1 #[.val (.ref ob), .val (.int 0), .val (.int pp), .unset] [(.int 0)])) (fun t k => XS.iconst X0.here hx rfl (hb hby d3_0) k) ?_
    refine own_by (T' := s₁) (g' := (mkF m 2 #[.val (.ref ob), .val (.int 0), .val (.int pp), .val (.int 0)] [])) (fun t k => XS.istoreN X0.here hx rfl (hb hby d3_1) rfl (l' := #[.val (.ref ob), .val (.int 0), .val (.int pp), .val (.int 0)]) rfl k) ?_
    refine own_by (T' := s₁) (g' := (mkF m 3 #[.val (.ref ob), .val (.int 0), .val (.int pp), .val (.int 0)] [(.int 0)])) (fun t k => XS.iloadN X0.here hx rfl (hb hby d3_2) rfl k) ?_
    refine own_by (T' := s₁) (g' := (mkF m 4 #[.val (.ref ob), .val (.int 0), .val (.int pp), .val (.int 0)] [(.ref ob), (.int 0)])) (fun t k => XS.aloadN X0.here hx rfl (hb hby d3_3) rfl rfl k) ?_
    obtain ⟨T1, X1, e1, st1⟩ := getF X0 hx hZ hown (host := "") (Or.inl (hw _ (own_m 16 rfl))) Via.refl e0 F_planes_ob (g := (mkF m 4 #[.val (.ref ob), .val (.int 0), .val (.int pp), .val (.int 0)] [(.ref ob), (.int 0)])) rfl rfl (hb hby d3_4)
    refine own_by (T' := T1) (g' := (mkF m 7 #[.val (.ref ob), .val (.int 0), .val (.int pp), .val (.int 0)] [(.ref b), (.int 0)])) (fun t k => st1 t k) ?_
    obtain ⟨cl2, Ar2, -, S2, N2, -, -⟩ := id V_b
    have st2 : ∀ t, Steps p.tables e below (T1.setTop (mkF m 8 #[.val (.ref ob), .val (.int 0), .val (.int pp), .val (.int 0)] [(.int 3), (.int 0)])) t → Steps p.tables e below (T1.setTop (mkF m 7 #[.val (.ref ob), .val (.int 0), .val (.int pp), .val (.int 0)] [(.ref b), (.int 0)])) t := fun t k => X1.arraylength hx (by rw [e1]; exact Ar2.1) (State.isArrayOf_alike hZ.alike Ar2.2.1) (g := (mkF m 7 #[.val (.ref ob), .val (.int 0), .val (.int pp), .val (.int 0)] [(.ref b), (.int 0)])) rfl rfl (hb hby d3_7) _ (by rw [len_of S2 N2]; exact k)
    refine own_by (T' := T1) (g' := (mkF m 8 #[.val (.ref ob), .val (.int 0), .val (.int pp), .val (.int 0)] [(.int 3), (.int 0)])) (fun t k => st2 t k) ?_
    refine own_by (T' := T1) (g' := (mkF m 11 #[.val (.ref ob), .val (.int 0), .val (.int pp), .val (.int 0)] [])) (fun t k => XS.icmpNo X1.here hx rfl (hb hby d3_8) rfl (tlt (by decide)).2.1 k) ?_
    refine own_by (T' := T1) (g' := (mkF m 12 #[.val (.ref ob), .val (.int 0), .val (.int pp), .val (.int 0)] [(.ref ob)])) (fun t k => XS.aloadN X1.here hx rfl (hb hby d3_11) rfl rfl k) ?_
    obtain ⟨T3, X3, e3, st3⟩ := getF X1 hx hZ hown (host := "") (Or.inl (hw _ (own_m 16 rfl))) Via.refl e1 F_planes_ob (g := (mkF m 12 #[.val (.ref ob), .val (.int 0), .val (.int pp), .val (.int 0)] [(.ref ob)])) rfl rfl (hb hby d3_12)
    refine own_by (T' := T3) (g' := (mkF m 15 #[.val (.ref ob), .val (.int 0), .val (.int pp), .val (.int 0)] [(.ref b)])) (fun t k => st3 t k) ?_
    refine own_by (T' := T3) (g' := (mkF m 16 #[.val (.ref ob), .val (.int 0), .val (.int pp), .val (.int 0)] [(.int 0), (.ref b)])) (fun t k => XS.iloadN X3.here hx rfl (hb hby d3_15) rfl k) ?_
    obtain ⟨cl4, Ar4, q4, S4, N4, Hs4, G4⟩ := id V_b
    have hin4 : ¬ ((0 : Int32) < 0 ∨ cl4.slots.size ≤ ((0 : Int32)).toNatClampNeg) := inb_of S4 ⟨by decide, by decide⟩
    have hat4 : cl4.slots[((0 : Int32)).toNatClampNeg]? = some (.ref y0) := Hs4.at hin4 rfl
    refine own_by (T' := T3) (g' := (mkF m 17 #[.val (.ref ob), .val (.int 0), .val (.int pp), .val (.int 0)] [(.ref y0)])) (fun t k => X3.aaload hx (j := (0 : Int32)) (v := (.ref y0)) (by rw [e3]; exact Ar4.1) (State.isArrayOf_alike hZ.alike Ar4.2.1) rfl Ar4.2.2 hin4 hat4 (g := (mkF m 16 #[.val (.ref ob), .val (.int 0), .val (.int pp), .val (.int 0)] [(.int 0), (.ref b)])) rfl rfl (hb hby d3_16) _ k) ?_
    refine own_by (T' := T3) (g' := (mkF m 18 #[.val (.ref ob), .val (.int 0), .val (.int pp), .val (.int 0)] [(.int 0), (.ref y0)])) (fun t k => XS.iloadN X3.here hx rfl (hb hby d3_17) rfl k) ?_
    refine own_by (T' := T3) (g' := (mkF m 19 #[.val (.ref ob), .val (.int 0), .val (.int pp), .val (.int 0)] [(.int pp), (.int 0), (.ref y0)])) (fun t k => XS.iloadN X3.here hx rfl (hb hby d3_18) rfl k) ?_
    refine own_by (T' := T3) (g' := (mkF m 21 #[.val (.ref ob), .val (.int 0), .val (.int pp), .val (.int 0)] [(.int 8), (.int pp), (.int 0), (.ref y0)])) (fun t k => XS.bipush X3.here hx rfl (hb hby d3_19) k) ?_
    refine own_by (T' := T3) (g' := (mkF m 22 #[.val (.ref ob), .val (.int 0), .val (.int pp), .val (.int 0)] [(.int 0), (.int 8), (.int pp), (.int 0), (.ref y0)])) (fun t k => XS.iloadN X3.here hx rfl (hb hby d3_21) rfl k) ?_
    refine own_by (T' := T3) (g' := (mkF m 23 #[.val (.ref ob), .val (.int 0), .val (.int pp), .val (.int 0)] [(.int 0), (.int pp), (.int 0), (.ref y0)])) (fun t k => XS.imul X3.here hx rfl (hb hby d3_22) rfl k) ?_
    refine own_by (T' := T3) (g' := (mkF m 24 #[.val (.ref ob), .val (.int 0), .val (.int pp), .val (.int 0)] [(.int ((pp.toUInt32 >>> ((0 : Int32) &&& 31).toUInt32).toInt32)), (.int 0), (.ref y0)])) (fun t k => XS.iushr X3.here hx rfl (hb hby d3_23) rfl k) ?_
    refine own_by (T' := T3) (g' := (mkF m 25 #[.val (.ref ob), .val (.int 0), .val (.int pp), .val (.int 0)] [(.int (((pp.toUInt32 >>> ((0 : Int32) &&& 31).toUInt32).toInt32).toInt8.toInt32)), (.int 0), (.ref y0)])) (fun t k => XS.i2b X3.here hx rfl (hb hby d3_24) rfl k) ?_
    obtain ⟨cl5, Ar5, q5, S5, N5, Hs5, G5⟩ := id V_y0
    have hin5 : ¬ ((0 : Int32) < 0 ∨ cl5.slots.size ≤ ((0 : Int32)).toNatClampNeg) := inb_of S5 ⟨by decide, by decide⟩
    obtain ⟨T5, h5, X5, e5, W5, st5⟩ := stB X3 hx hZ e3 Ar5 (j := (0 : Int32)) hin5 (g := (mkF m 25 #[.val (.ref ob), .val (.int 0), .val (.int pp), .val (.int 0)] [(.int (((pp.toUInt32 >>> ((0 : Int32) &&& 31).toUInt32).toInt32).toInt8.toInt32)), (.int 0), (.ref y0)])) rfl rfl (hb hby d3_25)
    have V_y0_ : Arv Z h5 y0 kc .byte (3 : Int32) [(.int (nar .byte (((pp.toUInt32 >>> ((0 : Int32) &&& 31).toUInt32).toInt32).toInt8.toInt32))), (.int ee01), (.int ee02)] (.int 0) := Arv.set Ar5 q5 S5 N5 Hs5 G5 (fits_nar_byte _) W5 0 rfl (Nat.le_of_ble_eq_true rfl)
    have F_planes_ob := F_planes_ob.other W5 (Or.inl ne_ob_y0)
    have V_b := V_b.other W5 ne_b_y0
    have V_y1 := V_y1.other W5 ne_y0_y1.symm
    have V_y2 := V_y2.other W5 ne_y0_y2.symm
    have Zle := Nat.le_trans Zle (Keep.of_wr W5).1
    have K_ := K_.wr W5 (Or.inl (List.mem_of_getElem? (i := 0) rfl))
    have V_y0 := V_y0_
    have N_ := Fr.snoc X5 N_ g_y0
    refine own_by (T' := T5) (g' := (mkF m 26 #[.val (.ref ob), .val (.int 0), .val (.int pp), .val (.int 0)] [])) (fun t k => st5 t k) ?_
    refine own_by (T' := T5) (g' := (mkF m 29 #[.val (.ref ob), .val (.int 0), .val (.int pp), .val (.int 1)] [])) (fun t k => XS.iinc X5.here hx rfl (hb hby d3_26) rfl (l' := #[.val (.ref ob), .val (.int 0), .val (.int pp), .val (.int 1)]) rfl k) ?_
    refine own_by (T' := T5) (g' := (mkF m 2 #[.val (.ref ob), .val (.int 0), .val (.int pp), .val (.int 1)] [])) (fun t k => XS.goto X5.here hx rfl (pc0 := 29) (pc' := 2) rfl (hb hby d3_29) (by decide) (by decide) k) ?_
    refine own_by (T' := T5) (g' := (mkF m 3 #[.val (.ref ob), .val (.int 0), .val (.int pp), .val (.int 1)] [(.int 1)])) (fun t k => XS.iloadN X5.here hx rfl (hb hby d3_2) rfl k) ?_
    refine own_by (T' := T5) (g' := (mkF m 4 #[.val (.ref ob), .val (.int 0), .val (.int pp), .val (.int 1)] [(.ref ob), (.int 1)])) (fun t k => XS.aloadN X5.here hx rfl (hb hby d3_3) rfl rfl k) ?_
    obtain ⟨T6, X6, e6, st6⟩ := getF X5 hx hZ hown (host := "") (Or.inl (hw _ (own_m 16 rfl))) Via.refl e5 F_planes_ob (g := (mkF m 4 #[.val (.ref ob), .val (.int 0), .val (.int pp), .val (.int 1)] [(.ref ob), (.int 1)])) rfl rfl (hb hby d3_4)
    refine own_by (T' := T6) (g' := (mkF m 7 #[.val (.ref ob), .val (.int 0), .val (.int pp), .val (.int 1)] [(.ref b), (.int 1)])) (fun t k => st6 t k) ?_
    obtain ⟨cl7, Ar7, -, S7, N7, -, -⟩ := id V_b
    have st7 : ∀ t, Steps p.tables e below (T6.setTop (mkF m 8 #[.val (.ref ob), .val (.int 0), .val (.int pp), .val (.int 1)] [(.int 3), (.int 1)])) t → Steps p.tables e below (T6.setTop (mkF m 7 #[.val (.ref ob), .val (.int 0), .val (.int pp), .val (.int 1)] [(.ref b), (.int 1)])) t := fun t k => X6.arraylength hx (by rw [e6]; exact Ar7.1) (State.isArrayOf_alike hZ.alike Ar7.2.1) (g := (mkF m 7 #[.val (.ref ob), .val (.int 0), .val (.int pp), .val (.int 1)] [(.ref b), (.int 1)])) rfl rfl (hb hby d3_7) _ (by rw [len_of S7 N7]; exact k)
    refine own_by (T' := T6) (g' := (mkF m 8 #[.val (.ref ob), .val (.int 0), .val (.int pp), .val (.int 1)] [(.int 3), (.int 1)])) (fun t k => st7 t k) ?_
    refine own_by (T' := T6) (g' := (mkF m 11 #[.val (.ref ob), .val (.int 0), .val (.int pp), .val (.int 1)] [])) (fun t k => XS.icmpNo X6.here hx rfl (hb hby d3_8) rfl (tlt (by decide)).2.1 k) ?_
    refine own_by (T' := T6) (g' := (mkF m 12 #[.val (.ref ob), .val (.int 0), .val (.int pp), .val (.int 1)] [(.ref ob)])) (fun t k => XS.aloadN X6.here hx rfl (hb hby d3_11) rfl rfl k) ?_
    obtain ⟨T8, X8, e8, st8⟩ := getF X6 hx hZ hown (host := "") (Or.inl (hw _ (own_m 16 rfl))) Via.refl e6 F_planes_ob (g := (mkF m 12 #[.val (.ref ob), .val (.int 0), .val (.int pp), .val (.int 1)] [(.ref ob)])) rfl rfl (hb hby d3_12)
    refine own_by (T' := T8) (g' := (mkF m 15 #[.val (.ref ob), .val (.int 0), .val (.int pp), .val (.int 1)] [(.ref b)])) (fun t k => st8 t k) ?_
    refine own_by (T' := T8) (g' := (mkF m 16 #[.val (.ref ob), .val (.int 0), .val (.int pp), .val (.int 1)] [(.int 1), (.ref b)])) (fun t k => XS.iloadN X8.here hx rfl (hb hby d3_15) rfl k) ?_
    obtain ⟨cl9, Ar9, q9, S9, N9, Hs9, G9⟩ := id V_b
    have hin9 : ¬ ((1 : Int32) < 0 ∨ cl9.slots.size ≤ ((1 : Int32)).toNatClampNeg) := inb_of S9 ⟨by decide, by decide⟩
    have hat9 : cl9.slots[((1 : Int32)).toNatClampNeg]? = some (.ref y1) := Hs9.at hin9 rfl
    refine own_by (T' := T8) (g' := (mkF m 17 #[.val (.ref ob), .val (.int 0), .val (.int pp), .val (.int 1)] [(.ref y1)])) (fun t k => X8.aaload hx (j := (1 : Int32)) (v := (.ref y1)) (by rw [e8]; exact Ar9.1) (State.isArrayOf_alike hZ.alike Ar9.2.1) rfl Ar9.2.2 hin9 hat9 (g := (mkF m 16 #[.val (.ref ob), .val (.int 0), .val (.int pp), .val (.int 1)] [(.int 1), (.ref b)])) rfl rfl (hb hby d3_16) _ k) ?_
    refine own_by (T' := T8) (g' := (mkF m 18 #[.val (.ref ob), .val (.int 0), .val (.int pp), .val (.int 1)] [(.int 0), (.ref y1)])) (fun t k => XS.iloadN X8.here hx rfl (hb hby d3_17) rfl k) ?_
    refine own_by (T' := T8) (g' := (mkF m 19 #[.val (.ref ob), .val (.int 0), .val (.int pp), .val (.int 1)] [(.int pp), (.int 0), (.ref y1)])) (fun t k => XS.iloadN X8.here hx rfl (hb hby d3_18) rfl k) ?_
    refine own_by (T' := T8) (g' := (mkF m 21 #[.val (.ref ob), .val (.int 0), .val (.int pp), .val (.int 1)] [(.int 8), (.int pp), (.int 0), (.ref y1)])) (fun t k => XS.bipush X8.here hx rfl (hb hby d3_19) k) ?_
    refine own_by (T' := T8) (g' := (mkF m 22 #[.val (.ref ob), .val (.int 0), .val (.int pp), .val (.int 1)] [(.int 1), (.int 8), (.int pp), (.int 0), (.ref y1)])) (fun t k => XS.iloadN X8.here hx rfl (hb hby d3_21) rfl k) ?_
    refine own_by (T' := T8) (g' := (mkF m 23 #[.val (.ref ob), .val (.int 0), .val (.int pp), .val (.int 1)] [(.int 8), (.int pp), (.int 0), (.ref y1)])) (fun t k => XS.imul X8.here hx rfl (hb hby d3_22) rfl k) ?_
    refine own_by (T' := T8) (g' := (mkF m 24 #[.val (.ref ob), .val (.int 0), .val (.int pp), .val (.int 1)] [(.int ((pp.toUInt32 >>> ((8 : Int32) &&& 31).toUInt32).toInt32)), (.int 0), (.ref y1)])) (fun t k => XS.iushr X8.here hx rfl (hb hby d3_23) rfl k) ?_
    refine own_by (T' := T8) (g' := (mkF m 25 #[.val (.ref ob), .val (.int 0), .val (.int pp), .val (.int 1)] [(.int (((pp.toUInt32 >>> ((8 : Int32) &&& 31).toUInt32).toInt32).toInt8.toInt32)), (.int 0), (.ref y1)])) (fun t k => XS.i2b X8.here hx rfl (hb hby d3_24) rfl k) ?_
    obtain ⟨cl10, Ar10, q10, S10, N10, Hs10, G10⟩ := id V_y1
    have hin10 : ¬ ((0 : Int32) < 0 ∨ cl10.slots.size ≤ ((0 : Int32)).toNatClampNeg) := inb_of S10 ⟨by decide, by decide⟩
    obtain ⟨T10, h10, X10, e10, W10, st10⟩ := stB X8 hx hZ e8 Ar10 (j := (0 : Int32)) hin10 (g := (mkF m 25 #[.val (.ref ob), .val (.int 0), .val (.int pp), .val (.int 1)] [(.int (((pp.toUInt32 >>> ((8 : Int32) &&& 31).toUInt32).toInt32).toInt8.toInt32)), (.int 0), (.ref y1)])) rfl rfl (hb hby d3_25)
    have V_y1_ : Arv Z h10 y1 kc .byte (3 : Int32) [(.int (nar .byte (((pp.toUInt32 >>> ((8 : Int32) &&& 31).toUInt32).toInt32).toInt8.toInt32))), (.int ee11), (.int ee12)] (.int 0) := Arv.set Ar10 q10 S10 N10 Hs10 G10 (fits_nar_byte _) W10 0 rfl (Nat.le_of_ble_eq_true rfl)
    have F_planes_ob := F_planes_ob.other W10 (Or.inl ne_ob_y1)
    have V_b := V_b.other W10 ne_b_y1
    have V_y2 := V_y2.other W10 ne_y1_y2.symm
    have Zle := Nat.le_trans Zle (Keep.of_wr W10).1
    have K_ := K_.wr W10 (Or.inl (List.mem_of_getElem? (i := 1) rfl))
    have V_y0 := V_y0.other W10 ne_y0_y1
    have V_y1 := V_y1_
    have N_ := Fr.snoc X10 N_ g_y1
    refine own_by (T' := T10) (g' := (mkF m 26 #[.val (.ref ob), .val (.int 0), .val (.int pp), .val (.int 1)] [])) (fun t k => st10 t k) ?_
    refine own_by (T' := T10) (g' := (mkF m 29 #[.val (.ref ob), .val (.int 0), .val (.int pp), .val (.int 2)] [])) (fun t k => XS.iinc X10.here hx rfl (hb hby d3_26) rfl (l' := #[.val (.ref ob), .val (.int 0), .val (.int pp), .val (.int 2)]) rfl k) ?_
    refine own_by (T' := T10) (g' := (mkF m 2 #[.val (.ref ob), .val (.int 0), .val (.int pp), .val (.int 2)] [])) (fun t k => XS.goto X10.here hx rfl (pc0 := 29) (pc' := 2) rfl (hb hby d3_29) (by decide) (by decide) k) ?_
    refine own_by (T' := T10) (g' := (mkF m 3 #[.val (.ref ob), .val (.int 0), .val (.int pp), .val (.int 2)] [(.int 2)])) (fun t k => XS.iloadN X10.here hx rfl (hb hby d3_2) rfl k) ?_
    refine own_by (T' := T10) (g' := (mkF m 4 #[.val (.ref ob), .val (.int 0), .val (.int pp), .val (.int 2)] [(.ref ob), (.int 2)])) (fun t k => XS.aloadN X10.here hx rfl (hb hby d3_3) rfl rfl k) ?_
    obtain ⟨T11, X11, e11, st11⟩ := getF X10 hx hZ hown (host := "") (Or.inl (hw _ (own_m 16 rfl))) Via.refl e10 F_planes_ob (g := (mkF m 4 #[.val (.ref ob), .val (.int 0), .val (.int pp), .val (.int 2)] [(.ref ob), (.int 2)])) rfl rfl (hb hby d3_4)
    refine own_by (T' := T11) (g' := (mkF m 7 #[.val (.ref ob), .val (.int 0), .val (.int pp), .val (.int 2)] [(.ref b), (.int 2)])) (fun t k => st11 t k) ?_
    obtain ⟨cl12, Ar12, -, S12, N12, -, -⟩ := id V_b
    have st12 : ∀ t, Steps p.tables e below (T11.setTop (mkF m 8 #[.val (.ref ob), .val (.int 0), .val (.int pp), .val (.int 2)] [(.int 3), (.int 2)])) t → Steps p.tables e below (T11.setTop (mkF m 7 #[.val (.ref ob), .val (.int 0), .val (.int pp), .val (.int 2)] [(.ref b), (.int 2)])) t := fun t k => X11.arraylength hx (by rw [e11]; exact Ar12.1) (State.isArrayOf_alike hZ.alike Ar12.2.1) (g := (mkF m 7 #[.val (.ref ob), .val (.int 0), .val (.int pp), .val (.int 2)] [(.ref b), (.int 2)])) rfl rfl (hb hby d3_7) _ (by rw [len_of S12 N12]; exact k)
    refine own_by (T' := T11) (g' := (mkF m 8 #[.val (.ref ob), .val (.int 0), .val (.int pp), .val (.int 2)] [(.int 3), (.int 2)])) (fun t k => st12 t k) ?_
    refine own_by (T' := T11) (g' := (mkF m 11 #[.val (.ref ob), .val (.int 0), .val (.int pp), .val (.int 2)] [])) (fun t k => XS.icmpNo X11.here hx rfl (hb hby d3_8) rfl (tlt (by decide)).2.1 k) ?_
    refine own_by (T' := T11) (g' := (mkF m 12 #[.val (.ref ob), .val (.int 0), .val (.int pp), .val (.int 2)] [(.ref ob)])) (fun t k => XS.aloadN X11.here hx rfl (hb hby d3_11) rfl rfl k) ?_
    obtain ⟨T13, X13, e13, st13⟩ := getF X11 hx hZ hown (host := "") (Or.inl (hw _ (own_m 16 rfl))) Via.refl e11 F_planes_ob (g := (mkF m 12 #[.val (.ref ob), .val (.int 0), .val (.int pp), .val (.int 2)] [(.ref ob)])) rfl rfl (hb hby d3_12)
    refine own_by (T' := T13) (g' := (mkF m 15 #[.val (.ref ob), .val (.int 0), .val (.int pp), .val (.int 2)] [(.ref b)])) (fun t k => st13 t k) ?_
    refine own_by (T' := T13) (g' := (mkF m 16 #[.val (.ref ob), .val (.int 0), .val (.int pp), .val (.int 2)] [(.int 2), (.ref b)])) (fun t k => XS.iloadN X13.here hx rfl (hb hby d3_15) rfl k) ?_
    obtain ⟨cl14, Ar14, q14, S14, N14, Hs14, G14⟩ := id V_b
    have hin14 : ¬ ((2 : Int32) < 0 ∨ cl14.slots.size ≤ ((2 : Int32)).toNatClampNeg) := inb_of S14 ⟨by decide, by decide⟩
    have hat14 : cl14.slots[((2 : Int32)).toNatClampNeg]? = some (.ref y2) := Hs14.at hin14 rfl
    refine own_by (T' := T13) (g' := (mkF m 17 #[.val (.ref ob), .val (.int 0), .val (.int pp), .val (.int 2)] [(.ref y2)])) (fun t k => X13.aaload hx (j := (2 : Int32)) (v := (.ref y2)) (by rw [e13]; exact Ar14.1) (State.isArrayOf_alike hZ.alike Ar14.2.1) rfl Ar14.2.2 hin14 hat14 (g := (mkF m 16 #[.val (.ref ob), .val (.int 0), .val (.int pp), .val (.int 2)] [(.int 2), (.ref b)])) rfl rfl (hb hby d3_16) _ k) ?_
    refine own_by (T' := T13) (g' := (mkF m 18 #[.val (.ref ob), .val (.int 0), .val (.int pp), .val (.int 2)] [(.int 0), (.ref y2)])) (fun t k => XS.iloadN X13.here hx rfl (hb hby d3_17) rfl k) ?_
    refine own_by (T' := T13) (g' := (mkF m 19 #[.val (.ref ob), .val (.int 0), .val (.int pp), .val (.int 2)] [(.int pp), (.int 0), (.ref y2)])) (fun t k => XS.iloadN X13.here hx rfl (hb hby d3_18) rfl k) ?_
    refine own_by (T' := T13) (g' := (mkF m 21 #[.val (.ref ob), .val (.int 0), .val (.int pp), .val (.int 2)] [(.int 8), (.int pp), (.int 0), (.ref y2)])) (fun t k => XS.bipush X13.here hx rfl (hb hby d3_19) k) ?_
    refine own_by (T' := T13) (g' := (mkF m 22 #[.val (.ref ob), .val (.int 0), .val (.int pp), .val (.int 2)] [(.int 2), (.int 8), (.int pp), (.int 0), (.ref y2)])) (fun t k => XS.iloadN X13.here hx rfl (hb hby d3_21) rfl k) ?_
    refine own_by (T' := T13) (g' := (mkF m 23 #[.val (.ref ob), .val (.int 0), .val (.int pp), .val (.int 2)] [(.int 16), (.int pp), (.int 0), (.ref y2)])) (fun t k => XS.imul X13.here hx rfl (hb hby d3_22) rfl k) ?_
    refine own_by (T' := T13) (g' := (mkF m 24 #[.val (.ref ob), .val (.int 0), .val (.int pp), .val (.int 2)] [(.int ((pp.toUInt32 >>> ((16 : Int32) &&& 31).toUInt32).toInt32)), (.int 0), (.ref y2)])) (fun t k => XS.iushr X13.here hx rfl (hb hby d3_23) rfl k) ?_
    refine own_by (T' := T13) (g' := (mkF m 25 #[.val (.ref ob), .val (.int 0), .val (.int pp), .val (.int 2)] [(.int (((pp.toUInt32 >>> ((16 : Int32) &&& 31).toUInt32).toInt32).toInt8.toInt32)), (.int 0), (.ref y2)])) (fun t k => XS.i2b X13.here hx rfl (hb hby d3_24) rfl k) ?_
    obtain ⟨cl15, Ar15, q15, S15, N15, Hs15, G15⟩ := id V_y2
    have hin15 : ¬ ((0 : Int32) < 0 ∨ cl15.slots.size ≤ ((0 : Int32)).toNatClampNeg) := inb_of S15 ⟨by decide, by decide⟩
    obtain ⟨T15, h15, X15, e15, W15, st15⟩ := stB X13 hx hZ e13 Ar15 (j := (0 : Int32)) hin15 (g := (mkF m 25 #[.val (.ref ob), .val (.int 0), .val (.int pp), .val (.int 2)] [(.int (((pp.toUInt32 >>> ((16 : Int32) &&& 31).toUInt32).toInt32).toInt8.toInt32)), (.int 0), (.ref y2)])) rfl rfl (hb hby d3_25)
    have V_y2_ : Arv Z h15 y2 kc .byte (3 : Int32) [(.int (nar .byte (((pp.toUInt32 >>> ((16 : Int32) &&& 31).toUInt32).toInt32).toInt8.toInt32))), (.int ee21), (.int ee22)] (.int 0) := Arv.set Ar15 q15 S15 N15 Hs15 G15 (fits_nar_byte _) W15 0 rfl (Nat.le_of_ble_eq_true rfl)
    have F_planes_ob := F_planes_ob.other W15 (Or.inl ne_ob_y2)
    have V_b := V_b.other W15 ne_b_y2
    have Zle := Nat.le_trans Zle (Keep.of_wr W15).1
    have K_ := K_.wr W15 (Or.inl (List.mem_of_getElem? (i := 2) rfl))
    have V_y0 := V_y0.other W15 ne_y0_y2
    have V_y1 := V_y1.other W15 ne_y1_y2
    have V_y2 := V_y2_
    have N_ := Fr.snoc X15 N_ g_y2
    refine own_by (T' := T15) (g' := (mkF m 26 #[.val (.ref ob), .val (.int 0), .val (.int pp), .val (.int 2)] [])) (fun t k => st15 t k) ?_
    refine own_by (T' := T15) (g' := (mkF m 29 #[.val (.ref ob), .val (.int 0), .val (.int pp), .val (.int 3)] [])) (fun t k => XS.iinc X15.here hx rfl (hb hby d3_26) rfl (l' := #[.val (.ref ob), .val (.int 0), .val (.int pp), .val (.int 3)]) rfl k) ?_
    refine own_by (T' := T15) (g' := (mkF m 2 #[.val (.ref ob), .val (.int 0), .val (.int pp), .val (.int 3)] [])) (fun t k => XS.goto X15.here hx rfl (pc0 := 29) (pc' := 2) rfl (hb hby d3_29) (by decide) (by decide) k) ?_
    refine own_by (T' := T15) (g' := (mkF m 3 #[.val (.ref ob), .val (.int 0), .val (.int pp), .val (.int 3)] [(.int 3)])) (fun t k => XS.iloadN X15.here hx rfl (hb hby d3_2) rfl k) ?_
    refine own_by (T' := T15) (g' := (mkF m 4 #[.val (.ref ob), .val (.int 0), .val (.int pp), .val (.int 3)] [(.ref ob), (.int 3)])) (fun t k => XS.aloadN X15.here hx rfl (hb hby d3_3) rfl rfl k) ?_
    obtain ⟨T16, X16, e16, st16⟩ := getF X15 hx hZ hown (host := "") (Or.inl (hw _ (own_m 16 rfl))) Via.refl e15 F_planes_ob (g := (mkF m 4 #[.val (.ref ob), .val (.int 0), .val (.int pp), .val (.int 3)] [(.ref ob), (.int 3)])) rfl rfl (hb hby d3_4)
    refine own_by (T' := T16) (g' := (mkF m 7 #[.val (.ref ob), .val (.int 0), .val (.int pp), .val (.int 3)] [(.ref b), (.int 3)])) (fun t k => st16 t k) ?_
    obtain ⟨cl17, Ar17, -, S17, N17, -, -⟩ := id V_b
    have st17 : ∀ t, Steps p.tables e below (T16.setTop (mkF m 8 #[.val (.ref ob), .val (.int 0), .val (.int pp), .val (.int 3)] [(.int 3), (.int 3)])) t → Steps p.tables e below (T16.setTop (mkF m 7 #[.val (.ref ob), .val (.int 0), .val (.int pp), .val (.int 3)] [(.ref b), (.int 3)])) t := fun t k => X16.arraylength hx (by rw [e16]; exact Ar17.1) (State.isArrayOf_alike hZ.alike Ar17.2.1) (g := (mkF m 7 #[.val (.ref ob), .val (.int 0), .val (.int pp), .val (.int 3)] [(.ref b), (.int 3)])) rfl rfl (hb hby d3_7) _ (by rw [len_of S17 N17]; exact k)
    refine own_by (T' := T16) (g' := (mkF m 8 #[.val (.ref ob), .val (.int 0), .val (.int pp), .val (.int 3)] [(.int 3), (.int 3)])) (fun t k => st17 t k) ?_
    refine own_by (T' := T16) (g' := (mkF m 32 #[.val (.ref ob), .val (.int 0), .val (.int pp), .val (.int 3)] [])) (fun t k => XS.icmpYes X16.here hx rfl (pc0 := 8) (pc' := 32) rfl (hb hby d3_8) rfl (flt (by decide)).2.1 (by decide) (by decide) k) ?_
    exact own_retV X16 hx Bd.notSynchronized Bd.returns (hb hby d3_32) (by decide) (by decide) (by rw [e16]; exact ⟨rfl, N_, K_, V_b, V_y0, V_y1, V_y2⟩)
  · refine own_by (T' := s₁) (g' := (mkF m 1 #[.val (.ref ob), .val (.int 1), .val (.int pp), .unset] [(.int 0)])) (fun t k => XS.iconst X0.here hx rfl (hb hby d3_0) k) ?_
    refine own_by (T' := s₁) (g' := (mkF m 2 #[.val (.ref ob), .val (.int 1), .val (.int pp), .val (.int 0)] [])) (fun t k => XS.istoreN X0.here hx rfl (hb hby d3_1) rfl (l' := #[.val (.ref ob), .val (.int 1), .val (.int pp), .val (.int 0)]) rfl k) ?_
    refine own_by (T' := s₁) (g' := (mkF m 3 #[.val (.ref ob), .val (.int 1), .val (.int pp), .val (.int 0)] [(.int 0)])) (fun t k => XS.iloadN X0.here hx rfl (hb hby d3_2) rfl k) ?_
    refine own_by (T' := s₁) (g' := (mkF m 4 #[.val (.ref ob), .val (.int 1), .val (.int pp), .val (.int 0)] [(.ref ob), (.int 0)])) (fun t k => XS.aloadN X0.here hx rfl (hb hby d3_3) rfl rfl k) ?_
    obtain ⟨T18, X18, e18, st18⟩ := getF X0 hx hZ hown (host := "") (Or.inl (hw _ (own_m 16 rfl))) Via.refl e0 F_planes_ob (g := (mkF m 4 #[.val (.ref ob), .val (.int 1), .val (.int pp), .val (.int 0)] [(.ref ob), (.int 0)])) rfl rfl (hb hby d3_4)
    refine own_by (T' := T18) (g' := (mkF m 7 #[.val (.ref ob), .val (.int 1), .val (.int pp), .val (.int 0)] [(.ref b), (.int 0)])) (fun t k => st18 t k) ?_
    obtain ⟨cl19, Ar19, -, S19, N19, -, -⟩ := id V_b
    have st19 : ∀ t, Steps p.tables e below (T18.setTop (mkF m 8 #[.val (.ref ob), .val (.int 1), .val (.int pp), .val (.int 0)] [(.int 3), (.int 0)])) t → Steps p.tables e below (T18.setTop (mkF m 7 #[.val (.ref ob), .val (.int 1), .val (.int pp), .val (.int 0)] [(.ref b), (.int 0)])) t := fun t k => X18.arraylength hx (by rw [e18]; exact Ar19.1) (State.isArrayOf_alike hZ.alike Ar19.2.1) (g := (mkF m 7 #[.val (.ref ob), .val (.int 1), .val (.int pp), .val (.int 0)] [(.ref b), (.int 0)])) rfl rfl (hb hby d3_7) _ (by rw [len_of S19 N19]; exact k)
    refine own_by (T' := T18) (g' := (mkF m 8 #[.val (.ref ob), .val (.int 1), .val (.int pp), .val (.int 0)] [(.int 3), (.int 0)])) (fun t k => st19 t k) ?_
    refine own_by (T' := T18) (g' := (mkF m 11 #[.val (.ref ob), .val (.int 1), .val (.int pp), .val (.int 0)] [])) (fun t k => XS.icmpNo X18.here hx rfl (hb hby d3_8) rfl (tlt (by decide)).2.1 k) ?_
    refine own_by (T' := T18) (g' := (mkF m 12 #[.val (.ref ob), .val (.int 1), .val (.int pp), .val (.int 0)] [(.ref ob)])) (fun t k => XS.aloadN X18.here hx rfl (hb hby d3_11) rfl rfl k) ?_
    obtain ⟨T20, X20, e20, st20⟩ := getF X18 hx hZ hown (host := "") (Or.inl (hw _ (own_m 16 rfl))) Via.refl e18 F_planes_ob (g := (mkF m 12 #[.val (.ref ob), .val (.int 1), .val (.int pp), .val (.int 0)] [(.ref ob)])) rfl rfl (hb hby d3_12)
    refine own_by (T' := T20) (g' := (mkF m 15 #[.val (.ref ob), .val (.int 1), .val (.int pp), .val (.int 0)] [(.ref b)])) (fun t k => st20 t k) ?_
    refine own_by (T' := T20) (g' := (mkF m 16 #[.val (.ref ob), .val (.int 1), .val (.int pp), .val (.int 0)] [(.int 0), (.ref b)])) (fun t k => XS.iloadN X20.here hx rfl (hb hby d3_15) rfl k) ?_
    obtain ⟨cl21, Ar21, q21, S21, N21, Hs21, G21⟩ := id V_b
    have hin21 : ¬ ((0 : Int32) < 0 ∨ cl21.slots.size ≤ ((0 : Int32)).toNatClampNeg) := inb_of S21 ⟨by decide, by decide⟩
    have hat21 : cl21.slots[((0 : Int32)).toNatClampNeg]? = some (.ref y0) := Hs21.at hin21 rfl
    refine own_by (T' := T20) (g' := (mkF m 17 #[.val (.ref ob), .val (.int 1), .val (.int pp), .val (.int 0)] [(.ref y0)])) (fun t k => X20.aaload hx (j := (0 : Int32)) (v := (.ref y0)) (by rw [e20]; exact Ar21.1) (State.isArrayOf_alike hZ.alike Ar21.2.1) rfl Ar21.2.2 hin21 hat21 (g := (mkF m 16 #[.val (.ref ob), .val (.int 1), .val (.int pp), .val (.int 0)] [(.int 0), (.ref b)])) rfl rfl (hb hby d3_16) _ k) ?_
    refine own_by (T' := T20) (g' := (mkF m 18 #[.val (.ref ob), .val (.int 1), .val (.int pp), .val (.int 0)] [(.int 1), (.ref y0)])) (fun t k => XS.iloadN X20.here hx rfl (hb hby d3_17) rfl k) ?_
    refine own_by (T' := T20) (g' := (mkF m 19 #[.val (.ref ob), .val (.int 1), .val (.int pp), .val (.int 0)] [(.int pp), (.int 1), (.ref y0)])) (fun t k => XS.iloadN X20.here hx rfl (hb hby d3_18) rfl k) ?_
    refine own_by (T' := T20) (g' := (mkF m 21 #[.val (.ref ob), .val (.int 1), .val (.int pp), .val (.int 0)] [(.int 8), (.int pp), (.int 1), (.ref y0)])) (fun t k => XS.bipush X20.here hx rfl (hb hby d3_19) k) ?_
    refine own_by (T' := T20) (g' := (mkF m 22 #[.val (.ref ob), .val (.int 1), .val (.int pp), .val (.int 0)] [(.int 0), (.int 8), (.int pp), (.int 1), (.ref y0)])) (fun t k => XS.iloadN X20.here hx rfl (hb hby d3_21) rfl k) ?_
    refine own_by (T' := T20) (g' := (mkF m 23 #[.val (.ref ob), .val (.int 1), .val (.int pp), .val (.int 0)] [(.int 0), (.int pp), (.int 1), (.ref y0)])) (fun t k => XS.imul X20.here hx rfl (hb hby d3_22) rfl k) ?_
    refine own_by (T' := T20) (g' := (mkF m 24 #[.val (.ref ob), .val (.int 1), .val (.int pp), .val (.int 0)] [(.int ((pp.toUInt32 >>> ((0 : Int32) &&& 31).toUInt32).toInt32)), (.int 1), (.ref y0)])) (fun t k => XS.iushr X20.here hx rfl (hb hby d3_23) rfl k) ?_
    refine own_by (T' := T20) (g' := (mkF m 25 #[.val (.ref ob), .val (.int 1), .val (.int pp), .val (.int 0)] [(.int (((pp.toUInt32 >>> ((0 : Int32) &&& 31).toUInt32).toInt32).toInt8.toInt32)), (.int 1), (.ref y0)])) (fun t k => XS.i2b X20.here hx rfl (hb hby d3_24) rfl k) ?_
    obtain ⟨cl22, Ar22, q22, S22, N22, Hs22, G22⟩ := id V_y0
    have hin22 : ¬ ((1 : Int32) < 0 ∨ cl22.slots.size ≤ ((1 : Int32)).toNatClampNeg) := inb_of S22 ⟨by decide, by decide⟩
    obtain ⟨T22, h22, X22, e22, W22, st22⟩ := stB X20 hx hZ e20 Ar22 (j := (1 : Int32)) hin22 (g := (mkF m 25 #[.val (.ref ob), .val (.int 1), .val (.int pp), .val (.int 0)] [(.int (((pp.toUInt32 >>> ((0 : Int32) &&& 31).toUInt32).toInt32).toInt8.toInt32)), (.int 1), (.ref y0)])) rfl rfl (hb hby d3_25)
    have V_y0_ : Arv Z h22 y0 kc .byte (3 : Int32) [(.int ee00), (.int (nar .byte (((pp.toUInt32 >>> ((0 : Int32) &&& 31).toUInt32).toInt32).toInt8.toInt32))), (.int ee02)] (.int 0) := Arv.set Ar22 q22 S22 N22 Hs22 G22 (fits_nar_byte _) W22 1 rfl (Nat.le_of_ble_eq_true rfl)
    have F_planes_ob := F_planes_ob.other W22 (Or.inl ne_ob_y0)
    have V_b := V_b.other W22 ne_b_y0
    have V_y1 := V_y1.other W22 ne_y0_y1.symm
    have V_y2 := V_y2.other W22 ne_y0_y2.symm
    have Zle := Nat.le_trans Zle (Keep.of_wr W22).1
    have K_ := K_.wr W22 (Or.inl (List.mem_of_getElem? (i := 0) rfl))
    have V_y0 := V_y0_
    have N_ := Fr.snoc X22 N_ g_y0
    refine own_by (T' := T22) (g' := (mkF m 26 #[.val (.ref ob), .val (.int 1), .val (.int pp), .val (.int 0)] [])) (fun t k => st22 t k) ?_
    refine own_by (T' := T22) (g' := (mkF m 29 #[.val (.ref ob), .val (.int 1), .val (.int pp), .val (.int 1)] [])) (fun t k => XS.iinc X22.here hx rfl (hb hby d3_26) rfl (l' := #[.val (.ref ob), .val (.int 1), .val (.int pp), .val (.int 1)]) rfl k) ?_
    refine own_by (T' := T22) (g' := (mkF m 2 #[.val (.ref ob), .val (.int 1), .val (.int pp), .val (.int 1)] [])) (fun t k => XS.goto X22.here hx rfl (pc0 := 29) (pc' := 2) rfl (hb hby d3_29) (by decide) (by decide) k) ?_
    refine own_by (T' := T22) (g' := (mkF m 3 #[.val (.ref ob), .val (.int 1), .val (.int pp), .val (.int 1)] [(.int 1)])) (fun t k => XS.iloadN X22.here hx rfl (hb hby d3_2) rfl k) ?_
    refine own_by (T' := T22) (g' := (mkF m 4 #[.val (.ref ob), .val (.int 1), .val (.int pp), .val (.int 1)] [(.ref ob), (.int 1)])) (fun t k => XS.aloadN X22.here hx rfl (hb hby d3_3) rfl rfl k) ?_
    obtain ⟨T23, X23, e23, st23⟩ := getF X22 hx hZ hown (host := "") (Or.inl (hw _ (own_m 16 rfl))) Via.refl e22 F_planes_ob (g := (mkF m 4 #[.val (.ref ob), .val (.int 1), .val (.int pp), .val (.int 1)] [(.ref ob), (.int 1)])) rfl rfl (hb hby d3_4)
    refine own_by (T' := T23) (g' := (mkF m 7 #[.val (.ref ob), .val (.int 1), .val (.int pp), .val (.int 1)] [(.ref b), (.int 1)])) (fun t k => st23 t k) ?_
    obtain ⟨cl24, Ar24, -, S24, N24, -, -⟩ := id V_b
    have st24 : ∀ t, Steps p.tables e below (T23.setTop (mkF m 8 #[.val (.ref ob), .val (.int 1), .val (.int pp), .val (.int 1)] [(.int 3), (.int 1)])) t → Steps p.tables e below (T23.setTop (mkF m 7 #[.val (.ref ob), .val (.int 1), .val (.int pp), .val (.int 1)] [(.ref b), (.int 1)])) t := fun t k => X23.arraylength hx (by rw [e23]; exact Ar24.1) (State.isArrayOf_alike hZ.alike Ar24.2.1) (g := (mkF m 7 #[.val (.ref ob), .val (.int 1), .val (.int pp), .val (.int 1)] [(.ref b), (.int 1)])) rfl rfl (hb hby d3_7) _ (by rw [len_of S24 N24]; exact k)
    refine own_by (T' := T23) (g' := (mkF m 8 #[.val (.ref ob), .val (.int 1), .val (.int pp), .val (.int 1)] [(.int 3), (.int 1)])) (fun t k => st24 t k) ?_
    refine own_by (T' := T23) (g' := (mkF m 11 #[.val (.ref ob), .val (.int 1), .val (.int pp), .val (.int 1)] [])) (fun t k => XS.icmpNo X23.here hx rfl (hb hby d3_8) rfl (tlt (by decide)).2.1 k) ?_
    refine own_by (T' := T23) (g' := (mkF m 12 #[.val (.ref ob), .val (.int 1), .val (.int pp), .val (.int 1)] [(.ref ob)])) (fun t k => XS.aloadN X23.here hx rfl (hb hby d3_11) rfl rfl k) ?_
    obtain ⟨T25, X25, e25, st25⟩ := getF X23 hx hZ hown (host := "") (Or.inl (hw _ (own_m 16 rfl))) Via.refl e23 F_planes_ob (g := (mkF m 12 #[.val (.ref ob), .val (.int 1), .val (.int pp), .val (.int 1)] [(.ref ob)])) rfl rfl (hb hby d3_12)
    refine own_by (T' := T25) (g' := (mkF m 15 #[.val (.ref ob), .val (.int 1), .val (.int pp), .val (.int 1)] [(.ref b)])) (fun t k => st25 t k) ?_
    refine own_by (T' := T25) (g' := (mkF m 16 #[.val (.ref ob), .val (.int 1), .val (.int pp), .val (.int 1)] [(.int 1), (.ref b)])) (fun t k => XS.iloadN X25.here hx rfl (hb hby d3_15) rfl k) ?_
    obtain ⟨cl26, Ar26, q26, S26, N26, Hs26, G26⟩ := id V_b
    have hin26 : ¬ ((1 : Int32) < 0 ∨ cl26.slots.size ≤ ((1 : Int32)).toNatClampNeg) := inb_of S26 ⟨by decide, by decide⟩
    have hat26 : cl26.slots[((1 : Int32)).toNatClampNeg]? = some (.ref y1) := Hs26.at hin26 rfl
    refine own_by (T' := T25) (g' := (mkF m 17 #[.val (.ref ob), .val (.int 1), .val (.int pp), .val (.int 1)] [(.ref y1)])) (fun t k => X25.aaload hx (j := (1 : Int32)) (v := (.ref y1)) (by rw [e25]; exact Ar26.1) (State.isArrayOf_alike hZ.alike Ar26.2.1) rfl Ar26.2.2 hin26 hat26 (g := (mkF m 16 #[.val (.ref ob), .val (.int 1), .val (.int pp), .val (.int 1)] [(.int 1), (.ref b)])) rfl rfl (hb hby d3_16) _ k) ?_
    refine own_by (T' := T25) (g' := (mkF m 18 #[.val (.ref ob), .val (.int 1), .val (.int pp), .val (.int 1)] [(.int 1), (.ref y1)])) (fun t k => XS.iloadN X25.here hx rfl (hb hby d3_17) rfl k) ?_
    refine own_by (T' := T25) (g' := (mkF m 19 #[.val (.ref ob), .val (.int 1), .val (.int pp), .val (.int 1)] [(.int pp), (.int 1), (.ref y1)])) (fun t k => XS.iloadN X25.here hx rfl (hb hby d3_18) rfl k) ?_
    refine own_by (T' := T25) (g' := (mkF m 21 #[.val (.ref ob), .val (.int 1), .val (.int pp), .val (.int 1)] [(.int 8), (.int pp), (.int 1), (.ref y1)])) (fun t k => XS.bipush X25.here hx rfl (hb hby d3_19) k) ?_
    refine own_by (T' := T25) (g' := (mkF m 22 #[.val (.ref ob), .val (.int 1), .val (.int pp), .val (.int 1)] [(.int 1), (.int 8), (.int pp), (.int 1), (.ref y1)])) (fun t k => XS.iloadN X25.here hx rfl (hb hby d3_21) rfl k) ?_
    refine own_by (T' := T25) (g' := (mkF m 23 #[.val (.ref ob), .val (.int 1), .val (.int pp), .val (.int 1)] [(.int 8), (.int pp), (.int 1), (.ref y1)])) (fun t k => XS.imul X25.here hx rfl (hb hby d3_22) rfl k) ?_
    refine own_by (T' := T25) (g' := (mkF m 24 #[.val (.ref ob), .val (.int 1), .val (.int pp), .val (.int 1)] [(.int ((pp.toUInt32 >>> ((8 : Int32) &&& 31).toUInt32).toInt32)), (.int 1), (.ref y1)])) (fun t k => XS.iushr X25.here hx rfl (hb hby d3_23) rfl k) ?_
    refine own_by (T' := T25) (g' := (mkF m 25 #[.val (.ref ob), .val (.int 1), .val (.int pp), .val (.int 1)] [(.int (((pp.toUInt32 >>> ((8 : Int32) &&& 31).toUInt32).toInt32).toInt8.toInt32)), (.int 1), (.ref y1)])) (fun t k => XS.i2b X25.here hx rfl (hb hby d3_24) rfl k) ?_
    obtain ⟨cl27, Ar27, q27, S27, N27, Hs27, G27⟩ := id V_y1
    have hin27 : ¬ ((1 : Int32) < 0 ∨ cl27.slots.size ≤ ((1 : Int32)).toNatClampNeg) := inb_of S27 ⟨by decide, by decide⟩
    obtain ⟨T27, h27, X27, e27, W27, st27⟩ := stB X25 hx hZ e25 Ar27 (j := (1 : Int32)) hin27 (g := (mkF m 25 #[.val (.ref ob), .val (.int 1), .val (.int pp), .val (.int 1)] [(.int (((pp.toUInt32 >>> ((8 : Int32) &&& 31).toUInt32).toInt32).toInt8.toInt32)), (.int 1), (.ref y1)])) rfl rfl (hb hby d3_25)
    have V_y1_ : Arv Z h27 y1 kc .byte (3 : Int32) [(.int ee10), (.int (nar .byte (((pp.toUInt32 >>> ((8 : Int32) &&& 31).toUInt32).toInt32).toInt8.toInt32))), (.int ee12)] (.int 0) := Arv.set Ar27 q27 S27 N27 Hs27 G27 (fits_nar_byte _) W27 1 rfl (Nat.le_of_ble_eq_true rfl)
    have F_planes_ob := F_planes_ob.other W27 (Or.inl ne_ob_y1)
    have V_b := V_b.other W27 ne_b_y1
    have V_y2 := V_y2.other W27 ne_y1_y2.symm
    have Zle := Nat.le_trans Zle (Keep.of_wr W27).1
    have K_ := K_.wr W27 (Or.inl (List.mem_of_getElem? (i := 1) rfl))
    have V_y0 := V_y0.other W27 ne_y0_y1
    have V_y1 := V_y1_
    have N_ := Fr.snoc X27 N_ g_y1
    refine own_by (T' := T27) (g' := (mkF m 26 #[.val (.ref ob), .val (.int 1), .val (.int pp), .val (.int 1)] [])) (fun t k => st27 t k) ?_
    refine own_by (T' := T27) (g' := (mkF m 29 #[.val (.ref ob), .val (.int 1), .val (.int pp), .val (.int 2)] [])) (fun t k => XS.iinc X27.here hx rfl (hb hby d3_26) rfl (l' := #[.val (.ref ob), .val (.int 1), .val (.int pp), .val (.int 2)]) rfl k) ?_
    refine own_by (T' := T27) (g' := (mkF m 2 #[.val (.ref ob), .val (.int 1), .val (.int pp), .val (.int 2)] [])) (fun t k => XS.goto X27.here hx rfl (pc0 := 29) (pc' := 2) rfl (hb hby d3_29) (by decide) (by decide) k) ?_
    refine own_by (T' := T27) (g' := (mkF m 3 #[.val (.ref ob), .val (.int 1), .val (.int pp), .val (.int 2)] [(.int 2)])) (fun t k => XS.iloadN X27.here hx rfl (hb hby d3_2) rfl k) ?_
    refine own_by (T' := T27) (g' := (mkF m 4 #[.val (.ref ob), .val (.int 1), .val (.int pp), .val (.int 2)] [(.ref ob), (.int 2)])) (fun t k => XS.aloadN X27.here hx rfl (hb hby d3_3) rfl rfl k) ?_
    obtain ⟨T28, X28, e28, st28⟩ := getF X27 hx hZ hown (host := "") (Or.inl (hw _ (own_m 16 rfl))) Via.refl e27 F_planes_ob (g := (mkF m 4 #[.val (.ref ob), .val (.int 1), .val (.int pp), .val (.int 2)] [(.ref ob), (.int 2)])) rfl rfl (hb hby d3_4)
    refine own_by (T' := T28) (g' := (mkF m 7 #[.val (.ref ob), .val (.int 1), .val (.int pp), .val (.int 2)] [(.ref b), (.int 2)])) (fun t k => st28 t k) ?_
    obtain ⟨cl29, Ar29, -, S29, N29, -, -⟩ := id V_b
    have st29 : ∀ t, Steps p.tables e below (T28.setTop (mkF m 8 #[.val (.ref ob), .val (.int 1), .val (.int pp), .val (.int 2)] [(.int 3), (.int 2)])) t → Steps p.tables e below (T28.setTop (mkF m 7 #[.val (.ref ob), .val (.int 1), .val (.int pp), .val (.int 2)] [(.ref b), (.int 2)])) t := fun t k => X28.arraylength hx (by rw [e28]; exact Ar29.1) (State.isArrayOf_alike hZ.alike Ar29.2.1) (g := (mkF m 7 #[.val (.ref ob), .val (.int 1), .val (.int pp), .val (.int 2)] [(.ref b), (.int 2)])) rfl rfl (hb hby d3_7) _ (by rw [len_of S29 N29]; exact k)
    refine own_by (T' := T28) (g' := (mkF m 8 #[.val (.ref ob), .val (.int 1), .val (.int pp), .val (.int 2)] [(.int 3), (.int 2)])) (fun t k => st29 t k) ?_
    refine own_by (T' := T28) (g' := (mkF m 11 #[.val (.ref ob), .val (.int 1), .val (.int pp), .val (.int 2)] [])) (fun t k => XS.icmpNo X28.here hx rfl (hb hby d3_8) rfl (tlt (by decide)).2.1 k) ?_
    refine own_by (T' := T28) (g' := (mkF m 12 #[.val (.ref ob), .val (.int 1), .val (.int pp), .val (.int 2)] [(.ref ob)])) (fun t k => XS.aloadN X28.here hx rfl (hb hby d3_11) rfl rfl k) ?_
    obtain ⟨T30, X30, e30, st30⟩ := getF X28 hx hZ hown (host := "") (Or.inl (hw _ (own_m 16 rfl))) Via.refl e28 F_planes_ob (g := (mkF m 12 #[.val (.ref ob), .val (.int 1), .val (.int pp), .val (.int 2)] [(.ref ob)])) rfl rfl (hb hby d3_12)
    refine own_by (T' := T30) (g' := (mkF m 15 #[.val (.ref ob), .val (.int 1), .val (.int pp), .val (.int 2)] [(.ref b)])) (fun t k => st30 t k) ?_
    refine own_by (T' := T30) (g' := (mkF m 16 #[.val (.ref ob), .val (.int 1), .val (.int pp), .val (.int 2)] [(.int 2), (.ref b)])) (fun t k => XS.iloadN X30.here hx rfl (hb hby d3_15) rfl k) ?_
    obtain ⟨cl31, Ar31, q31, S31, N31, Hs31, G31⟩ := id V_b
    have hin31 : ¬ ((2 : Int32) < 0 ∨ cl31.slots.size ≤ ((2 : Int32)).toNatClampNeg) := inb_of S31 ⟨by decide, by decide⟩
    have hat31 : cl31.slots[((2 : Int32)).toNatClampNeg]? = some (.ref y2) := Hs31.at hin31 rfl
    refine own_by (T' := T30) (g' := (mkF m 17 #[.val (.ref ob), .val (.int 1), .val (.int pp), .val (.int 2)] [(.ref y2)])) (fun t k => X30.aaload hx (j := (2 : Int32)) (v := (.ref y2)) (by rw [e30]; exact Ar31.1) (State.isArrayOf_alike hZ.alike Ar31.2.1) rfl Ar31.2.2 hin31 hat31 (g := (mkF m 16 #[.val (.ref ob), .val (.int 1), .val (.int pp), .val (.int 2)] [(.int 2), (.ref b)])) rfl rfl (hb hby d3_16) _ k) ?_
    refine own_by (T' := T30) (g' := (mkF m 18 #[.val (.ref ob), .val (.int 1), .val (.int pp), .val (.int 2)] [(.int 1), (.ref y2)])) (fun t k => XS.iloadN X30.here hx rfl (hb hby d3_17) rfl k) ?_
    refine own_by (T' := T30) (g' := (mkF m 19 #[.val (.ref ob), .val (.int 1), .val (.int pp), .val (.int 2)] [(.int pp), (.int 1), (.ref y2)])) (fun t k => XS.iloadN X30.here hx rfl (hb hby d3_18) rfl k) ?_
    refine own_by (T' := T30) (g' := (mkF m 21 #[.val (.ref ob), .val (.int 1), .val (.int pp), .val (.int 2)] [(.int 8), (.int pp), (.int 1), (.ref y2)])) (fun t k => XS.bipush X30.here hx rfl (hb hby d3_19) k) ?_
    refine own_by (T' := T30) (g' := (mkF m 22 #[.val (.ref ob), .val (.int 1), .val (.int pp), .val (.int 2)] [(.int 2), (.int 8), (.int pp), (.int 1), (.ref y2)])) (fun t k => XS.iloadN X30.here hx rfl (hb hby d3_21) rfl k) ?_
    refine own_by (T' := T30) (g' := (mkF m 23 #[.val (.ref ob), .val (.int 1), .val (.int pp), .val (.int 2)] [(.int 16), (.int pp), (.int 1), (.ref y2)])) (fun t k => XS.imul X30.here hx rfl (hb hby d3_22) rfl k) ?_
    refine own_by (T' := T30) (g' := (mkF m 24 #[.val (.ref ob), .val (.int 1), .val (.int pp), .val (.int 2)] [(.int ((pp.toUInt32 >>> ((16 : Int32) &&& 31).toUInt32).toInt32)), (.int 1), (.ref y2)])) (fun t k => XS.iushr X30.here hx rfl (hb hby d3_23) rfl k) ?_
    refine own_by (T' := T30) (g' := (mkF m 25 #[.val (.ref ob), .val (.int 1), .val (.int pp), .val (.int 2)] [(.int (((pp.toUInt32 >>> ((16 : Int32) &&& 31).toUInt32).toInt32).toInt8.toInt32)), (.int 1), (.ref y2)])) (fun t k => XS.i2b X30.here hx rfl (hb hby d3_24) rfl k) ?_
    obtain ⟨cl32, Ar32, q32, S32, N32, Hs32, G32⟩ := id V_y2
    have hin32 : ¬ ((1 : Int32) < 0 ∨ cl32.slots.size ≤ ((1 : Int32)).toNatClampNeg) := inb_of S32 ⟨by decide, by decide⟩
    obtain ⟨T32, h32, X32, e32, W32, st32⟩ := stB X30 hx hZ e30 Ar32 (j := (1 : Int32)) hin32 (g := (mkF m 25 #[.val (.ref ob), .val (.int 1), .val (.int pp), .val (.int 2)] [(.int (((pp.toUInt32 >>> ((16 : Int32) &&& 31).toUInt32).toInt32).toInt8.toInt32)), (.int 1), (.ref y2)])) rfl rfl (hb hby d3_25)
    have V_y2_ : Arv Z h32 y2 kc .byte (3 : Int32) [(.int ee20), (.int (nar .byte (((pp.toUInt32 >>> ((16 : Int32) &&& 31).toUInt32).toInt32).toInt8.toInt32))), (.int ee22)] (.int 0) := Arv.set Ar32 q32 S32 N32 Hs32 G32 (fits_nar_byte _) W32 1 rfl (Nat.le_of_ble_eq_true rfl)
    have F_planes_ob := F_planes_ob.other W32 (Or.inl ne_ob_y2)
    have V_b := V_b.other W32 ne_b_y2
    have Zle := Nat.le_trans Zle (Keep.of_wr W32).1
    have K_ := K_.wr W32 (Or.inl (List.mem_of_getElem? (i := 2) rfl))
    have V_y0 := V_y0.other W32 ne_y0_y2
    have V_y1 := V_y1.other W32 ne_y1_y2
    have V_y2 := V_y2_
    have N_ := Fr.snoc X32 N_ g_y2
    refine own_by (T' := T32) (g' := (mkF m 26 #[.val (.ref ob), .val (.int 1), .val (.int pp), .val (.int 2)] [])) (fun t k => st32 t k) ?_
    refine own_by (T' := T32) (g' := (mkF m 29 #[.val (.ref ob), .val (.int 1), .val (.int pp), .val (.int 3)] [])) (fun t k => XS.iinc X32.here hx rfl (hb hby d3_26) rfl (l' := #[.val (.ref ob), .val (.int 1), .val (.int pp), .val (.int 3)]) rfl k) ?_
    refine own_by (T' := T32) (g' := (mkF m 2 #[.val (.ref ob), .val (.int 1), .val (.int pp), .val (.int 3)] [])) (fun t k => XS.goto X32.here hx rfl (pc0 := 29) (pc' := 2) rfl (hb hby d3_29) (by decide) (by decide) k) ?_
    refine own_by (T' := T32) (g' := (mkF m 3 #[.val (.ref ob), .val (.int 1), .val (.int pp), .val (.int 3)] [(.int 3)])) (fun t k => XS.iloadN X32.here hx rfl (hb hby d3_2) rfl k) ?_
    refine own_by (T' := T32) (g' := (mkF m 4 #[.val (.ref ob), .val (.int 1), .val (.int pp), .val (.int 3)] [(.ref ob), (.int 3)])) (fun t k => XS.aloadN X32.here hx rfl (hb hby d3_3) rfl rfl k) ?_
    obtain ⟨T33, X33, e33, st33⟩ := getF X32 hx hZ hown (host := "") (Or.inl (hw _ (own_m 16 rfl))) Via.refl e32 F_planes_ob (g := (mkF m 4 #[.val (.ref ob), .val (.int 1), .val (.int pp), .val (.int 3)] [(.ref ob), (.int 3)])) rfl rfl (hb hby d3_4)
    refine own_by (T' := T33) (g' := (mkF m 7 #[.val (.ref ob), .val (.int 1), .val (.int pp), .val (.int 3)] [(.ref b), (.int 3)])) (fun t k => st33 t k) ?_
    obtain ⟨cl34, Ar34, -, S34, N34, -, -⟩ := id V_b
    have st34 : ∀ t, Steps p.tables e below (T33.setTop (mkF m 8 #[.val (.ref ob), .val (.int 1), .val (.int pp), .val (.int 3)] [(.int 3), (.int 3)])) t → Steps p.tables e below (T33.setTop (mkF m 7 #[.val (.ref ob), .val (.int 1), .val (.int pp), .val (.int 3)] [(.ref b), (.int 3)])) t := fun t k => X33.arraylength hx (by rw [e33]; exact Ar34.1) (State.isArrayOf_alike hZ.alike Ar34.2.1) (g := (mkF m 7 #[.val (.ref ob), .val (.int 1), .val (.int pp), .val (.int 3)] [(.ref b), (.int 3)])) rfl rfl (hb hby d3_7) _ (by rw [len_of S34 N34]; exact k)
    refine own_by (T' := T33) (g' := (mkF m 8 #[.val (.ref ob), .val (.int 1), .val (.int pp), .val (.int 3)] [(.int 3), (.int 3)])) (fun t k => st34 t k) ?_
    refine own_by (T' := T33) (g' := (mkF m 32 #[.val (.ref ob), .val (.int 1), .val (.int pp), .val (.int 3)] [])) (fun t k => XS.icmpYes X33.here hx rfl (pc0 := 8) (pc' := 32) rfl (hb hby d3_8) rfl (flt (by decide)).2.1 (by decide) (by decide) k) ?_
    exact own_retV X33 hx Bd.notSynchronized Bd.returns (hb hby d3_32) (by decide) (by decide) (by rw [e33]; exact ⟨rfl, N_, K_, V_b, V_y0, V_y1, V_y2⟩)
  · refine own_by (T' := s₁) (g' := (mkF m 1 #[.val (.ref ob), .val (.int 2), .val (.int pp), .unset] [(.int 0)])) (fun t k => XS.iconst X0.here hx rfl (hb hby d3_0) k) ?_
    refine own_by (T' := s₁) (g' := (mkF m 2 #[.val (.ref ob), .val (.int 2), .val (.int pp), .val (.int 0)] [])) (fun t k => XS.istoreN X0.here hx rfl (hb hby d3_1) rfl (l' := #[.val (.ref ob), .val (.int 2), .val (.int pp), .val (.int 0)]) rfl k) ?_
    refine own_by (T' := s₁) (g' := (mkF m 3 #[.val (.ref ob), .val (.int 2), .val (.int pp), .val (.int 0)] [(.int 0)])) (fun t k => XS.iloadN X0.here hx rfl (hb hby d3_2) rfl k) ?_
    refine own_by (T' := s₁) (g' := (mkF m 4 #[.val (.ref ob), .val (.int 2), .val (.int pp), .val (.int 0)] [(.ref ob), (.int 0)])) (fun t k => XS.aloadN X0.here hx rfl (hb hby d3_3) rfl rfl k) ?_
    obtain ⟨T35, X35, e35, st35⟩ := getF X0 hx hZ hown (host := "") (Or.inl (hw _ (own_m 16 rfl))) Via.refl e0 F_planes_ob (g := (mkF m 4 #[.val (.ref ob), .val (.int 2), .val (.int pp), .val (.int 0)] [(.ref ob), (.int 0)])) rfl rfl (hb hby d3_4)
    refine own_by (T' := T35) (g' := (mkF m 7 #[.val (.ref ob), .val (.int 2), .val (.int pp), .val (.int 0)] [(.ref b), (.int 0)])) (fun t k => st35 t k) ?_
    obtain ⟨cl36, Ar36, -, S36, N36, -, -⟩ := id V_b
    have st36 : ∀ t, Steps p.tables e below (T35.setTop (mkF m 8 #[.val (.ref ob), .val (.int 2), .val (.int pp), .val (.int 0)] [(.int 3), (.int 0)])) t → Steps p.tables e below (T35.setTop (mkF m 7 #[.val (.ref ob), .val (.int 2), .val (.int pp), .val (.int 0)] [(.ref b), (.int 0)])) t := fun t k => X35.arraylength hx (by rw [e35]; exact Ar36.1) (State.isArrayOf_alike hZ.alike Ar36.2.1) (g := (mkF m 7 #[.val (.ref ob), .val (.int 2), .val (.int pp), .val (.int 0)] [(.ref b), (.int 0)])) rfl rfl (hb hby d3_7) _ (by rw [len_of S36 N36]; exact k)
    refine own_by (T' := T35) (g' := (mkF m 8 #[.val (.ref ob), .val (.int 2), .val (.int pp), .val (.int 0)] [(.int 3), (.int 0)])) (fun t k => st36 t k) ?_
    refine own_by (T' := T35) (g' := (mkF m 11 #[.val (.ref ob), .val (.int 2), .val (.int pp), .val (.int 0)] [])) (fun t k => XS.icmpNo X35.here hx rfl (hb hby d3_8) rfl (tlt (by decide)).2.1 k) ?_
    refine own_by (T' := T35) (g' := (mkF m 12 #[.val (.ref ob), .val (.int 2), .val (.int pp), .val (.int 0)] [(.ref ob)])) (fun t k => XS.aloadN X35.here hx rfl (hb hby d3_11) rfl rfl k) ?_
    obtain ⟨T37, X37, e37, st37⟩ := getF X35 hx hZ hown (host := "") (Or.inl (hw _ (own_m 16 rfl))) Via.refl e35 F_planes_ob (g := (mkF m 12 #[.val (.ref ob), .val (.int 2), .val (.int pp), .val (.int 0)] [(.ref ob)])) rfl rfl (hb hby d3_12)
    refine own_by (T' := T37) (g' := (mkF m 15 #[.val (.ref ob), .val (.int 2), .val (.int pp), .val (.int 0)] [(.ref b)])) (fun t k => st37 t k) ?_
    refine own_by (T' := T37) (g' := (mkF m 16 #[.val (.ref ob), .val (.int 2), .val (.int pp), .val (.int 0)] [(.int 0), (.ref b)])) (fun t k => XS.iloadN X37.here hx rfl (hb hby d3_15) rfl k) ?_
    obtain ⟨cl38, Ar38, q38, S38, N38, Hs38, G38⟩ := id V_b
    have hin38 : ¬ ((0 : Int32) < 0 ∨ cl38.slots.size ≤ ((0 : Int32)).toNatClampNeg) := inb_of S38 ⟨by decide, by decide⟩
    have hat38 : cl38.slots[((0 : Int32)).toNatClampNeg]? = some (.ref y0) := Hs38.at hin38 rfl
    refine own_by (T' := T37) (g' := (mkF m 17 #[.val (.ref ob), .val (.int 2), .val (.int pp), .val (.int 0)] [(.ref y0)])) (fun t k => X37.aaload hx (j := (0 : Int32)) (v := (.ref y0)) (by rw [e37]; exact Ar38.1) (State.isArrayOf_alike hZ.alike Ar38.2.1) rfl Ar38.2.2 hin38 hat38 (g := (mkF m 16 #[.val (.ref ob), .val (.int 2), .val (.int pp), .val (.int 0)] [(.int 0), (.ref b)])) rfl rfl (hb hby d3_16) _ k) ?_
    refine own_by (T' := T37) (g' := (mkF m 18 #[.val (.ref ob), .val (.int 2), .val (.int pp), .val (.int 0)] [(.int 2), (.ref y0)])) (fun t k => XS.iloadN X37.here hx rfl (hb hby d3_17) rfl k) ?_
    refine own_by (T' := T37) (g' := (mkF m 19 #[.val (.ref ob), .val (.int 2), .val (.int pp), .val (.int 0)] [(.int pp), (.int 2), (.ref y0)])) (fun t k => XS.iloadN X37.here hx rfl (hb hby d3_18) rfl k) ?_
    refine own_by (T' := T37) (g' := (mkF m 21 #[.val (.ref ob), .val (.int 2), .val (.int pp), .val (.int 0)] [(.int 8), (.int pp), (.int 2), (.ref y0)])) (fun t k => XS.bipush X37.here hx rfl (hb hby d3_19) k) ?_
    refine own_by (T' := T37) (g' := (mkF m 22 #[.val (.ref ob), .val (.int 2), .val (.int pp), .val (.int 0)] [(.int 0), (.int 8), (.int pp), (.int 2), (.ref y0)])) (fun t k => XS.iloadN X37.here hx rfl (hb hby d3_21) rfl k) ?_
    refine own_by (T' := T37) (g' := (mkF m 23 #[.val (.ref ob), .val (.int 2), .val (.int pp), .val (.int 0)] [(.int 0), (.int pp), (.int 2), (.ref y0)])) (fun t k => XS.imul X37.here hx rfl (hb hby d3_22) rfl k) ?_
    refine own_by (T' := T37) (g' := (mkF m 24 #[.val (.ref ob), .val (.int 2), .val (.int pp), .val (.int 0)] [(.int ((pp.toUInt32 >>> ((0 : Int32) &&& 31).toUInt32).toInt32)), (.int 2), (.ref y0)])) (fun t k => XS.iushr X37.here hx rfl (hb hby d3_23) rfl k) ?_
    refine own_by (T' := T37) (g' := (mkF m 25 #[.val (.ref ob), .val (.int 2), .val (.int pp), .val (.int 0)] [(.int (((pp.toUInt32 >>> ((0 : Int32) &&& 31).toUInt32).toInt32).toInt8.toInt32)), (.int 2), (.ref y0)])) (fun t k => XS.i2b X37.here hx rfl (hb hby d3_24) rfl k) ?_
    obtain ⟨cl39, Ar39, q39, S39, N39, Hs39, G39⟩ := id V_y0
    have hin39 : ¬ ((2 : Int32) < 0 ∨ cl39.slots.size ≤ ((2 : Int32)).toNatClampNeg) := inb_of S39 ⟨by decide, by decide⟩
    obtain ⟨T39, h39, X39, e39, W39, st39⟩ := stB X37 hx hZ e37 Ar39 (j := (2 : Int32)) hin39 (g := (mkF m 25 #[.val (.ref ob), .val (.int 2), .val (.int pp), .val (.int 0)] [(.int (((pp.toUInt32 >>> ((0 : Int32) &&& 31).toUInt32).toInt32).toInt8.toInt32)), (.int 2), (.ref y0)])) rfl rfl (hb hby d3_25)
    have V_y0_ : Arv Z h39 y0 kc .byte (3 : Int32) [(.int ee00), (.int ee01), (.int (nar .byte (((pp.toUInt32 >>> ((0 : Int32) &&& 31).toUInt32).toInt32).toInt8.toInt32)))] (.int 0) := Arv.set Ar39 q39 S39 N39 Hs39 G39 (fits_nar_byte _) W39 2 rfl (Nat.le_of_ble_eq_true rfl)
    have F_planes_ob := F_planes_ob.other W39 (Or.inl ne_ob_y0)
    have V_b := V_b.other W39 ne_b_y0
    have V_y1 := V_y1.other W39 ne_y0_y1.symm
    have V_y2 := V_y2.other W39 ne_y0_y2.symm
    have Zle := Nat.le_trans Zle (Keep.of_wr W39).1
    have K_ := K_.wr W39 (Or.inl (List.mem_of_getElem? (i := 0) rfl))
    have V_y0 := V_y0_
    have N_ := Fr.snoc X39 N_ g_y0
    refine own_by (T' := T39) (g' := (mkF m 26 #[.val (.ref ob), .val (.int 2), .val (.int pp), .val (.int 0)] [])) (fun t k => st39 t k) ?_
    refine own_by (T' := T39) (g' := (mkF m 29 #[.val (.ref ob), .val (.int 2), .val (.int pp), .val (.int 1)] [])) (fun t k => XS.iinc X39.here hx rfl (hb hby d3_26) rfl (l' := #[.val (.ref ob), .val (.int 2), .val (.int pp), .val (.int 1)]) rfl k) ?_
    refine own_by (T' := T39) (g' := (mkF m 2 #[.val (.ref ob), .val (.int 2), .val (.int pp), .val (.int 1)] [])) (fun t k => XS.goto X39.here hx rfl (pc0 := 29) (pc' := 2) rfl (hb hby d3_29) (by decide) (by decide) k) ?_
    refine own_by (T' := T39) (g' := (mkF m 3 #[.val (.ref ob), .val (.int 2), .val (.int pp), .val (.int 1)] [(.int 1)])) (fun t k => XS.iloadN X39.here hx rfl (hb hby d3_2) rfl k) ?_
    refine own_by (T' := T39) (g' := (mkF m 4 #[.val (.ref ob), .val (.int 2), .val (.int pp), .val (.int 1)] [(.ref ob), (.int 1)])) (fun t k => XS.aloadN X39.here hx rfl (hb hby d3_3) rfl rfl k) ?_
    obtain ⟨T40, X40, e40, st40⟩ := getF X39 hx hZ hown (host := "") (Or.inl (hw _ (own_m 16 rfl))) Via.refl e39 F_planes_ob (g := (mkF m 4 #[.val (.ref ob), .val (.int 2), .val (.int pp), .val (.int 1)] [(.ref ob), (.int 1)])) rfl rfl (hb hby d3_4)
    refine own_by (T' := T40) (g' := (mkF m 7 #[.val (.ref ob), .val (.int 2), .val (.int pp), .val (.int 1)] [(.ref b), (.int 1)])) (fun t k => st40 t k) ?_
    obtain ⟨cl41, Ar41, -, S41, N41, -, -⟩ := id V_b
    have st41 : ∀ t, Steps p.tables e below (T40.setTop (mkF m 8 #[.val (.ref ob), .val (.int 2), .val (.int pp), .val (.int 1)] [(.int 3), (.int 1)])) t → Steps p.tables e below (T40.setTop (mkF m 7 #[.val (.ref ob), .val (.int 2), .val (.int pp), .val (.int 1)] [(.ref b), (.int 1)])) t := fun t k => X40.arraylength hx (by rw [e40]; exact Ar41.1) (State.isArrayOf_alike hZ.alike Ar41.2.1) (g := (mkF m 7 #[.val (.ref ob), .val (.int 2), .val (.int pp), .val (.int 1)] [(.ref b), (.int 1)])) rfl rfl (hb hby d3_7) _ (by rw [len_of S41 N41]; exact k)
    refine own_by (T' := T40) (g' := (mkF m 8 #[.val (.ref ob), .val (.int 2), .val (.int pp), .val (.int 1)] [(.int 3), (.int 1)])) (fun t k => st41 t k) ?_
    refine own_by (T' := T40) (g' := (mkF m 11 #[.val (.ref ob), .val (.int 2), .val (.int pp), .val (.int 1)] [])) (fun t k => XS.icmpNo X40.here hx rfl (hb hby d3_8) rfl (tlt (by decide)).2.1 k) ?_
    refine own_by (T' := T40) (g' := (mkF m 12 #[.val (.ref ob), .val (.int 2), .val (.int pp), .val (.int 1)] [(.ref ob)])) (fun t k => XS.aloadN X40.here hx rfl (hb hby d3_11) rfl rfl k) ?_
    obtain ⟨T42, X42, e42, st42⟩ := getF X40 hx hZ hown (host := "") (Or.inl (hw _ (own_m 16 rfl))) Via.refl e40 F_planes_ob (g := (mkF m 12 #[.val (.ref ob), .val (.int 2), .val (.int pp), .val (.int 1)] [(.ref ob)])) rfl rfl (hb hby d3_12)
    refine own_by (T' := T42) (g' := (mkF m 15 #[.val (.ref ob), .val (.int 2), .val (.int pp), .val (.int 1)] [(.ref b)])) (fun t k => st42 t k) ?_
    refine own_by (T' := T42) (g' := (mkF m 16 #[.val (.ref ob), .val (.int 2), .val (.int pp), .val (.int 1)] [(.int 1), (.ref b)])) (fun t k => XS.iloadN X42.here hx rfl (hb hby d3_15) rfl k) ?_
    obtain ⟨cl43, Ar43, q43, S43, N43, Hs43, G43⟩ := id V_b
    have hin43 : ¬ ((1 : Int32) < 0 ∨ cl43.slots.size ≤ ((1 : Int32)).toNatClampNeg) := inb_of S43 ⟨by decide, by decide⟩
    have hat43 : cl43.slots[((1 : Int32)).toNatClampNeg]? = some (.ref y1) := Hs43.at hin43 rfl
    refine own_by (T' := T42) (g' := (mkF m 17 #[.val (.ref ob), .val (.int 2), .val (.int pp), .val (.int 1)] [(.ref y1)])) (fun t k => X42.aaload hx (j := (1 : Int32)) (v := (.ref y1)) (by rw [e42]; exact Ar43.1) (State.isArrayOf_alike hZ.alike Ar43.2.1) rfl Ar43.2.2 hin43 hat43 (g := (mkF m 16 #[.val (.ref ob), .val (.int 2), .val (.int pp), .val (.int 1)] [(.int 1), (.ref b)])) rfl rfl (hb hby d3_16) _ k) ?_
    refine own_by (T' := T42) (g' := (mkF m 18 #[.val (.ref ob), .val (.int 2), .val (.int pp), .val (.int 1)] [(.int 2), (.ref y1)])) (fun t k => XS.iloadN X42.here hx rfl (hb hby d3_17) rfl k) ?_
    refine own_by (T' := T42) (g' := (mkF m 19 #[.val (.ref ob), .val (.int 2), .val (.int pp), .val (.int 1)] [(.int pp), (.int 2), (.ref y1)])) (fun t k => XS.iloadN X42.here hx rfl (hb hby d3_18) rfl k) ?_
    refine own_by (T' := T42) (g' := (mkF m 21 #[.val (.ref ob), .val (.int 2), .val (.int pp), .val (.int 1)] [(.int 8), (.int pp), (.int 2), (.ref y1)])) (fun t k => XS.bipush X42.here hx rfl (hb hby d3_19) k) ?_
    refine own_by (T' := T42) (g' := (mkF m 22 #[.val (.ref ob), .val (.int 2), .val (.int pp), .val (.int 1)] [(.int 1), (.int 8), (.int pp), (.int 2), (.ref y1)])) (fun t k => XS.iloadN X42.here hx rfl (hb hby d3_21) rfl k) ?_
    refine own_by (T' := T42) (g' := (mkF m 23 #[.val (.ref ob), .val (.int 2), .val (.int pp), .val (.int 1)] [(.int 8), (.int pp), (.int 2), (.ref y1)])) (fun t k => XS.imul X42.here hx rfl (hb hby d3_22) rfl k) ?_
    refine own_by (T' := T42) (g' := (mkF m 24 #[.val (.ref ob), .val (.int 2), .val (.int pp), .val (.int 1)] [(.int ((pp.toUInt32 >>> ((8 : Int32) &&& 31).toUInt32).toInt32)), (.int 2), (.ref y1)])) (fun t k => XS.iushr X42.here hx rfl (hb hby d3_23) rfl k) ?_
    refine own_by (T' := T42) (g' := (mkF m 25 #[.val (.ref ob), .val (.int 2), .val (.int pp), .val (.int 1)] [(.int (((pp.toUInt32 >>> ((8 : Int32) &&& 31).toUInt32).toInt32).toInt8.toInt32)), (.int 2), (.ref y1)])) (fun t k => XS.i2b X42.here hx rfl (hb hby d3_24) rfl k) ?_
    obtain ⟨cl44, Ar44, q44, S44, N44, Hs44, G44⟩ := id V_y1
    have hin44 : ¬ ((2 : Int32) < 0 ∨ cl44.slots.size ≤ ((2 : Int32)).toNatClampNeg) := inb_of S44 ⟨by decide, by decide⟩
    obtain ⟨T44, h44, X44, e44, W44, st44⟩ := stB X42 hx hZ e42 Ar44 (j := (2 : Int32)) hin44 (g := (mkF m 25 #[.val (.ref ob), .val (.int 2), .val (.int pp), .val (.int 1)] [(.int (((pp.toUInt32 >>> ((8 : Int32) &&& 31).toUInt32).toInt32).toInt8.toInt32)), (.int 2), (.ref y1)])) rfl rfl (hb hby d3_25)
    have V_y1_ : Arv Z h44 y1 kc .byte (3 : Int32) [(.int ee10), (.int ee11), (.int (nar .byte (((pp.toUInt32 >>> ((8 : Int32) &&& 31).toUInt32).toInt32).toInt8.toInt32)))] (.int 0) := Arv.set Ar44 q44 S44 N44 Hs44 G44 (fits_nar_byte _) W44 2 rfl (Nat.le_of_ble_eq_true rfl)
    have F_planes_ob := F_planes_ob.other W44 (Or.inl ne_ob_y1)
    have V_b := V_b.other W44 ne_b_y1
    have V_y2 := V_y2.other W44 ne_y1_y2.symm
    have Zle := Nat.le_trans Zle (Keep.of_wr W44).1
    have K_ := K_.wr W44 (Or.inl (List.mem_of_getElem? (i := 1) rfl))
    have V_y0 := V_y0.other W44 ne_y0_y1
    have V_y1 := V_y1_
    have N_ := Fr.snoc X44 N_ g_y1
    refine own_by (T' := T44) (g' := (mkF m 26 #[.val (.ref ob), .val (.int 2), .val (.int pp), .val (.int 1)] [])) (fun t k => st44 t k) ?_
    refine own_by (T' := T44) (g' := (mkF m 29 #[.val (.ref ob), .val (.int 2), .val (.int pp), .val (.int 2)] [])) (fun t k => XS.iinc X44.here hx rfl (hb hby d3_26) rfl (l' := #[.val (.ref ob), .val (.int 2), .val (.int pp), .val (.int 2)]) rfl k) ?_
    refine own_by (T' := T44) (g' := (mkF m 2 #[.val (.ref ob), .val (.int 2), .val (.int pp), .val (.int 2)] [])) (fun t k => XS.goto X44.here hx rfl (pc0 := 29) (pc' := 2) rfl (hb hby d3_29) (by decide) (by decide) k) ?_
    refine own_by (T' := T44) (g' := (mkF m 3 #[.val (.ref ob), .val (.int 2), .val (.int pp), .val (.int 2)] [(.int 2)])) (fun t k => XS.iloadN X44.here hx rfl (hb hby d3_2) rfl k) ?_
    refine own_by (T' := T44) (g' := (mkF m 4 #[.val (.ref ob), .val (.int 2), .val (.int pp), .val (.int 2)] [(.ref ob), (.int 2)])) (fun t k => XS.aloadN X44.here hx rfl (hb hby d3_3) rfl rfl k) ?_
    obtain ⟨T45, X45, e45, st45⟩ := getF X44 hx hZ hown (host := "") (Or.inl (hw _ (own_m 16 rfl))) Via.refl e44 F_planes_ob (g := (mkF m 4 #[.val (.ref ob), .val (.int 2), .val (.int pp), .val (.int 2)] [(.ref ob), (.int 2)])) rfl rfl (hb hby d3_4)
    refine own_by (T' := T45) (g' := (mkF m 7 #[.val (.ref ob), .val (.int 2), .val (.int pp), .val (.int 2)] [(.ref b), (.int 2)])) (fun t k => st45 t k) ?_
    obtain ⟨cl46, Ar46, -, S46, N46, -, -⟩ := id V_b
    have st46 : ∀ t, Steps p.tables e below (T45.setTop (mkF m 8 #[.val (.ref ob), .val (.int 2), .val (.int pp), .val (.int 2)] [(.int 3), (.int 2)])) t → Steps p.tables e below (T45.setTop (mkF m 7 #[.val (.ref ob), .val (.int 2), .val (.int pp), .val (.int 2)] [(.ref b), (.int 2)])) t := fun t k => X45.arraylength hx (by rw [e45]; exact Ar46.1) (State.isArrayOf_alike hZ.alike Ar46.2.1) (g := (mkF m 7 #[.val (.ref ob), .val (.int 2), .val (.int pp), .val (.int 2)] [(.ref b), (.int 2)])) rfl rfl (hb hby d3_7) _ (by rw [len_of S46 N46]; exact k)
    refine own_by (T' := T45) (g' := (mkF m 8 #[.val (.ref ob), .val (.int 2), .val (.int pp), .val (.int 2)] [(.int 3), (.int 2)])) (fun t k => st46 t k) ?_
    refine own_by (T' := T45) (g' := (mkF m 11 #[.val (.ref ob), .val (.int 2), .val (.int pp), .val (.int 2)] [])) (fun t k => XS.icmpNo X45.here hx rfl (hb hby d3_8) rfl (tlt (by decide)).2.1 k) ?_
    refine own_by (T' := T45) (g' := (mkF m 12 #[.val (.ref ob), .val (.int 2), .val (.int pp), .val (.int 2)] [(.ref ob)])) (fun t k => XS.aloadN X45.here hx rfl (hb hby d3_11) rfl rfl k) ?_
    obtain ⟨T47, X47, e47, st47⟩ := getF X45 hx hZ hown (host := "") (Or.inl (hw _ (own_m 16 rfl))) Via.refl e45 F_planes_ob (g := (mkF m 12 #[.val (.ref ob), .val (.int 2), .val (.int pp), .val (.int 2)] [(.ref ob)])) rfl rfl (hb hby d3_12)
    refine own_by (T' := T47) (g' := (mkF m 15 #[.val (.ref ob), .val (.int 2), .val (.int pp), .val (.int 2)] [(.ref b)])) (fun t k => st47 t k) ?_
    refine own_by (T' := T47) (g' := (mkF m 16 #[.val (.ref ob), .val (.int 2), .val (.int pp), .val (.int 2)] [(.int 2), (.ref b)])) (fun t k => XS.iloadN X47.here hx rfl (hb hby d3_15) rfl k) ?_
    obtain ⟨cl48, Ar48, q48, S48, N48, Hs48, G48⟩ := id V_b
    have hin48 : ¬ ((2 : Int32) < 0 ∨ cl48.slots.size ≤ ((2 : Int32)).toNatClampNeg) := inb_of S48 ⟨by decide, by decide⟩
    have hat48 : cl48.slots[((2 : Int32)).toNatClampNeg]? = some (.ref y2) := Hs48.at hin48 rfl
    refine own_by (T' := T47) (g' := (mkF m 17 #[.val (.ref ob), .val (.int 2), .val (.int pp), .val (.int 2)] [(.ref y2)])) (fun t k => X47.aaload hx (j := (2 : Int32)) (v := (.ref y2)) (by rw [e47]; exact Ar48.1) (State.isArrayOf_alike hZ.alike Ar48.2.1) rfl Ar48.2.2 hin48 hat48 (g := (mkF m 16 #[.val (.ref ob), .val (.int 2), .val (.int pp), .val (.int 2)] [(.int 2), (.ref b)])) rfl rfl (hb hby d3_16) _ k) ?_
    refine own_by (T' := T47) (g' := (mkF m 18 #[.val (.ref ob), .val (.int 2), .val (.int pp), .val (.int 2)] [(.int 2), (.ref y2)])) (fun t k => XS.iloadN X47.here hx rfl (hb hby d3_17) rfl k) ?_
    refine own_by (T' := T47) (g' := (mkF m 19 #[.val (.ref ob), .val (.int 2), .val (.int pp), .val (.int 2)] [(.int pp), (.int 2), (.ref y2)])) (fun t k => XS.iloadN X47.here hx rfl (hb hby d3_18) rfl k) ?_
    refine own_by (T' := T47) (g' := (mkF m 21 #[.val (.ref ob), .val (.int 2), .val (.int pp), .val (.int 2)] [(.int 8), (.int pp), (.int 2), (.ref y2)])) (fun t k => XS.bipush X47.here hx rfl (hb hby d3_19) k) ?_
    refine own_by (T' := T47) (g' := (mkF m 22 #[.val (.ref ob), .val (.int 2), .val (.int pp), .val (.int 2)] [(.int 2), (.int 8), (.int pp), (.int 2), (.ref y2)])) (fun t k => XS.iloadN X47.here hx rfl (hb hby d3_21) rfl k) ?_
    refine own_by (T' := T47) (g' := (mkF m 23 #[.val (.ref ob), .val (.int 2), .val (.int pp), .val (.int 2)] [(.int 16), (.int pp), (.int 2), (.ref y2)])) (fun t k => XS.imul X47.here hx rfl (hb hby d3_22) rfl k) ?_
    refine own_by (T' := T47) (g' := (mkF m 24 #[.val (.ref ob), .val (.int 2), .val (.int pp), .val (.int 2)] [(.int ((pp.toUInt32 >>> ((16 : Int32) &&& 31).toUInt32).toInt32)), (.int 2), (.ref y2)])) (fun t k => XS.iushr X47.here hx rfl (hb hby d3_23) rfl k) ?_
    refine own_by (T' := T47) (g' := (mkF m 25 #[.val (.ref ob), .val (.int 2), .val (.int pp), .val (.int 2)] [(.int (((pp.toUInt32 >>> ((16 : Int32) &&& 31).toUInt32).toInt32).toInt8.toInt32)), (.int 2), (.ref y2)])) (fun t k => XS.i2b X47.here hx rfl (hb hby d3_24) rfl k) ?_
    obtain ⟨cl49, Ar49, q49, S49, N49, Hs49, G49⟩ := id V_y2
    have hin49 : ¬ ((2 : Int32) < 0 ∨ cl49.slots.size ≤ ((2 : Int32)).toNatClampNeg) := inb_of S49 ⟨by decide, by decide⟩
    obtain ⟨T49, h49, X49, e49, W49, st49⟩ := stB X47 hx hZ e47 Ar49 (j := (2 : Int32)) hin49 (g := (mkF m 25 #[.val (.ref ob), .val (.int 2), .val (.int pp), .val (.int 2)] [(.int (((pp.toUInt32 >>> ((16 : Int32) &&& 31).toUInt32).toInt32).toInt8.toInt32)), (.int 2), (.ref y2)])) rfl rfl (hb hby d3_25)
    have V_y2_ : Arv Z h49 y2 kc .byte (3 : Int32) [(.int ee20), (.int ee21), (.int (nar .byte (((pp.toUInt32 >>> ((16 : Int32) &&& 31).toUInt32).toInt32).toInt8.toInt32)))] (.int 0) := Arv.set Ar49 q49 S49 N49 Hs49 G49 (fits_nar_byte _) W49 2 rfl (Nat.le_of_ble_eq_true rfl)
    have F_planes_ob := F_planes_ob.other W49 (Or.inl ne_ob_y2)
    have V_b := V_b.other W49 ne_b_y2
    have Zle := Nat.le_trans Zle (Keep.of_wr W49).1
    have K_ := K_.wr W49 (Or.inl (List.mem_of_getElem? (i := 2) rfl))
    have V_y0 := V_y0.other W49 ne_y0_y2
    have V_y1 := V_y1.other W49 ne_y1_y2
    have V_y2 := V_y2_
    have N_ := Fr.snoc X49 N_ g_y2
    refine own_by (T' := T49) (g' := (mkF m 26 #[.val (.ref ob), .val (.int 2), .val (.int pp), .val (.int 2)] [])) (fun t k => st49 t k) ?_
    refine own_by (T' := T49) (g' := (mkF m 29 #[.val (.ref ob), .val (.int 2), .val (.int pp), .val (.int 3)] [])) (fun t k => XS.iinc X49.here hx rfl (hb hby d3_26) rfl (l' := #[.val (.ref ob), .val (.int 2), .val (.int pp), .val (.int 3)]) rfl k) ?_
    refine own_by (T' := T49) (g' := (mkF m 2 #[.val (.ref ob), .val (.int 2), .val (.int pp), .val (.int 3)] [])) (fun t k => XS.goto X49.here hx rfl (pc0 := 29) (pc' := 2) rfl (hb hby d3_29) (by decide) (by decide) k) ?_
    refine own_by (T' := T49) (g' := (mkF m 3 #[.val (.ref ob), .val (.int 2), .val (.int pp), .val (.int 3)] [(.int 3)])) (fun t k => XS.iloadN X49.here hx rfl (hb hby d3_2) rfl k) ?_
    refine own_by (T' := T49) (g' := (mkF m 4 #[.val (.ref ob), .val (.int 2), .val (.int pp), .val (.int 3)] [(.ref ob), (.int 3)])) (fun t k => XS.aloadN X49.here hx rfl (hb hby d3_3) rfl rfl k) ?_
    obtain ⟨T50, X50, e50, st50⟩ := getF X49 hx hZ hown (host := "") (Or.inl (hw _ (own_m 16 rfl))) Via.refl e49 F_planes_ob (g := (mkF m 4 #[.val (.ref ob), .val (.int 2), .val (.int pp), .val (.int 3)] [(.ref ob), (.int 3)])) rfl rfl (hb hby d3_4)
    refine own_by (T' := T50) (g' := (mkF m 7 #[.val (.ref ob), .val (.int 2), .val (.int pp), .val (.int 3)] [(.ref b), (.int 3)])) (fun t k => st50 t k) ?_
    obtain ⟨cl51, Ar51, -, S51, N51, -, -⟩ := id V_b
    have st51 : ∀ t, Steps p.tables e below (T50.setTop (mkF m 8 #[.val (.ref ob), .val (.int 2), .val (.int pp), .val (.int 3)] [(.int 3), (.int 3)])) t → Steps p.tables e below (T50.setTop (mkF m 7 #[.val (.ref ob), .val (.int 2), .val (.int pp), .val (.int 3)] [(.ref b), (.int 3)])) t := fun t k => X50.arraylength hx (by rw [e50]; exact Ar51.1) (State.isArrayOf_alike hZ.alike Ar51.2.1) (g := (mkF m 7 #[.val (.ref ob), .val (.int 2), .val (.int pp), .val (.int 3)] [(.ref b), (.int 3)])) rfl rfl (hb hby d3_7) _ (by rw [len_of S51 N51]; exact k)
    refine own_by (T' := T50) (g' := (mkF m 8 #[.val (.ref ob), .val (.int 2), .val (.int pp), .val (.int 3)] [(.int 3), (.int 3)])) (fun t k => st51 t k) ?_
    refine own_by (T' := T50) (g' := (mkF m 32 #[.val (.ref ob), .val (.int 2), .val (.int pp), .val (.int 3)] [])) (fun t k => XS.icmpYes X50.here hx rfl (pc0 := 8) (pc' := 32) rfl (hb hby d3_8) rfl (flt (by decide)).2.1 (by decide) (by decide) k) ?_
    exact own_retV X50 hx Bd.notSynchronized Bd.returns (hb hby d3_32) (by decide) (by decide) (by rw [e50]; exact ⟨rfl, N_, K_, V_b, V_y0, V_y1, V_y2⟩)

theorem ef_4P3 (m : MethodId) (ob : Addr) (jj : Int32) : entryFrame m #[(.ref ob), (.int jj)] 4 = mkF m 0 #[.val (.ref ob), .val (.int jj), .unset, .unset] [] := by first | (simp [entryFrame, mkF, argsToLocals, Value.category]; done) | rfl
def Q4P3 (Z : State) (ob : Addr) (jj : Int32) (b : Addr) (y0 : Addr) (y1 : Addr) (y2 : Addr) (kb : ClassId) (kc : ClassId) (ee00 : Int32) (ee01 : Int32) (ee02 : Int32) (ee10 : Int32) (ee11 : Int32) (ee12 : Int32) (ee20 : Int32) (ee21 : Int32) (ee22 : Int32) (h0 : Heap) (n0 : Nat) (v : Option Value) (h : Heap) (L : List Loc) : Prop := v = some (.int (own_g3 (own_at jj ee00 ee01 ee02) (own_at jj ee10 ee11 ee12) (own_at jj ee20 ee21 ee22))) ∧ Fr n0 L ∧ h = h0
set_option maxRecDepth 65536 in
set_option maxHeartbeats 40000000 in
theorem rm4P3 (l : Launch) (Z : State) (a0 : Array Value) (hw : ∀ d ∈ tables_1, d.before a0 Z = true) (ws : List Jvm.Cond) (ob : Addr) (jj : Int32) (b : Addr) (y0 : Addr) (y1 : Addr) (y2 : Addr) (kb : ClassId) (kc : ClassId) (ee00 : Int32) (ee01 : Int32) (ee02 : Int32) (ee10 : Int32) (ee11 : Int32) (ee12 : Int32) (ee20 : Int32) (ee21 : Int32) (ee22 : Int32) (h0 : Heap) (n0 : Nat) (Zle : n0 ≤ h0.size) (F_planes_ob : Fld Z h0 ob "com/example/cipherloom/cipherloom/core/Letters" "planes" "[[B" (.ref b)) (V_b : Arv Z h0 b kb (.array .byte) (3 : Int32) [(.ref y0), (.ref y1), (.ref y2)] .null) (V_y0 : Arv Z h0 y0 kc .byte (3 : Int32) [(.int ee00), (.int ee01), (.int ee02)] (.int 0)) (V_y1 : Arv Z h0 y1 kc .byte (3 : Int32) [(.int ee10), (.int ee11), (.int ee12)] (.int 0)) (V_y2 : Arv Z h0 y2 kc .byte (3 : Int32) [(.int ee20), (.int ee21), (.int ee22)] (.int 0)) (hj : jj = 0 ∨ jj = 1 ∨ jj = 2) :
    MetFree l (⟨"com/example/cipherloom/cipherloom/core/Letters", "get", "(I)I"⟩ : MethodName) (head1 (Jvm.Cond.code (⟨"com/example/cipherloom/cipherloom/core/Letters", "get", "(I)I"⟩ : MethodName) prog_45_method_5_code 4 (some .int) :: ws) ({ frames := 0, cells := 0, slots := 0, locals := 0 } : Room)) (fun a U => a = #[(.ref ob), (.int jj)] ∧ Z.Warmed39 U.vm ∧ U.heap = h0) (fun _ _ _ _ _ => True) (fun _ U o U' => ∃ v L, o = .returned v ∧ Q4P3 Z ob jj b y0 y1 y2 kb kc ee00 ee01 ee02 ee10 ee11 ee12 ee20 ee21 ee22 h0 n0 v U'.heap L ∧ FrameEnd U o U' L ({ frames := 0, cells := 0, slots := 0, locals := 0 } : Room).cells ({ frames := 0, cells := 0, slots := 0, locals := 0 } : Room).slots) := by
  refine MetFree.of_bodySF (plainFor_of_name pn_com_example_cipherloom_cipherloom_core_Letters) hisR ?_
  intro p e s m args below meth c s₁ Bd hml0 hP hK
  obtain ⟨rfl, hZ, hh⟩ := hP
  have hx := Bd.exec
  have hby := Bd.bytes
  have hml : c.maxLocals = 4 := hml0
  have hown : s.vm.findClass "com/example/cipherloom/cipherloom/core/Letters" = some m.cls := findClass_of_methodNamed Bd.named
  have hnm := (name_of_methodNamed Bd.named Bd.method).1
  have X0 : Stand p l e ({ frames := 0, cells := 0, slots := 0, locals := 0 } : Room) s m #[(.ref ob), (.int jj)] below meth c s₁ [] 0 0 := Stand.of_body Bd
  have e0 : s₁.heap = h0 := by rw [← hh, Bd.state]; rfl
  have N_ := Fr.nil n0
  show own_Goes p.tables e below s (Q4P3 Z ob jj b y0 y1 y2 kb kc ee00 ee01 ee02 ee10 ee11 ee12 ee20 ee21 ee22 h0 n0) ({ frames := 0, cells := 0, slots := 0, locals := 0 } : Room).cells ({ frames := 0, cells := 0, slots := 0, locals := 0 } : Room).slots s₁ (entryFrame m #[(.ref ob), (.int jj)] 4)
  refine own_by (T' := s₁) (g' := (mkF m 0 #[.val (.ref ob), .val (.int jj), .unset, .unset] [])) (fun t k => castTop (ef_4P3 m ob jj) k) ?_
  rcases hj with rfl | rfl | rfl
  · refine own_by (T' := s₁) (g' := (mkF m 1 #[.val (.ref ob), .val (.int 0), .unset, .unset] [(.int 0)])) (fun t k => XS.iconst X0.here hx rfl (hb hby d4_0) k) ?_
    refine own_by (T' := s₁) (g' := (mkF m 2 #[.val (.ref ob), .val (.int 0), .val (.int 0), .unset] [])) (fun t k => XS.istoreN X0.here hx rfl (hb hby d4_1) rfl (l' := #[.val (.ref ob), .val (.int 0), .val (.int 0), .unset]) rfl k) ?_
    refine own_by (T' := s₁) (g' := (mkF m 3 #[.val (.ref ob), .val (.int 0), .val (.int 0), .unset] [(.ref ob)])) (fun t k => XS.aloadN X0.here hx rfl (hb hby d4_2) rfl rfl k) ?_
    obtain ⟨T1, X1, e1, st1⟩ := getF X0 hx hZ hown (host := "") (Or.inl (hw _ (own_m 16 rfl))) Via.refl e0 F_planes_ob (g := (mkF m 3 #[.val (.ref ob), .val (.int 0), .val (.int 0), .unset] [(.ref ob)])) rfl rfl (hb hby d4_3)
    refine own_by (T' := T1) (g' := (mkF m 6 #[.val (.ref ob), .val (.int 0), .val (.int 0), .unset] [(.ref b)])) (fun t k => st1 t k) ?_
    obtain ⟨cl2, Ar2, -, S2, N2, -, -⟩ := id V_b
    have st2 : ∀ t, Steps p.tables e below (T1.setTop (mkF m 7 #[.val (.ref ob), .val (.int 0), .val (.int 0), .unset] [(.int 3)])) t → Steps p.tables e below (T1.setTop (mkF m 6 #[.val (.ref ob), .val (.int 0), .val (.int 0), .unset] [(.ref b)])) t := fun t k => X1.arraylength hx (by rw [e1]; exact Ar2.1) (State.isArrayOf_alike hZ.alike Ar2.2.1) (g := (mkF m 6 #[.val (.ref ob), .val (.int 0), .val (.int 0), .unset] [(.ref b)])) rfl rfl (hb hby d4_6) _ (by rw [len_of S2 N2]; exact k)
    refine own_by (T' := T1) (g' := (mkF m 7 #[.val (.ref ob), .val (.int 0), .val (.int 0), .unset] [(.int 3)])) (fun t k => st2 t k) ?_
    refine own_by (T' := T1) (g' := (mkF m 8 #[.val (.ref ob), .val (.int 0), .val (.int 0), .unset] [(.int 1), (.int 3)])) (fun t k => XS.iconst X1.here hx rfl (hb hby d4_7) k) ?_
    refine own_by (T' := T1) (g' := (mkF m 9 #[.val (.ref ob), .val (.int 0), .val (.int 0), .unset] [(.int 2)])) (fun t k => XS.isub X1.here hx rfl (hb hby d4_8) rfl k) ?_
    refine own_by (T' := T1) (g' := (mkF m 10 #[.val (.ref ob), .val (.int 0), .val (.int 0), .val (.int 2)] [])) (fun t k => XS.istoreN X1.here hx rfl (hb hby d4_9) rfl (l' := #[.val (.ref ob), .val (.int 0), .val (.int 0), .val (.int 2)]) rfl k) ?_
    refine own_by (T' := T1) (g' := (mkF m 11 #[.val (.ref ob), .val (.int 0), .val (.int 0), .val (.int 2)] [(.int 2)])) (fun t k => XS.iloadN X1.here hx rfl (hb hby d4_10) rfl k) ?_
    refine own_by (T' := T1) (g' := (mkF m 14 #[.val (.ref ob), .val (.int 0), .val (.int 0), .val (.int 2)] [])) (fun t k => XS.ifNo X1.here hx rfl (hb hby d4_11) rfl ((if0 _ _).trans (flt (by decide)).1) k) ?_
    refine own_by (T' := T1) (g' := (mkF m 15 #[.val (.ref ob), .val (.int 0), .val (.int 0), .val (.int 2)] [(.int 0)])) (fun t k => XS.iloadN X1.here hx rfl (hb hby d4_14) rfl k) ?_
    refine own_by (T' := T1) (g' := (mkF m 17 #[.val (.ref ob), .val (.int 0), .val (.int 0), .val (.int 2)] [(.int 8), (.int 0)])) (fun t k => XS.bipush X1.here hx rfl (hb hby d4_15) k) ?_
    refine own_by (T' := T1) (g' := (mkF m 18 #[.val (.ref ob), .val (.int 0), .val (.int 0), .val (.int 2)] [(.int ((0 : Int32) <<< ((8 : Int32) &&& 31)))])) (fun t k => XS.ishl X1.here hx rfl (hb hby d4_17) rfl k) ?_
    refine own_by (T' := T1) (g' := (mkF m 19 #[.val (.ref ob), .val (.int 0), .val (.int 0), .val (.int 2)] [(.ref ob), (.int ((0 : Int32) <<< ((8 : Int32) &&& 31)))])) (fun t k => XS.aloadN X1.here hx rfl (hb hby d4_18) rfl rfl k) ?_
    obtain ⟨T3, X3, e3, st3⟩ := getF X1 hx hZ hown (host := "") (Or.inl (hw _ (own_m 16 rfl))) Via.refl e1 F_planes_ob (g := (mkF m 19 #[.val (.ref ob), .val (.int 0), .val (.int 0), .val (.int 2)] [(.ref ob), (.int ((0 : Int32) <<< ((8 : Int32) &&& 31)))])) rfl rfl (hb hby d4_19)
    refine own_by (T' := T3) (g' := (mkF m 22 #[.val (.ref ob), .val (.int 0), .val (.int 0), .val (.int 2)] [(.ref b), (.int ((0 : Int32) <<< ((8 : Int32) &&& 31)))])) (fun t k => st3 t k) ?_
    refine own_by (T' := T3) (g' := (mkF m 23 #[.val (.ref ob), .val (.int 0), .val (.int 0), .val (.int 2)] [(.int 2), (.ref b), (.int ((0 : Int32) <<< ((8 : Int32) &&& 31)))])) (fun t k => XS.iloadN X3.here hx rfl (hb hby d4_22) rfl k) ?_
    obtain ⟨cl4, Ar4, q4, S4, N4, Hs4, G4⟩ := id V_b
    have hin4 : ¬ ((2 : Int32) < 0 ∨ cl4.slots.size ≤ ((2 : Int32)).toNatClampNeg) := inb_of S4 ⟨by decide, by decide⟩
    have hat4 : cl4.slots[((2 : Int32)).toNatClampNeg]? = some (.ref y2) := Hs4.at hin4 rfl
    refine own_by (T' := T3) (g' := (mkF m 24 #[.val (.ref ob), .val (.int 0), .val (.int 0), .val (.int 2)] [(.ref y2), (.int ((0 : Int32) <<< ((8 : Int32) &&& 31)))])) (fun t k => X3.aaload hx (j := (2 : Int32)) (v := (.ref y2)) (by rw [e3]; exact Ar4.1) (State.isArrayOf_alike hZ.alike Ar4.2.1) rfl Ar4.2.2 hin4 hat4 (g := (mkF m 23 #[.val (.ref ob), .val (.int 0), .val (.int 0), .val (.int 2)] [(.int 2), (.ref b), (.int ((0 : Int32) <<< ((8 : Int32) &&& 31)))])) rfl rfl (hb hby d4_23) _ k) ?_
    refine own_by (T' := T3) (g' := (mkF m 25 #[.val (.ref ob), .val (.int 0), .val (.int 0), .val (.int 2)] [(.int 0), (.ref y2), (.int ((0 : Int32) <<< ((8 : Int32) &&& 31)))])) (fun t k => XS.iloadN X3.here hx rfl (hb hby d4_24) rfl k) ?_
    obtain ⟨cl5, Ar5, q5, S5, N5, Hs5, G5⟩ := id V_y2
    have hin5 : ¬ ((0 : Int32) < 0 ∨ cl5.slots.size ≤ ((0 : Int32)).toNatClampNeg) := inb_of S5 ⟨by decide, by decide⟩
    have hat5 : cl5.slots[((0 : Int32)).toNatClampNeg]? = some (.int ee20) := Hs5.at hin5 rfl
    refine own_by (T' := T3) (g' := (mkF m 26 #[.val (.ref ob), .val (.int 0), .val (.int 0), .val (.int 2)] [(.int ee20), (.int ((0 : Int32) <<< ((8 : Int32) &&& 31)))])) (fun t k => X3.baloadBytes hx (j := (0 : Int32)) (v := (.int ee20)) (by rw [e3]; exact Ar5.1) (State.isArrayOf_alike hZ.alike Ar5.2.1) Ar5.2.2 hin5 hat5 (g := (mkF m 25 #[.val (.ref ob), .val (.int 0), .val (.int 0), .val (.int 2)] [(.int 0), (.ref y2), (.int ((0 : Int32) <<< ((8 : Int32) &&& 31)))])) rfl rfl (hb hby d4_25) _ k) ?_
    refine own_by (T' := T3) (g' := (mkF m 29 #[.val (.ref ob), .val (.int 0), .val (.int 0), .val (.int 2)] [(.int 255), (.int ee20), (.int ((0 : Int32) <<< ((8 : Int32) &&& 31)))])) (fun t k => XS.sipush X3.here hx rfl (hb hby d4_26) k) ?_
    refine own_by (T' := T3) (g' := (mkF m 30 #[.val (.ref ob), .val (.int 0), .val (.int 0), .val (.int 2)] [(.int (ee20 &&& (255 : Int32))), (.int ((0 : Int32) <<< ((8 : Int32) &&& 31)))])) (fun t k => XS.iand X3.here hx rfl (hb hby d4_29) rfl k) ?_
    refine own_by (T' := T3) (g' := (mkF m 31 #[.val (.ref ob), .val (.int 0), .val (.int 0), .val (.int 2)] [(.int (((0 : Int32) <<< ((8 : Int32) &&& 31)) ||| (ee20 &&& (255 : Int32))))])) (fun t k => XS.ior X3.here hx rfl (hb hby d4_30) rfl k) ?_
    refine own_by (T' := T3) (g' := (mkF m 32 #[.val (.ref ob), .val (.int 0), .val (.int (((0 : Int32) <<< ((8 : Int32) &&& 31)) ||| (ee20 &&& (255 : Int32)))), .val (.int 2)] [])) (fun t k => XS.istoreN X3.here hx rfl (hb hby d4_31) rfl (l' := #[.val (.ref ob), .val (.int 0), .val (.int (((0 : Int32) <<< ((8 : Int32) &&& 31)) ||| (ee20 &&& (255 : Int32)))), .val (.int 2)]) rfl k) ?_
    refine own_by (T' := T3) (g' := (mkF m 35 #[.val (.ref ob), .val (.int 0), .val (.int (((0 : Int32) <<< ((8 : Int32) &&& 31)) ||| (ee20 &&& (255 : Int32)))), .val (.int 1)] [])) (fun t k => XS.iinc X3.here hx rfl (hb hby d4_32) rfl (l' := #[.val (.ref ob), .val (.int 0), .val (.int (((0 : Int32) <<< ((8 : Int32) &&& 31)) ||| (ee20 &&& (255 : Int32)))), .val (.int 1)]) rfl k) ?_
    refine own_by (T' := T3) (g' := (mkF m 10 #[.val (.ref ob), .val (.int 0), .val (.int (((0 : Int32) <<< ((8 : Int32) &&& 31)) ||| (ee20 &&& (255 : Int32)))), .val (.int 1)] [])) (fun t k => XS.goto X3.here hx rfl (pc0 := 35) (pc' := 10) rfl (hb hby d4_35) (by decide) (by decide) k) ?_
    refine own_by (T' := T3) (g' := (mkF m 11 #[.val (.ref ob), .val (.int 0), .val (.int (((0 : Int32) <<< ((8 : Int32) &&& 31)) ||| (ee20 &&& (255 : Int32)))), .val (.int 1)] [(.int 1)])) (fun t k => XS.iloadN X3.here hx rfl (hb hby d4_10) rfl k) ?_
    refine own_by (T' := T3) (g' := (mkF m 14 #[.val (.ref ob), .val (.int 0), .val (.int (((0 : Int32) <<< ((8 : Int32) &&& 31)) ||| (ee20 &&& (255 : Int32)))), .val (.int 1)] [])) (fun t k => XS.ifNo X3.here hx rfl (hb hby d4_11) rfl ((if0 _ _).trans (flt (by decide)).1) k) ?_
    refine own_by (T' := T3) (g' := (mkF m 15 #[.val (.ref ob), .val (.int 0), .val (.int (((0 : Int32) <<< ((8 : Int32) &&& 31)) ||| (ee20 &&& (255 : Int32)))), .val (.int 1)] [(.int (((0 : Int32) <<< ((8 : Int32) &&& 31)) ||| (ee20 &&& (255 : Int32))))])) (fun t k => XS.iloadN X3.here hx rfl (hb hby d4_14) rfl k) ?_
    refine own_by (T' := T3) (g' := (mkF m 17 #[.val (.ref ob), .val (.int 0), .val (.int (((0 : Int32) <<< ((8 : Int32) &&& 31)) ||| (ee20 &&& (255 : Int32)))), .val (.int 1)] [(.int 8), (.int (((0 : Int32) <<< ((8 : Int32) &&& 31)) ||| (ee20 &&& (255 : Int32))))])) (fun t k => XS.bipush X3.here hx rfl (hb hby d4_15) k) ?_
    refine own_by (T' := T3) (g' := (mkF m 18 #[.val (.ref ob), .val (.int 0), .val (.int (((0 : Int32) <<< ((8 : Int32) &&& 31)) ||| (ee20 &&& (255 : Int32)))), .val (.int 1)] [(.int ((((0 : Int32) <<< ((8 : Int32) &&& 31)) ||| (ee20 &&& (255 : Int32))) <<< ((8 : Int32) &&& 31)))])) (fun t k => XS.ishl X3.here hx rfl (hb hby d4_17) rfl k) ?_
    refine own_by (T' := T3) (g' := (mkF m 19 #[.val (.ref ob), .val (.int 0), .val (.int (((0 : Int32) <<< ((8 : Int32) &&& 31)) ||| (ee20 &&& (255 : Int32)))), .val (.int 1)] [(.ref ob), (.int ((((0 : Int32) <<< ((8 : Int32) &&& 31)) ||| (ee20 &&& (255 : Int32))) <<< ((8 : Int32) &&& 31)))])) (fun t k => XS.aloadN X3.here hx rfl (hb hby d4_18) rfl rfl k) ?_
    obtain ⟨T6, X6, e6, st6⟩ := getF X3 hx hZ hown (host := "") (Or.inl (hw _ (own_m 16 rfl))) Via.refl e3 F_planes_ob (g := (mkF m 19 #[.val (.ref ob), .val (.int 0), .val (.int (((0 : Int32) <<< ((8 : Int32) &&& 31)) ||| (ee20 &&& (255 : Int32)))), .val (.int 1)] [(.ref ob), (.int ((((0 : Int32) <<< ((8 : Int32) &&& 31)) ||| (ee20 &&& (255 : Int32))) <<< ((8 : Int32) &&& 31)))])) rfl rfl (hb hby d4_19)
    refine own_by (T' := T6) (g' := (mkF m 22 #[.val (.ref ob), .val (.int 0), .val (.int (((0 : Int32) <<< ((8 : Int32) &&& 31)) ||| (ee20 &&& (255 : Int32)))), .val (.int 1)] [(.ref b), (.int ((((0 : Int32) <<< ((8 : Int32) &&& 31)) ||| (ee20 &&& (255 : Int32))) <<< ((8 : Int32) &&& 31)))])) (fun t k => st6 t k) ?_
    refine own_by (T' := T6) (g' := (mkF m 23 #[.val (.ref ob), .val (.int 0), .val (.int (((0 : Int32) <<< ((8 : Int32) &&& 31)) ||| (ee20 &&& (255 : Int32)))), .val (.int 1)] [(.int 1), (.ref b), (.int ((((0 : Int32) <<< ((8 : Int32) &&& 31)) ||| (ee20 &&& (255 : Int32))) <<< ((8 : Int32) &&& 31)))])) (fun t k => XS.iloadN X6.here hx rfl (hb hby d4_22) rfl k) ?_
    obtain ⟨cl7, Ar7, q7, S7, N7, Hs7, G7⟩ := id V_b
    have hin7 : ¬ ((1 : Int32) < 0 ∨ cl7.slots.size ≤ ((1 : Int32)).toNatClampNeg) := inb_of S7 ⟨by decide, by decide⟩
    have hat7 : cl7.slots[((1 : Int32)).toNatClampNeg]? = some (.ref y1) := Hs7.at hin7 rfl
    refine own_by (T' := T6) (g' := (mkF m 24 #[.val (.ref ob), .val (.int 0), .val (.int (((0 : Int32) <<< ((8 : Int32) &&& 31)) ||| (ee20 &&& (255 : Int32)))), .val (.int 1)] [(.ref y1), (.int ((((0 : Int32) <<< ((8 : Int32) &&& 31)) ||| (ee20 &&& (255 : Int32))) <<< ((8 : Int32) &&& 31)))])) (fun t k => X6.aaload hx (j := (1 : Int32)) (v := (.ref y1)) (by rw [e6]; exact Ar7.1) (State.isArrayOf_alike hZ.alike Ar7.2.1) rfl Ar7.2.2 hin7 hat7 (g := (mkF m 23 #[.val (.ref ob), .val (.int 0), .val (.int (((0 : Int32) <<< ((8 : Int32) &&& 31)) ||| (ee20 &&& (255 : Int32)))), .val (.int 1)] [(.int 1), (.ref b), (.int ((((0 : Int32) <<< ((8 : Int32) &&& 31)) ||| (ee20 &&& (255 : Int32))) <<< ((8 : Int32) &&& 31)))])) rfl rfl (hb hby d4_23) _ k) ?_
    refine own_by (T' := T6) (g' := (mkF m 25 #[.val (.ref ob), .val (.int 0), .val (.int (((0 : Int32) <<< ((8 : Int32) &&& 31)) ||| (ee20 &&& (255 : Int32)))), .val (.int 1)] [(.int 0), (.ref y1), (.int ((((0 : Int32) <<< ((8 : Int32) &&& 31)) ||| (ee20 &&& (255 : Int32))) <<< ((8 : Int32) &&& 31)))])) (fun t k => XS.iloadN X6.here hx rfl (hb hby d4_24) rfl k) ?_
    obtain ⟨cl8, Ar8, q8, S8, N8, Hs8, G8⟩ := id V_y1
    have hin8 : ¬ ((0 : Int32) < 0 ∨ cl8.slots.size ≤ ((0 : Int32)).toNatClampNeg) := inb_of S8 ⟨by decide, by decide⟩
    have hat8 : cl8.slots[((0 : Int32)).toNatClampNeg]? = some (.int ee10) := Hs8.at hin8 rfl
    refine own_by (T' := T6) (g' := (mkF m 26 #[.val (.ref ob), .val (.int 0), .val (.int (((0 : Int32) <<< ((8 : Int32) &&& 31)) ||| (ee20 &&& (255 : Int32)))), .val (.int 1)] [(.int ee10), (.int ((((0 : Int32) <<< ((8 : Int32) &&& 31)) ||| (ee20 &&& (255 : Int32))) <<< ((8 : Int32) &&& 31)))])) (fun t k => X6.baloadBytes hx (j := (0 : Int32)) (v := (.int ee10)) (by rw [e6]; exact Ar8.1) (State.isArrayOf_alike hZ.alike Ar8.2.1) Ar8.2.2 hin8 hat8 (g := (mkF m 25 #[.val (.ref ob), .val (.int 0), .val (.int (((0 : Int32) <<< ((8 : Int32) &&& 31)) ||| (ee20 &&& (255 : Int32)))), .val (.int 1)] [(.int 0), (.ref y1), (.int ((((0 : Int32) <<< ((8 : Int32) &&& 31)) ||| (ee20 &&& (255 : Int32))) <<< ((8 : Int32) &&& 31)))])) rfl rfl (hb hby d4_25) _ k) ?_
    refine own_by (T' := T6) (g' := (mkF m 29 #[.val (.ref ob), .val (.int 0), .val (.int (((0 : Int32) <<< ((8 : Int32) &&& 31)) ||| (ee20 &&& (255 : Int32)))), .val (.int 1)] [(.int 255), (.int ee10), (.int ((((0 : Int32) <<< ((8 : Int32) &&& 31)) ||| (ee20 &&& (255 : Int32))) <<< ((8 : Int32) &&& 31)))])) (fun t k => XS.sipush X6.here hx rfl (hb hby d4_26) k) ?_
    refine own_by (T' := T6) (g' := (mkF m 30 #[.val (.ref ob), .val (.int 0), .val (.int (((0 : Int32) <<< ((8 : Int32) &&& 31)) ||| (ee20 &&& (255 : Int32)))), .val (.int 1)] [(.int (ee10 &&& (255 : Int32))), (.int ((((0 : Int32) <<< ((8 : Int32) &&& 31)) ||| (ee20 &&& (255 : Int32))) <<< ((8 : Int32) &&& 31)))])) (fun t k => XS.iand X6.here hx rfl (hb hby d4_29) rfl k) ?_
    refine own_by (T' := T6) (g' := (mkF m 31 #[.val (.ref ob), .val (.int 0), .val (.int (((0 : Int32) <<< ((8 : Int32) &&& 31)) ||| (ee20 &&& (255 : Int32)))), .val (.int 1)] [(.int (((((0 : Int32) <<< ((8 : Int32) &&& 31)) ||| (ee20 &&& (255 : Int32))) <<< ((8 : Int32) &&& 31)) ||| (ee10 &&& (255 : Int32))))])) (fun t k => XS.ior X6.here hx rfl (hb hby d4_30) rfl k) ?_
    refine own_by (T' := T6) (g' := (mkF m 32 #[.val (.ref ob), .val (.int 0), .val (.int (((((0 : Int32) <<< ((8 : Int32) &&& 31)) ||| (ee20 &&& (255 : Int32))) <<< ((8 : Int32) &&& 31)) ||| (ee10 &&& (255 : Int32)))), .val (.int 1)] [])) (fun t k => XS.istoreN X6.here hx rfl (hb hby d4_31) rfl (l' := #[.val (.ref ob), .val (.int 0), .val (.int (((((0 : Int32) <<< ((8 : Int32) &&& 31)) ||| (ee20 &&& (255 : Int32))) <<< ((8 : Int32) &&& 31)) ||| (ee10 &&& (255 : Int32)))), .val (.int 1)]) rfl k) ?_
    refine own_by (T' := T6) (g' := (mkF m 35 #[.val (.ref ob), .val (.int 0), .val (.int (((((0 : Int32) <<< ((8 : Int32) &&& 31)) ||| (ee20 &&& (255 : Int32))) <<< ((8 : Int32) &&& 31)) ||| (ee10 &&& (255 : Int32)))), .val (.int 0)] [])) (fun t k => XS.iinc X6.here hx rfl (hb hby d4_32) rfl (l' := #[.val (.ref ob), .val (.int 0), .val (.int (((((0 : Int32) <<< ((8 : Int32) &&& 31)) ||| (ee20 &&& (255 : Int32))) <<< ((8 : Int32) &&& 31)) ||| (ee10 &&& (255 : Int32)))), .val (.int 0)]) rfl k) ?_
    refine own_by (T' := T6) (g' := (mkF m 10 #[.val (.ref ob), .val (.int 0), .val (.int (((((0 : Int32) <<< ((8 : Int32) &&& 31)) ||| (ee20 &&& (255 : Int32))) <<< ((8 : Int32) &&& 31)) ||| (ee10 &&& (255 : Int32)))), .val (.int 0)] [])) (fun t k => XS.goto X6.here hx rfl (pc0 := 35) (pc' := 10) rfl (hb hby d4_35) (by decide) (by decide) k) ?_
    refine own_by (T' := T6) (g' := (mkF m 11 #[.val (.ref ob), .val (.int 0), .val (.int (((((0 : Int32) <<< ((8 : Int32) &&& 31)) ||| (ee20 &&& (255 : Int32))) <<< ((8 : Int32) &&& 31)) ||| (ee10 &&& (255 : Int32)))), .val (.int 0)] [(.int 0)])) (fun t k => XS.iloadN X6.here hx rfl (hb hby d4_10) rfl k) ?_
    refine own_by (T' := T6) (g' := (mkF m 14 #[.val (.ref ob), .val (.int 0), .val (.int (((((0 : Int32) <<< ((8 : Int32) &&& 31)) ||| (ee20 &&& (255 : Int32))) <<< ((8 : Int32) &&& 31)) ||| (ee10 &&& (255 : Int32)))), .val (.int 0)] [])) (fun t k => XS.ifNo X6.here hx rfl (hb hby d4_11) rfl ((if0 _ _).trans (flt (by decide)).1) k) ?_
    refine own_by (T' := T6) (g' := (mkF m 15 #[.val (.ref ob), .val (.int 0), .val (.int (((((0 : Int32) <<< ((8 : Int32) &&& 31)) ||| (ee20 &&& (255 : Int32))) <<< ((8 : Int32) &&& 31)) ||| (ee10 &&& (255 : Int32)))), .val (.int 0)] [(.int (((((0 : Int32) <<< ((8 : Int32) &&& 31)) ||| (ee20 &&& (255 : Int32))) <<< ((8 : Int32) &&& 31)) ||| (ee10 &&& (255 : Int32))))])) (fun t k => XS.iloadN X6.here hx rfl (hb hby d4_14) rfl k) ?_
    refine own_by (T' := T6) (g' := (mkF m 17 #[.val (.ref ob), .val (.int 0), .val (.int (((((0 : Int32) <<< ((8 : Int32) &&& 31)) ||| (ee20 &&& (255 : Int32))) <<< ((8 : Int32) &&& 31)) ||| (ee10 &&& (255 : Int32)))), .val (.int 0)] [(.int 8), (.int (((((0 : Int32) <<< ((8 : Int32) &&& 31)) ||| (ee20 &&& (255 : Int32))) <<< ((8 : Int32) &&& 31)) ||| (ee10 &&& (255 : Int32))))])) (fun t k => XS.bipush X6.here hx rfl (hb hby d4_15) k) ?_
    refine own_by (T' := T6) (g' := (mkF m 18 #[.val (.ref ob), .val (.int 0), .val (.int (((((0 : Int32) <<< ((8 : Int32) &&& 31)) ||| (ee20 &&& (255 : Int32))) <<< ((8 : Int32) &&& 31)) ||| (ee10 &&& (255 : Int32)))), .val (.int 0)] [(.int ((((((0 : Int32) <<< ((8 : Int32) &&& 31)) ||| (ee20 &&& (255 : Int32))) <<< ((8 : Int32) &&& 31)) ||| (ee10 &&& (255 : Int32))) <<< ((8 : Int32) &&& 31)))])) (fun t k => XS.ishl X6.here hx rfl (hb hby d4_17) rfl k) ?_
    refine own_by (T' := T6) (g' := (mkF m 19 #[.val (.ref ob), .val (.int 0), .val (.int (((((0 : Int32) <<< ((8 : Int32) &&& 31)) ||| (ee20 &&& (255 : Int32))) <<< ((8 : Int32) &&& 31)) ||| (ee10 &&& (255 : Int32)))), .val (.int 0)] [(.ref ob), (.int ((((((0 : Int32) <<< ((8 : Int32) &&& 31)) ||| (ee20 &&& (255 : Int32))) <<< ((8 : Int32) &&& 31)) ||| (ee10 &&& (255 : Int32))) <<< ((8 : Int32) &&& 31)))])) (fun t k => XS.aloadN X6.here hx rfl (hb hby d4_18) rfl rfl k) ?_
    obtain ⟨T9, X9, e9, st9⟩ := getF X6 hx hZ hown (host := "") (Or.inl (hw _ (own_m 16 rfl))) Via.refl e6 F_planes_ob (g := (mkF m 19 #[.val (.ref ob), .val (.int 0), .val (.int (((((0 : Int32) <<< ((8 : Int32) &&& 31)) ||| (ee20 &&& (255 : Int32))) <<< ((8 : Int32) &&& 31)) ||| (ee10 &&& (255 : Int32)))), .val (.int 0)] [(.ref ob), (.int ((((((0 : Int32) <<< ((8 : Int32) &&& 31)) ||| (ee20 &&& (255 : Int32))) <<< ((8 : Int32) &&& 31)) ||| (ee10 &&& (255 : Int32))) <<< ((8 : Int32) &&& 31)))])) rfl rfl (hb hby d4_19)
    refine own_by (T' := T9) (g' := (mkF m 22 #[.val (.ref ob), .val (.int 0), .val (.int (((((0 : Int32) <<< ((8 : Int32) &&& 31)) ||| (ee20 &&& (255 : Int32))) <<< ((8 : Int32) &&& 31)) ||| (ee10 &&& (255 : Int32)))), .val (.int 0)] [(.ref b), (.int ((((((0 : Int32) <<< ((8 : Int32) &&& 31)) ||| (ee20 &&& (255 : Int32))) <<< ((8 : Int32) &&& 31)) ||| (ee10 &&& (255 : Int32))) <<< ((8 : Int32) &&& 31)))])) (fun t k => st9 t k) ?_
    refine own_by (T' := T9) (g' := (mkF m 23 #[.val (.ref ob), .val (.int 0), .val (.int (((((0 : Int32) <<< ((8 : Int32) &&& 31)) ||| (ee20 &&& (255 : Int32))) <<< ((8 : Int32) &&& 31)) ||| (ee10 &&& (255 : Int32)))), .val (.int 0)] [(.int 0), (.ref b), (.int ((((((0 : Int32) <<< ((8 : Int32) &&& 31)) ||| (ee20 &&& (255 : Int32))) <<< ((8 : Int32) &&& 31)) ||| (ee10 &&& (255 : Int32))) <<< ((8 : Int32) &&& 31)))])) (fun t k => XS.iloadN X9.here hx rfl (hb hby d4_22) rfl k) ?_
    obtain ⟨cl10, Ar10, q10, S10, N10, Hs10, G10⟩ := id V_b
    have hin10 : ¬ ((0 : Int32) < 0 ∨ cl10.slots.size ≤ ((0 : Int32)).toNatClampNeg) := inb_of S10 ⟨by decide, by decide⟩
    have hat10 : cl10.slots[((0 : Int32)).toNatClampNeg]? = some (.ref y0) := Hs10.at hin10 rfl
    refine own_by (T' := T9) (g' := (mkF m 24 #[.val (.ref ob), .val (.int 0), .val (.int (((((0 : Int32) <<< ((8 : Int32) &&& 31)) ||| (ee20 &&& (255 : Int32))) <<< ((8 : Int32) &&& 31)) ||| (ee10 &&& (255 : Int32)))), .val (.int 0)] [(.ref y0), (.int ((((((0 : Int32) <<< ((8 : Int32) &&& 31)) ||| (ee20 &&& (255 : Int32))) <<< ((8 : Int32) &&& 31)) ||| (ee10 &&& (255 : Int32))) <<< ((8 : Int32) &&& 31)))])) (fun t k => X9.aaload hx (j := (0 : Int32)) (v := (.ref y0)) (by rw [e9]; exact Ar10.1) (State.isArrayOf_alike hZ.alike Ar10.2.1) rfl Ar10.2.2 hin10 hat10 (g := (mkF m 23 #[.val (.ref ob), .val (.int 0), .val (.int (((((0 : Int32) <<< ((8 : Int32) &&& 31)) ||| (ee20 &&& (255 : Int32))) <<< ((8 : Int32) &&& 31)) ||| (ee10 &&& (255 : Int32)))), .val (.int 0)] [(.int 0), (.ref b), (.int ((((((0 : Int32) <<< ((8 : Int32) &&& 31)) ||| (ee20 &&& (255 : Int32))) <<< ((8 : Int32) &&& 31)) ||| (ee10 &&& (255 : Int32))) <<< ((8 : Int32) &&& 31)))])) rfl rfl (hb hby d4_23) _ k) ?_
    refine own_by (T' := T9) (g' := (mkF m 25 #[.val (.ref ob), .val (.int 0), .val (.int (((((0 : Int32) <<< ((8 : Int32) &&& 31)) ||| (ee20 &&& (255 : Int32))) <<< ((8 : Int32) &&& 31)) ||| (ee10 &&& (255 : Int32)))), .val (.int 0)] [(.int 0), (.ref y0), (.int ((((((0 : Int32) <<< ((8 : Int32) &&& 31)) ||| (ee20 &&& (255 : Int32))) <<< ((8 : Int32) &&& 31)) ||| (ee10 &&& (255 : Int32))) <<< ((8 : Int32) &&& 31)))])) (fun t k => XS.iloadN X9.here hx rfl (hb hby d4_24) rfl k) ?_
    obtain ⟨cl11, Ar11, q11, S11, N11, Hs11, G11⟩ := id V_y0
    have hin11 : ¬ ((0 : Int32) < 0 ∨ cl11.slots.size ≤ ((0 : Int32)).toNatClampNeg) := inb_of S11 ⟨by decide, by decide⟩
    have hat11 : cl11.slots[((0 : Int32)).toNatClampNeg]? = some (.int ee00) := Hs11.at hin11 rfl
    refine own_by (T' := T9) (g' := (mkF m 26 #[.val (.ref ob), .val (.int 0), .val (.int (((((0 : Int32) <<< ((8 : Int32) &&& 31)) ||| (ee20 &&& (255 : Int32))) <<< ((8 : Int32) &&& 31)) ||| (ee10 &&& (255 : Int32)))), .val (.int 0)] [(.int ee00), (.int ((((((0 : Int32) <<< ((8 : Int32) &&& 31)) ||| (ee20 &&& (255 : Int32))) <<< ((8 : Int32) &&& 31)) ||| (ee10 &&& (255 : Int32))) <<< ((8 : Int32) &&& 31)))])) (fun t k => X9.baloadBytes hx (j := (0 : Int32)) (v := (.int ee00)) (by rw [e9]; exact Ar11.1) (State.isArrayOf_alike hZ.alike Ar11.2.1) Ar11.2.2 hin11 hat11 (g := (mkF m 25 #[.val (.ref ob), .val (.int 0), .val (.int (((((0 : Int32) <<< ((8 : Int32) &&& 31)) ||| (ee20 &&& (255 : Int32))) <<< ((8 : Int32) &&& 31)) ||| (ee10 &&& (255 : Int32)))), .val (.int 0)] [(.int 0), (.ref y0), (.int ((((((0 : Int32) <<< ((8 : Int32) &&& 31)) ||| (ee20 &&& (255 : Int32))) <<< ((8 : Int32) &&& 31)) ||| (ee10 &&& (255 : Int32))) <<< ((8 : Int32) &&& 31)))])) rfl rfl (hb hby d4_25) _ k) ?_
    refine own_by (T' := T9) (g' := (mkF m 29 #[.val (.ref ob), .val (.int 0), .val (.int (((((0 : Int32) <<< ((8 : Int32) &&& 31)) ||| (ee20 &&& (255 : Int32))) <<< ((8 : Int32) &&& 31)) ||| (ee10 &&& (255 : Int32)))), .val (.int 0)] [(.int 255), (.int ee00), (.int ((((((0 : Int32) <<< ((8 : Int32) &&& 31)) ||| (ee20 &&& (255 : Int32))) <<< ((8 : Int32) &&& 31)) ||| (ee10 &&& (255 : Int32))) <<< ((8 : Int32) &&& 31)))])) (fun t k => XS.sipush X9.here hx rfl (hb hby d4_26) k) ?_
    refine own_by (T' := T9) (g' := (mkF m 30 #[.val (.ref ob), .val (.int 0), .val (.int (((((0 : Int32) <<< ((8 : Int32) &&& 31)) ||| (ee20 &&& (255 : Int32))) <<< ((8 : Int32) &&& 31)) ||| (ee10 &&& (255 : Int32)))), .val (.int 0)] [(.int (ee00 &&& (255 : Int32))), (.int ((((((0 : Int32) <<< ((8 : Int32) &&& 31)) ||| (ee20 &&& (255 : Int32))) <<< ((8 : Int32) &&& 31)) ||| (ee10 &&& (255 : Int32))) <<< ((8 : Int32) &&& 31)))])) (fun t k => XS.iand X9.here hx rfl (hb hby d4_29) rfl k) ?_
    refine own_by (T' := T9) (g' := (mkF m 31 #[.val (.ref ob), .val (.int 0), .val (.int (((((0 : Int32) <<< ((8 : Int32) &&& 31)) ||| (ee20 &&& (255 : Int32))) <<< ((8 : Int32) &&& 31)) ||| (ee10 &&& (255 : Int32)))), .val (.int 0)] [(.int (((((((0 : Int32) <<< ((8 : Int32) &&& 31)) ||| (ee20 &&& (255 : Int32))) <<< ((8 : Int32) &&& 31)) ||| (ee10 &&& (255 : Int32))) <<< ((8 : Int32) &&& 31)) ||| (ee00 &&& (255 : Int32))))])) (fun t k => XS.ior X9.here hx rfl (hb hby d4_30) rfl k) ?_
    refine own_by (T' := T9) (g' := (mkF m 32 #[.val (.ref ob), .val (.int 0), .val (.int (((((((0 : Int32) <<< ((8 : Int32) &&& 31)) ||| (ee20 &&& (255 : Int32))) <<< ((8 : Int32) &&& 31)) ||| (ee10 &&& (255 : Int32))) <<< ((8 : Int32) &&& 31)) ||| (ee00 &&& (255 : Int32)))), .val (.int 0)] [])) (fun t k => XS.istoreN X9.here hx rfl (hb hby d4_31) rfl (l' := #[.val (.ref ob), .val (.int 0), .val (.int (((((((0 : Int32) <<< ((8 : Int32) &&& 31)) ||| (ee20 &&& (255 : Int32))) <<< ((8 : Int32) &&& 31)) ||| (ee10 &&& (255 : Int32))) <<< ((8 : Int32) &&& 31)) ||| (ee00 &&& (255 : Int32)))), .val (.int 0)]) rfl k) ?_
    refine own_by (T' := T9) (g' := (mkF m 35 #[.val (.ref ob), .val (.int 0), .val (.int (((((((0 : Int32) <<< ((8 : Int32) &&& 31)) ||| (ee20 &&& (255 : Int32))) <<< ((8 : Int32) &&& 31)) ||| (ee10 &&& (255 : Int32))) <<< ((8 : Int32) &&& 31)) ||| (ee00 &&& (255 : Int32)))), .val (.int (-1))] [])) (fun t k => XS.iinc X9.here hx rfl (hb hby d4_32) rfl (l' := #[.val (.ref ob), .val (.int 0), .val (.int (((((((0 : Int32) <<< ((8 : Int32) &&& 31)) ||| (ee20 &&& (255 : Int32))) <<< ((8 : Int32) &&& 31)) ||| (ee10 &&& (255 : Int32))) <<< ((8 : Int32) &&& 31)) ||| (ee00 &&& (255 : Int32)))), .val (.int (-1))]) rfl k) ?_
    refine own_by (T' := T9) (g' := (mkF m 10 #[.val (.ref ob), .val (.int 0), .val (.int (((((((0 : Int32) <<< ((8 : Int32) &&& 31)) ||| (ee20 &&& (255 : Int32))) <<< ((8 : Int32) &&& 31)) ||| (ee10 &&& (255 : Int32))) <<< ((8 : Int32) &&& 31)) ||| (ee00 &&& (255 : Int32)))), .val (.int (-1))] [])) (fun t k => XS.goto X9.here hx rfl (pc0 := 35) (pc' := 10) rfl (hb hby d4_35) (by decide) (by decide) k) ?_
    refine own_by (T' := T9) (g' := (mkF m 11 #[.val (.ref ob), .val (.int 0), .val (.int (((((((0 : Int32) <<< ((8 : Int32) &&& 31)) ||| (ee20 &&& (255 : Int32))) <<< ((8 : Int32) &&& 31)) ||| (ee10 &&& (255 : Int32))) <<< ((8 : Int32) &&& 31)) ||| (ee00 &&& (255 : Int32)))), .val (.int (-1))] [(.int (-1))])) (fun t k => XS.iloadN X9.here hx rfl (hb hby d4_10) rfl k) ?_
    refine own_by (T' := T9) (g' := (mkF m 38 #[.val (.ref ob), .val (.int 0), .val (.int (((((((0 : Int32) <<< ((8 : Int32) &&& 31)) ||| (ee20 &&& (255 : Int32))) <<< ((8 : Int32) &&& 31)) ||| (ee10 &&& (255 : Int32))) <<< ((8 : Int32) &&& 31)) ||| (ee00 &&& (255 : Int32)))), .val (.int (-1))] [])) (fun t k => XS.ifYes X9.here hx rfl (pc0 := 11) (pc' := 38) rfl (hb hby d4_11) rfl ((if0 _ _).trans (tlt (by decide)).1) (by decide) (by decide) k) ?_
    refine own_by (T' := T9) (g' := (mkF m 39 #[.val (.ref ob), .val (.int 0), .val (.int (((((((0 : Int32) <<< ((8 : Int32) &&& 31)) ||| (ee20 &&& (255 : Int32))) <<< ((8 : Int32) &&& 31)) ||| (ee10 &&& (255 : Int32))) <<< ((8 : Int32) &&& 31)) ||| (ee00 &&& (255 : Int32)))), .val (.int (-1))] [(.int (((((((0 : Int32) <<< ((8 : Int32) &&& 31)) ||| (ee20 &&& (255 : Int32))) <<< ((8 : Int32) &&& 31)) ||| (ee10 &&& (255 : Int32))) <<< ((8 : Int32) &&& 31)) ||| (ee00 &&& (255 : Int32))))])) (fun t k => XS.iloadN X9.here hx rfl (hb hby d4_38) rfl k) ?_
    exact own_retI X9 hx Bd.notSynchronized Bd.returns (hb hby d4_39) (by decide) (by decide) (by rw [e9]; exact ⟨rfl, N_, rfl⟩)
  · refine own_by (T' := s₁) (g' := (mkF m 1 #[.val (.ref ob), .val (.int 1), .unset, .unset] [(.int 0)])) (fun t k => XS.iconst X0.here hx rfl (hb hby d4_0) k) ?_
    refine own_by (T' := s₁) (g' := (mkF m 2 #[.val (.ref ob), .val (.int 1), .val (.int 0), .unset] [])) (fun t k => XS.istoreN X0.here hx rfl (hb hby d4_1) rfl (l' := #[.val (.ref ob), .val (.int 1), .val (.int 0), .unset]) rfl k) ?_
    refine own_by (T' := s₁) (g' := (mkF m 3 #[.val (.ref ob), .val (.int 1), .val (.int 0), .unset] [(.ref ob)])) (fun t k => XS.aloadN X0.here hx rfl (hb hby d4_2) rfl rfl k) ?_
    obtain ⟨T12, X12, e12, st12⟩ := getF X0 hx hZ hown (host := "") (Or.inl (hw _ (own_m 16 rfl))) Via.refl e0 F_planes_ob (g := (mkF m 3 #[.val (.ref ob), .val (.int 1), .val (.int 0), .unset] [(.ref ob)])) rfl rfl (hb hby d4_3)
    refine own_by (T' := T12) (g' := (mkF m 6 #[.val (.ref ob), .val (.int 1), .val (.int 0), .unset] [(.ref b)])) (fun t k => st12 t k) ?_
    obtain ⟨cl13, Ar13, -, S13, N13, -, -⟩ := id V_b
    have st13 : ∀ t, Steps p.tables e below (T12.setTop (mkF m 7 #[.val (.ref ob), .val (.int 1), .val (.int 0), .unset] [(.int 3)])) t → Steps p.tables e below (T12.setTop (mkF m 6 #[.val (.ref ob), .val (.int 1), .val (.int 0), .unset] [(.ref b)])) t := fun t k => X12.arraylength hx (by rw [e12]; exact Ar13.1) (State.isArrayOf_alike hZ.alike Ar13.2.1) (g := (mkF m 6 #[.val (.ref ob), .val (.int 1), .val (.int 0), .unset] [(.ref b)])) rfl rfl (hb hby d4_6) _ (by rw [len_of S13 N13]; exact k)
    refine own_by (T' := T12) (g' := (mkF m 7 #[.val (.ref ob), .val (.int 1), .val (.int 0), .unset] [(.int 3)])) (fun t k => st13 t k) ?_
    refine own_by (T' := T12) (g' := (mkF m 8 #[.val (.ref ob), .val (.int 1), .val (.int 0), .unset] [(.int 1), (.int 3)])) (fun t k => XS.iconst X12.here hx rfl (hb hby d4_7) k) ?_
    refine own_by (T' := T12) (g' := (mkF m 9 #[.val (.ref ob), .val (.int 1), .val (.int 0), .unset] [(.int 2)])) (fun t k => XS.isub X12.here hx rfl (hb hby d4_8) rfl k) ?_
    refine own_by (T' := T12) (g' := (mkF m 10 #[.val (.ref ob), .val (.int 1), .val (.int 0), .val (.int 2)] [])) (fun t k => XS.istoreN X12.here hx rfl (hb hby d4_9) rfl (l' := #[.val (.ref ob), .val (.int 1), .val (.int 0), .val (.int 2)]) rfl k) ?_
    refine own_by (T' := T12) (g' := (mkF m 11 #[.val (.ref ob), .val (.int 1), .val (.int 0), .val (.int 2)] [(.int 2)])) (fun t k => XS.iloadN X12.here hx rfl (hb hby d4_10) rfl k) ?_
    refine own_by (T' := T12) (g' := (mkF m 14 #[.val (.ref ob), .val (.int 1), .val (.int 0), .val (.int 2)] [])) (fun t k => XS.ifNo X12.here hx rfl (hb hby d4_11) rfl ((if0 _ _).trans (flt (by decide)).1) k) ?_
    refine own_by (T' := T12) (g' := (mkF m 15 #[.val (.ref ob), .val (.int 1), .val (.int 0), .val (.int 2)] [(.int 0)])) (fun t k => XS.iloadN X12.here hx rfl (hb hby d4_14) rfl k) ?_
    refine own_by (T' := T12) (g' := (mkF m 17 #[.val (.ref ob), .val (.int 1), .val (.int 0), .val (.int 2)] [(.int 8), (.int 0)])) (fun t k => XS.bipush X12.here hx rfl (hb hby d4_15) k) ?_
    refine own_by (T' := T12) (g' := (mkF m 18 #[.val (.ref ob), .val (.int 1), .val (.int 0), .val (.int 2)] [(.int ((0 : Int32) <<< ((8 : Int32) &&& 31)))])) (fun t k => XS.ishl X12.here hx rfl (hb hby d4_17) rfl k) ?_
    refine own_by (T' := T12) (g' := (mkF m 19 #[.val (.ref ob), .val (.int 1), .val (.int 0), .val (.int 2)] [(.ref ob), (.int ((0 : Int32) <<< ((8 : Int32) &&& 31)))])) (fun t k => XS.aloadN X12.here hx rfl (hb hby d4_18) rfl rfl k) ?_
    obtain ⟨T14, X14, e14, st14⟩ := getF X12 hx hZ hown (host := "") (Or.inl (hw _ (own_m 16 rfl))) Via.refl e12 F_planes_ob (g := (mkF m 19 #[.val (.ref ob), .val (.int 1), .val (.int 0), .val (.int 2)] [(.ref ob), (.int ((0 : Int32) <<< ((8 : Int32) &&& 31)))])) rfl rfl (hb hby d4_19)
    refine own_by (T' := T14) (g' := (mkF m 22 #[.val (.ref ob), .val (.int 1), .val (.int 0), .val (.int 2)] [(.ref b), (.int ((0 : Int32) <<< ((8 : Int32) &&& 31)))])) (fun t k => st14 t k) ?_
    refine own_by (T' := T14) (g' := (mkF m 23 #[.val (.ref ob), .val (.int 1), .val (.int 0), .val (.int 2)] [(.int 2), (.ref b), (.int ((0 : Int32) <<< ((8 : Int32) &&& 31)))])) (fun t k => XS.iloadN X14.here hx rfl (hb hby d4_22) rfl k) ?_
    obtain ⟨cl15, Ar15, q15, S15, N15, Hs15, G15⟩ := id V_b
    have hin15 : ¬ ((2 : Int32) < 0 ∨ cl15.slots.size ≤ ((2 : Int32)).toNatClampNeg) := inb_of S15 ⟨by decide, by decide⟩
    have hat15 : cl15.slots[((2 : Int32)).toNatClampNeg]? = some (.ref y2) := Hs15.at hin15 rfl
    refine own_by (T' := T14) (g' := (mkF m 24 #[.val (.ref ob), .val (.int 1), .val (.int 0), .val (.int 2)] [(.ref y2), (.int ((0 : Int32) <<< ((8 : Int32) &&& 31)))])) (fun t k => X14.aaload hx (j := (2 : Int32)) (v := (.ref y2)) (by rw [e14]; exact Ar15.1) (State.isArrayOf_alike hZ.alike Ar15.2.1) rfl Ar15.2.2 hin15 hat15 (g := (mkF m 23 #[.val (.ref ob), .val (.int 1), .val (.int 0), .val (.int 2)] [(.int 2), (.ref b), (.int ((0 : Int32) <<< ((8 : Int32) &&& 31)))])) rfl rfl (hb hby d4_23) _ k) ?_
    refine own_by (T' := T14) (g' := (mkF m 25 #[.val (.ref ob), .val (.int 1), .val (.int 0), .val (.int 2)] [(.int 1), (.ref y2), (.int ((0 : Int32) <<< ((8 : Int32) &&& 31)))])) (fun t k => XS.iloadN X14.here hx rfl (hb hby d4_24) rfl k) ?_
    obtain ⟨cl16, Ar16, q16, S16, N16, Hs16, G16⟩ := id V_y2
    have hin16 : ¬ ((1 : Int32) < 0 ∨ cl16.slots.size ≤ ((1 : Int32)).toNatClampNeg) := inb_of S16 ⟨by decide, by decide⟩
    have hat16 : cl16.slots[((1 : Int32)).toNatClampNeg]? = some (.int ee21) := Hs16.at hin16 rfl
    refine own_by (T' := T14) (g' := (mkF m 26 #[.val (.ref ob), .val (.int 1), .val (.int 0), .val (.int 2)] [(.int ee21), (.int ((0 : Int32) <<< ((8 : Int32) &&& 31)))])) (fun t k => X14.baloadBytes hx (j := (1 : Int32)) (v := (.int ee21)) (by rw [e14]; exact Ar16.1) (State.isArrayOf_alike hZ.alike Ar16.2.1) Ar16.2.2 hin16 hat16 (g := (mkF m 25 #[.val (.ref ob), .val (.int 1), .val (.int 0), .val (.int 2)] [(.int 1), (.ref y2), (.int ((0 : Int32) <<< ((8 : Int32) &&& 31)))])) rfl rfl (hb hby d4_25) _ k) ?_
    refine own_by (T' := T14) (g' := (mkF m 29 #[.val (.ref ob), .val (.int 1), .val (.int 0), .val (.int 2)] [(.int 255), (.int ee21), (.int ((0 : Int32) <<< ((8 : Int32) &&& 31)))])) (fun t k => XS.sipush X14.here hx rfl (hb hby d4_26) k) ?_
    refine own_by (T' := T14) (g' := (mkF m 30 #[.val (.ref ob), .val (.int 1), .val (.int 0), .val (.int 2)] [(.int (ee21 &&& (255 : Int32))), (.int ((0 : Int32) <<< ((8 : Int32) &&& 31)))])) (fun t k => XS.iand X14.here hx rfl (hb hby d4_29) rfl k) ?_
    refine own_by (T' := T14) (g' := (mkF m 31 #[.val (.ref ob), .val (.int 1), .val (.int 0), .val (.int 2)] [(.int (((0 : Int32) <<< ((8 : Int32) &&& 31)) ||| (ee21 &&& (255 : Int32))))])) (fun t k => XS.ior X14.here hx rfl (hb hby d4_30) rfl k) ?_
    refine own_by (T' := T14) (g' := (mkF m 32 #[.val (.ref ob), .val (.int 1), .val (.int (((0 : Int32) <<< ((8 : Int32) &&& 31)) ||| (ee21 &&& (255 : Int32)))), .val (.int 2)] [])) (fun t k => XS.istoreN X14.here hx rfl (hb hby d4_31) rfl (l' := #[.val (.ref ob), .val (.int 1), .val (.int (((0 : Int32) <<< ((8 : Int32) &&& 31)) ||| (ee21 &&& (255 : Int32)))), .val (.int 2)]) rfl k) ?_
    refine own_by (T' := T14) (g' := (mkF m 35 #[.val (.ref ob), .val (.int 1), .val (.int (((0 : Int32) <<< ((8 : Int32) &&& 31)) ||| (ee21 &&& (255 : Int32)))), .val (.int 1)] [])) (fun t k => XS.iinc X14.here hx rfl (hb hby d4_32) rfl (l' := #[.val (.ref ob), .val (.int 1), .val (.int (((0 : Int32) <<< ((8 : Int32) &&& 31)) ||| (ee21 &&& (255 : Int32)))), .val (.int 1)]) rfl k) ?_
    refine own_by (T' := T14) (g' := (mkF m 10 #[.val (.ref ob), .val (.int 1), .val (.int (((0 : Int32) <<< ((8 : Int32) &&& 31)) ||| (ee21 &&& (255 : Int32)))), .val (.int 1)] [])) (fun t k => XS.goto X14.here hx rfl (pc0 := 35) (pc' := 10) rfl (hb hby d4_35) (by decide) (by decide) k) ?_
    refine own_by (T' := T14) (g' := (mkF m 11 #[.val (.ref ob), .val (.int 1), .val (.int (((0 : Int32) <<< ((8 : Int32) &&& 31)) ||| (ee21 &&& (255 : Int32)))), .val (.int 1)] [(.int 1)])) (fun t k => XS.iloadN X14.here hx rfl (hb hby d4_10) rfl k) ?_
    refine own_by (T' := T14) (g' := (mkF m 14 #[.val (.ref ob), .val (.int 1), .val (.int (((0 : Int32) <<< ((8 : Int32) &&& 31)) ||| (ee21 &&& (255 : Int32)))), .val (.int 1)] [])) (fun t k => XS.ifNo X14.here hx rfl (hb hby d4_11) rfl ((if0 _ _).trans (flt (by decide)).1) k) ?_
    refine own_by (T' := T14) (g' := (mkF m 15 #[.val (.ref ob), .val (.int 1), .val (.int (((0 : Int32) <<< ((8 : Int32) &&& 31)) ||| (ee21 &&& (255 : Int32)))), .val (.int 1)] [(.int (((0 : Int32) <<< ((8 : Int32) &&& 31)) ||| (ee21 &&& (255 : Int32))))])) (fun t k => XS.iloadN X14.here hx rfl (hb hby d4_14) rfl k) ?_
    refine own_by (T' := T14) (g' := (mkF m 17 #[.val (.ref ob), .val (.int 1), .val (.int (((0 : Int32) <<< ((8 : Int32) &&& 31)) ||| (ee21 &&& (255 : Int32)))), .val (.int 1)] [(.int 8), (.int (((0 : Int32) <<< ((8 : Int32) &&& 31)) ||| (ee21 &&& (255 : Int32))))])) (fun t k => XS.bipush X14.here hx rfl (hb hby d4_15) k) ?_
    refine own_by (T' := T14) (g' := (mkF m 18 #[.val (.ref ob), .val (.int 1), .val (.int (((0 : Int32) <<< ((8 : Int32) &&& 31)) ||| (ee21 &&& (255 : Int32)))), .val (.int 1)] [(.int ((((0 : Int32) <<< ((8 : Int32) &&& 31)) ||| (ee21 &&& (255 : Int32))) <<< ((8 : Int32) &&& 31)))])) (fun t k => XS.ishl X14.here hx rfl (hb hby d4_17) rfl k) ?_
    refine own_by (T' := T14) (g' := (mkF m 19 #[.val (.ref ob), .val (.int 1), .val (.int (((0 : Int32) <<< ((8 : Int32) &&& 31)) ||| (ee21 &&& (255 : Int32)))), .val (.int 1)] [(.ref ob), (.int ((((0 : Int32) <<< ((8 : Int32) &&& 31)) ||| (ee21 &&& (255 : Int32))) <<< ((8 : Int32) &&& 31)))])) (fun t k => XS.aloadN X14.here hx rfl (hb hby d4_18) rfl rfl k) ?_
    obtain ⟨T17, X17, e17, st17⟩ := getF X14 hx hZ hown (host := "") (Or.inl (hw _ (own_m 16 rfl))) Via.refl e14 F_planes_ob (g := (mkF m 19 #[.val (.ref ob), .val (.int 1), .val (.int (((0 : Int32) <<< ((8 : Int32) &&& 31)) ||| (ee21 &&& (255 : Int32)))), .val (.int 1)] [(.ref ob), (.int ((((0 : Int32) <<< ((8 : Int32) &&& 31)) ||| (ee21 &&& (255 : Int32))) <<< ((8 : Int32) &&& 31)))])) rfl rfl (hb hby d4_19)
    refine own_by (T' := T17) (g' := (mkF m 22 #[.val (.ref ob), .val (.int 1), .val (.int (((0 : Int32) <<< ((8 : Int32) &&& 31)) ||| (ee21 &&& (255 : Int32)))), .val (.int 1)] [(.ref b), (.int ((((0 : Int32) <<< ((8 : Int32) &&& 31)) ||| (ee21 &&& (255 : Int32))) <<< ((8 : Int32) &&& 31)))])) (fun t k => st17 t k) ?_
    refine own_by (T' := T17) (g' := (mkF m 23 #[.val (.ref ob), .val (.int 1), .val (.int (((0 : Int32) <<< ((8 : Int32) &&& 31)) ||| (ee21 &&& (255 : Int32)))), .val (.int 1)] [(.int 1), (.ref b), (.int ((((0 : Int32) <<< ((8 : Int32) &&& 31)) ||| (ee21 &&& (255 : Int32))) <<< ((8 : Int32) &&& 31)))])) (fun t k => XS.iloadN X17.here hx rfl (hb hby d4_22) rfl k) ?_
    obtain ⟨cl18, Ar18, q18, S18, N18, Hs18, G18⟩ := id V_b
    have hin18 : ¬ ((1 : Int32) < 0 ∨ cl18.slots.size ≤ ((1 : Int32)).toNatClampNeg) := inb_of S18 ⟨by decide, by decide⟩
    have hat18 : cl18.slots[((1 : Int32)).toNatClampNeg]? = some (.ref y1) := Hs18.at hin18 rfl
    refine own_by (T' := T17) (g' := (mkF m 24 #[.val (.ref ob), .val (.int 1), .val (.int (((0 : Int32) <<< ((8 : Int32) &&& 31)) ||| (ee21 &&& (255 : Int32)))), .val (.int 1)] [(.ref y1), (.int ((((0 : Int32) <<< ((8 : Int32) &&& 31)) ||| (ee21 &&& (255 : Int32))) <<< ((8 : Int32) &&& 31)))])) (fun t k => X17.aaload hx (j := (1 : Int32)) (v := (.ref y1)) (by rw [e17]; exact Ar18.1) (State.isArrayOf_alike hZ.alike Ar18.2.1) rfl Ar18.2.2 hin18 hat18 (g := (mkF m 23 #[.val (.ref ob), .val (.int 1), .val (.int (((0 : Int32) <<< ((8 : Int32) &&& 31)) ||| (ee21 &&& (255 : Int32)))), .val (.int 1)] [(.int 1), (.ref b), (.int ((((0 : Int32) <<< ((8 : Int32) &&& 31)) ||| (ee21 &&& (255 : Int32))) <<< ((8 : Int32) &&& 31)))])) rfl rfl (hb hby d4_23) _ k) ?_
    refine own_by (T' := T17) (g' := (mkF m 25 #[.val (.ref ob), .val (.int 1), .val (.int (((0 : Int32) <<< ((8 : Int32) &&& 31)) ||| (ee21 &&& (255 : Int32)))), .val (.int 1)] [(.int 1), (.ref y1), (.int ((((0 : Int32) <<< ((8 : Int32) &&& 31)) ||| (ee21 &&& (255 : Int32))) <<< ((8 : Int32) &&& 31)))])) (fun t k => XS.iloadN X17.here hx rfl (hb hby d4_24) rfl k) ?_
    obtain ⟨cl19, Ar19, q19, S19, N19, Hs19, G19⟩ := id V_y1
    have hin19 : ¬ ((1 : Int32) < 0 ∨ cl19.slots.size ≤ ((1 : Int32)).toNatClampNeg) := inb_of S19 ⟨by decide, by decide⟩
    have hat19 : cl19.slots[((1 : Int32)).toNatClampNeg]? = some (.int ee11) := Hs19.at hin19 rfl
    refine own_by (T' := T17) (g' := (mkF m 26 #[.val (.ref ob), .val (.int 1), .val (.int (((0 : Int32) <<< ((8 : Int32) &&& 31)) ||| (ee21 &&& (255 : Int32)))), .val (.int 1)] [(.int ee11), (.int ((((0 : Int32) <<< ((8 : Int32) &&& 31)) ||| (ee21 &&& (255 : Int32))) <<< ((8 : Int32) &&& 31)))])) (fun t k => X17.baloadBytes hx (j := (1 : Int32)) (v := (.int ee11)) (by rw [e17]; exact Ar19.1) (State.isArrayOf_alike hZ.alike Ar19.2.1) Ar19.2.2 hin19 hat19 (g := (mkF m 25 #[.val (.ref ob), .val (.int 1), .val (.int (((0 : Int32) <<< ((8 : Int32) &&& 31)) ||| (ee21 &&& (255 : Int32)))), .val (.int 1)] [(.int 1), (.ref y1), (.int ((((0 : Int32) <<< ((8 : Int32) &&& 31)) ||| (ee21 &&& (255 : Int32))) <<< ((8 : Int32) &&& 31)))])) rfl rfl (hb hby d4_25) _ k) ?_
    refine own_by (T' := T17) (g' := (mkF m 29 #[.val (.ref ob), .val (.int 1), .val (.int (((0 : Int32) <<< ((8 : Int32) &&& 31)) ||| (ee21 &&& (255 : Int32)))), .val (.int 1)] [(.int 255), (.int ee11), (.int ((((0 : Int32) <<< ((8 : Int32) &&& 31)) ||| (ee21 &&& (255 : Int32))) <<< ((8 : Int32) &&& 31)))])) (fun t k => XS.sipush X17.here hx rfl (hb hby d4_26) k) ?_
    refine own_by (T' := T17) (g' := (mkF m 30 #[.val (.ref ob), .val (.int 1), .val (.int (((0 : Int32) <<< ((8 : Int32) &&& 31)) ||| (ee21 &&& (255 : Int32)))), .val (.int 1)] [(.int (ee11 &&& (255 : Int32))), (.int ((((0 : Int32) <<< ((8 : Int32) &&& 31)) ||| (ee21 &&& (255 : Int32))) <<< ((8 : Int32) &&& 31)))])) (fun t k => XS.iand X17.here hx rfl (hb hby d4_29) rfl k) ?_
    refine own_by (T' := T17) (g' := (mkF m 31 #[.val (.ref ob), .val (.int 1), .val (.int (((0 : Int32) <<< ((8 : Int32) &&& 31)) ||| (ee21 &&& (255 : Int32)))), .val (.int 1)] [(.int (((((0 : Int32) <<< ((8 : Int32) &&& 31)) ||| (ee21 &&& (255 : Int32))) <<< ((8 : Int32) &&& 31)) ||| (ee11 &&& (255 : Int32))))])) (fun t k => XS.ior X17.here hx rfl (hb hby d4_30) rfl k) ?_
    refine own_by (T' := T17) (g' := (mkF m 32 #[.val (.ref ob), .val (.int 1), .val (.int (((((0 : Int32) <<< ((8 : Int32) &&& 31)) ||| (ee21 &&& (255 : Int32))) <<< ((8 : Int32) &&& 31)) ||| (ee11 &&& (255 : Int32)))), .val (.int 1)] [])) (fun t k => XS.istoreN X17.here hx rfl (hb hby d4_31) rfl (l' := #[.val (.ref ob), .val (.int 1), .val (.int (((((0 : Int32) <<< ((8 : Int32) &&& 31)) ||| (ee21 &&& (255 : Int32))) <<< ((8 : Int32) &&& 31)) ||| (ee11 &&& (255 : Int32)))), .val (.int 1)]) rfl k) ?_
    refine own_by (T' := T17) (g' := (mkF m 35 #[.val (.ref ob), .val (.int 1), .val (.int (((((0 : Int32) <<< ((8 : Int32) &&& 31)) ||| (ee21 &&& (255 : Int32))) <<< ((8 : Int32) &&& 31)) ||| (ee11 &&& (255 : Int32)))), .val (.int 0)] [])) (fun t k => XS.iinc X17.here hx rfl (hb hby d4_32) rfl (l' := #[.val (.ref ob), .val (.int 1), .val (.int (((((0 : Int32) <<< ((8 : Int32) &&& 31)) ||| (ee21 &&& (255 : Int32))) <<< ((8 : Int32) &&& 31)) ||| (ee11 &&& (255 : Int32)))), .val (.int 0)]) rfl k) ?_
    refine own_by (T' := T17) (g' := (mkF m 10 #[.val (.ref ob), .val (.int 1), .val (.int (((((0 : Int32) <<< ((8 : Int32) &&& 31)) ||| (ee21 &&& (255 : Int32))) <<< ((8 : Int32) &&& 31)) ||| (ee11 &&& (255 : Int32)))), .val (.int 0)] [])) (fun t k => XS.goto X17.here hx rfl (pc0 := 35) (pc' := 10) rfl (hb hby d4_35) (by decide) (by decide) k) ?_
    refine own_by (T' := T17) (g' := (mkF m 11 #[.val (.ref ob), .val (.int 1), .val (.int (((((0 : Int32) <<< ((8 : Int32) &&& 31)) ||| (ee21 &&& (255 : Int32))) <<< ((8 : Int32) &&& 31)) ||| (ee11 &&& (255 : Int32)))), .val (.int 0)] [(.int 0)])) (fun t k => XS.iloadN X17.here hx rfl (hb hby d4_10) rfl k) ?_
    refine own_by (T' := T17) (g' := (mkF m 14 #[.val (.ref ob), .val (.int 1), .val (.int (((((0 : Int32) <<< ((8 : Int32) &&& 31)) ||| (ee21 &&& (255 : Int32))) <<< ((8 : Int32) &&& 31)) ||| (ee11 &&& (255 : Int32)))), .val (.int 0)] [])) (fun t k => XS.ifNo X17.here hx rfl (hb hby d4_11) rfl ((if0 _ _).trans (flt (by decide)).1) k) ?_
    refine own_by (T' := T17) (g' := (mkF m 15 #[.val (.ref ob), .val (.int 1), .val (.int (((((0 : Int32) <<< ((8 : Int32) &&& 31)) ||| (ee21 &&& (255 : Int32))) <<< ((8 : Int32) &&& 31)) ||| (ee11 &&& (255 : Int32)))), .val (.int 0)] [(.int (((((0 : Int32) <<< ((8 : Int32) &&& 31)) ||| (ee21 &&& (255 : Int32))) <<< ((8 : Int32) &&& 31)) ||| (ee11 &&& (255 : Int32))))])) (fun t k => XS.iloadN X17.here hx rfl (hb hby d4_14) rfl k) ?_
    refine own_by (T' := T17) (g' := (mkF m 17 #[.val (.ref ob), .val (.int 1), .val (.int (((((0 : Int32) <<< ((8 : Int32) &&& 31)) ||| (ee21 &&& (255 : Int32))) <<< ((8 : Int32) &&& 31)) ||| (ee11 &&& (255 : Int32)))), .val (.int 0)] [(.int 8), (.int (((((0 : Int32) <<< ((8 : Int32) &&& 31)) ||| (ee21 &&& (255 : Int32))) <<< ((8 : Int32) &&& 31)) ||| (ee11 &&& (255 : Int32))))])) (fun t k => XS.bipush X17.here hx rfl (hb hby d4_15) k) ?_
    refine own_by (T' := T17) (g' := (mkF m 18 #[.val (.ref ob), .val (.int 1), .val (.int (((((0 : Int32) <<< ((8 : Int32) &&& 31)) ||| (ee21 &&& (255 : Int32))) <<< ((8 : Int32) &&& 31)) ||| (ee11 &&& (255 : Int32)))), .val (.int 0)] [(.int ((((((0 : Int32) <<< ((8 : Int32) &&& 31)) ||| (ee21 &&& (255 : Int32))) <<< ((8 : Int32) &&& 31)) ||| (ee11 &&& (255 : Int32))) <<< ((8 : Int32) &&& 31)))])) (fun t k => XS.ishl X17.here hx rfl (hb hby d4_17) rfl k) ?_
    refine own_by (T' := T17) (g' := (mkF m 19 #[.val (.ref ob), .val (.int 1), .val (.int (((((0 : Int32) <<< ((8 : Int32) &&& 31)) ||| (ee21 &&& (255 : Int32))) <<< ((8 : Int32) &&& 31)) ||| (ee11 &&& (255 : Int32)))), .val (.int 0)] [(.ref ob), (.int ((((((0 : Int32) <<< ((8 : Int32) &&& 31)) ||| (ee21 &&& (255 : Int32))) <<< ((8 : Int32) &&& 31)) ||| (ee11 &&& (255 : Int32))) <<< ((8 : Int32) &&& 31)))])) (fun t k => XS.aloadN X17.here hx rfl (hb hby d4_18) rfl rfl k) ?_
    obtain ⟨T20, X20, e20, st20⟩ := getF X17 hx hZ hown (host := "") (Or.inl (hw _ (own_m 16 rfl))) Via.refl e17 F_planes_ob (g := (mkF m 19 #[.val (.ref ob), .val (.int 1), .val (.int (((((0 : Int32) <<< ((8 : Int32) &&& 31)) ||| (ee21 &&& (255 : Int32))) <<< ((8 : Int32) &&& 31)) ||| (ee11 &&& (255 : Int32)))), .val (.int 0)] [(.ref ob), (.int ((((((0 : Int32) <<< ((8 : Int32) &&& 31)) ||| (ee21 &&& (255 : Int32))) <<< ((8 : Int32) &&& 31)) ||| (ee11 &&& (255 : Int32))) <<< ((8 : Int32) &&& 31)))])) rfl rfl (hb hby d4_19)
    refine own_by (T' := T20) (g' := (mkF m 22 #[.val (.ref ob), .val (.int 1), .val (.int (((((0 : Int32) <<< ((8 : Int32) &&& 31)) ||| (ee21 &&& (255 : Int32))) <<< ((8 : Int32) &&& 31)) ||| (ee11 &&& (255 : Int32)))), .val (.int 0)] [(.ref b), (.int ((((((0 : Int32) <<< ((8 : Int32) &&& 31)) ||| (ee21 &&& (255 : Int32))) <<< ((8 : Int32) &&& 31)) ||| (ee11 &&& (255 : Int32))) <<< ((8 : Int32) &&& 31)))])) (fun t k => st20 t k) ?_
    refine own_by (T' := T20) (g' := (mkF m 23 #[.val (.ref ob), .val (.int 1), .val (.int (((((0 : Int32) <<< ((8 : Int32) &&& 31)) ||| (ee21 &&& (255 : Int32))) <<< ((8 : Int32) &&& 31)) ||| (ee11 &&& (255 : Int32)))), .val (.int 0)] [(.int 0), (.ref b), (.int ((((((0 : Int32) <<< ((8 : Int32) &&& 31)) ||| (ee21 &&& (255 : Int32))) <<< ((8 : Int32) &&& 31)) ||| (ee11 &&& (255 : Int32))) <<< ((8 : Int32) &&& 31)))])) (fun t k => XS.iloadN X20.here hx rfl (hb hby d4_22) rfl k) ?_
    obtain ⟨cl21, Ar21, q21, S21, N21, Hs21, G21⟩ := id V_b
    have hin21 : ¬ ((0 : Int32) < 0 ∨ cl21.slots.size ≤ ((0 : Int32)).toNatClampNeg) := inb_of S21 ⟨by decide, by decide⟩
    have hat21 : cl21.slots[((0 : Int32)).toNatClampNeg]? = some (.ref y0) := Hs21.at hin21 rfl
    refine own_by (T' := T20) (g' := (mkF m 24 #[.val (.ref ob), .val (.int 1), .val (.int (((((0 : Int32) <<< ((8 : Int32) &&& 31)) ||| (ee21 &&& (255 : Int32))) <<< ((8 : Int32) &&& 31)) ||| (ee11 &&& (255 : Int32)))), .val (.int 0)] [(.ref y0), (.int ((((((0 : Int32) <<< ((8 : Int32) &&& 31)) ||| (ee21 &&& (255 : Int32))) <<< ((8 : Int32) &&& 31)) ||| (ee11 &&& (255 : Int32))) <<< ((8 : Int32) &&& 31)))])) (fun t k => X20.aaload hx (j := (0 : Int32)) (v := (.ref y0)) (by rw [e20]; exact Ar21.1) (State.isArrayOf_alike hZ.alike Ar21.2.1) rfl Ar21.2.2 hin21 hat21 (g := (mkF m 23 #[.val (.ref ob), .val (.int 1), .val (.int (((((0 : Int32) <<< ((8 : Int32) &&& 31)) ||| (ee21 &&& (255 : Int32))) <<< ((8 : Int32) &&& 31)) ||| (ee11 &&& (255 : Int32)))), .val (.int 0)] [(.int 0), (.ref b), (.int ((((((0 : Int32) <<< ((8 : Int32) &&& 31)) ||| (ee21 &&& (255 : Int32))) <<< ((8 : Int32) &&& 31)) ||| (ee11 &&& (255 : Int32))) <<< ((8 : Int32) &&& 31)))])) rfl rfl (hb hby d4_23) _ k) ?_
    refine own_by (T' := T20) (g' := (mkF m 25 #[.val (.ref ob), .val (.int 1), .val (.int (((((0 : Int32) <<< ((8 : Int32) &&& 31)) ||| (ee21 &&& (255 : Int32))) <<< ((8 : Int32) &&& 31)) ||| (ee11 &&& (255 : Int32)))), .val (.int 0)] [(.int 1), (.ref y0), (.int ((((((0 : Int32) <<< ((8 : Int32) &&& 31)) ||| (ee21 &&& (255 : Int32))) <<< ((8 : Int32) &&& 31)) ||| (ee11 &&& (255 : Int32))) <<< ((8 : Int32) &&& 31)))])) (fun t k => XS.iloadN X20.here hx rfl (hb hby d4_24) rfl k) ?_
    obtain ⟨cl22, Ar22, q22, S22, N22, Hs22, G22⟩ := id V_y0
    have hin22 : ¬ ((1 : Int32) < 0 ∨ cl22.slots.size ≤ ((1 : Int32)).toNatClampNeg) := inb_of S22 ⟨by decide, by decide⟩
    have hat22 : cl22.slots[((1 : Int32)).toNatClampNeg]? = some (.int ee01) := Hs22.at hin22 rfl
    refine own_by (T' := T20) (g' := (mkF m 26 #[.val (.ref ob), .val (.int 1), .val (.int (((((0 : Int32) <<< ((8 : Int32) &&& 31)) ||| (ee21 &&& (255 : Int32))) <<< ((8 : Int32) &&& 31)) ||| (ee11 &&& (255 : Int32)))), .val (.int 0)] [(.int ee01), (.int ((((((0 : Int32) <<< ((8 : Int32) &&& 31)) ||| (ee21 &&& (255 : Int32))) <<< ((8 : Int32) &&& 31)) ||| (ee11 &&& (255 : Int32))) <<< ((8 : Int32) &&& 31)))])) (fun t k => X20.baloadBytes hx (j := (1 : Int32)) (v := (.int ee01)) (by rw [e20]; exact Ar22.1) (State.isArrayOf_alike hZ.alike Ar22.2.1) Ar22.2.2 hin22 hat22 (g := (mkF m 25 #[.val (.ref ob), .val (.int 1), .val (.int (((((0 : Int32) <<< ((8 : Int32) &&& 31)) ||| (ee21 &&& (255 : Int32))) <<< ((8 : Int32) &&& 31)) ||| (ee11 &&& (255 : Int32)))), .val (.int 0)] [(.int 1), (.ref y0), (.int ((((((0 : Int32) <<< ((8 : Int32) &&& 31)) ||| (ee21 &&& (255 : Int32))) <<< ((8 : Int32) &&& 31)) ||| (ee11 &&& (255 : Int32))) <<< ((8 : Int32) &&& 31)))])) rfl rfl (hb hby d4_25) _ k) ?_
    refine own_by (T' := T20) (g' := (mkF m 29 #[.val (.ref ob), .val (.int 1), .val (.int (((((0 : Int32) <<< ((8 : Int32) &&& 31)) ||| (ee21 &&& (255 : Int32))) <<< ((8 : Int32) &&& 31)) ||| (ee11 &&& (255 : Int32)))), .val (.int 0)] [(.int 255), (.int ee01), (.int ((((((0 : Int32) <<< ((8 : Int32) &&& 31)) ||| (ee21 &&& (255 : Int32))) <<< ((8 : Int32) &&& 31)) ||| (ee11 &&& (255 : Int32))) <<< ((8 : Int32) &&& 31)))])) (fun t k => XS.sipush X20.here hx rfl (hb hby d4_26) k) ?_
    refine own_by (T' := T20) (g' := (mkF m 30 #[.val (.ref ob), .val (.int 1), .val (.int (((((0 : Int32) <<< ((8 : Int32) &&& 31)) ||| (ee21 &&& (255 : Int32))) <<< ((8 : Int32) &&& 31)) ||| (ee11 &&& (255 : Int32)))), .val (.int 0)] [(.int (ee01 &&& (255 : Int32))), (.int ((((((0 : Int32) <<< ((8 : Int32) &&& 31)) ||| (ee21 &&& (255 : Int32))) <<< ((8 : Int32) &&& 31)) ||| (ee11 &&& (255 : Int32))) <<< ((8 : Int32) &&& 31)))])) (fun t k => XS.iand X20.here hx rfl (hb hby d4_29) rfl k) ?_
    refine own_by (T' := T20) (g' := (mkF m 31 #[.val (.ref ob), .val (.int 1), .val (.int (((((0 : Int32) <<< ((8 : Int32) &&& 31)) ||| (ee21 &&& (255 : Int32))) <<< ((8 : Int32) &&& 31)) ||| (ee11 &&& (255 : Int32)))), .val (.int 0)] [(.int (((((((0 : Int32) <<< ((8 : Int32) &&& 31)) ||| (ee21 &&& (255 : Int32))) <<< ((8 : Int32) &&& 31)) ||| (ee11 &&& (255 : Int32))) <<< ((8 : Int32) &&& 31)) ||| (ee01 &&& (255 : Int32))))])) (fun t k => XS.ior X20.here hx rfl (hb hby d4_30) rfl k) ?_
    refine own_by (T' := T20) (g' := (mkF m 32 #[.val (.ref ob), .val (.int 1), .val (.int (((((((0 : Int32) <<< ((8 : Int32) &&& 31)) ||| (ee21 &&& (255 : Int32))) <<< ((8 : Int32) &&& 31)) ||| (ee11 &&& (255 : Int32))) <<< ((8 : Int32) &&& 31)) ||| (ee01 &&& (255 : Int32)))), .val (.int 0)] [])) (fun t k => XS.istoreN X20.here hx rfl (hb hby d4_31) rfl (l' := #[.val (.ref ob), .val (.int 1), .val (.int (((((((0 : Int32) <<< ((8 : Int32) &&& 31)) ||| (ee21 &&& (255 : Int32))) <<< ((8 : Int32) &&& 31)) ||| (ee11 &&& (255 : Int32))) <<< ((8 : Int32) &&& 31)) ||| (ee01 &&& (255 : Int32)))), .val (.int 0)]) rfl k) ?_
    refine own_by (T' := T20) (g' := (mkF m 35 #[.val (.ref ob), .val (.int 1), .val (.int (((((((0 : Int32) <<< ((8 : Int32) &&& 31)) ||| (ee21 &&& (255 : Int32))) <<< ((8 : Int32) &&& 31)) ||| (ee11 &&& (255 : Int32))) <<< ((8 : Int32) &&& 31)) ||| (ee01 &&& (255 : Int32)))), .val (.int (-1))] [])) (fun t k => XS.iinc X20.here hx rfl (hb hby d4_32) rfl (l' := #[.val (.ref ob), .val (.int 1), .val (.int (((((((0 : Int32) <<< ((8 : Int32) &&& 31)) ||| (ee21 &&& (255 : Int32))) <<< ((8 : Int32) &&& 31)) ||| (ee11 &&& (255 : Int32))) <<< ((8 : Int32) &&& 31)) ||| (ee01 &&& (255 : Int32)))), .val (.int (-1))]) rfl k) ?_
    refine own_by (T' := T20) (g' := (mkF m 10 #[.val (.ref ob), .val (.int 1), .val (.int (((((((0 : Int32) <<< ((8 : Int32) &&& 31)) ||| (ee21 &&& (255 : Int32))) <<< ((8 : Int32) &&& 31)) ||| (ee11 &&& (255 : Int32))) <<< ((8 : Int32) &&& 31)) ||| (ee01 &&& (255 : Int32)))), .val (.int (-1))] [])) (fun t k => XS.goto X20.here hx rfl (pc0 := 35) (pc' := 10) rfl (hb hby d4_35) (by decide) (by decide) k) ?_
    refine own_by (T' := T20) (g' := (mkF m 11 #[.val (.ref ob), .val (.int 1), .val (.int (((((((0 : Int32) <<< ((8 : Int32) &&& 31)) ||| (ee21 &&& (255 : Int32))) <<< ((8 : Int32) &&& 31)) ||| (ee11 &&& (255 : Int32))) <<< ((8 : Int32) &&& 31)) ||| (ee01 &&& (255 : Int32)))), .val (.int (-1))] [(.int (-1))])) (fun t k => XS.iloadN X20.here hx rfl (hb hby d4_10) rfl k) ?_
    refine own_by (T' := T20) (g' := (mkF m 38 #[.val (.ref ob), .val (.int 1), .val (.int (((((((0 : Int32) <<< ((8 : Int32) &&& 31)) ||| (ee21 &&& (255 : Int32))) <<< ((8 : Int32) &&& 31)) ||| (ee11 &&& (255 : Int32))) <<< ((8 : Int32) &&& 31)) ||| (ee01 &&& (255 : Int32)))), .val (.int (-1))] [])) (fun t k => XS.ifYes X20.here hx rfl (pc0 := 11) (pc' := 38) rfl (hb hby d4_11) rfl ((if0 _ _).trans (tlt (by decide)).1) (by decide) (by decide) k) ?_
    refine own_by (T' := T20) (g' := (mkF m 39 #[.val (.ref ob), .val (.int 1), .val (.int (((((((0 : Int32) <<< ((8 : Int32) &&& 31)) ||| (ee21 &&& (255 : Int32))) <<< ((8 : Int32) &&& 31)) ||| (ee11 &&& (255 : Int32))) <<< ((8 : Int32) &&& 31)) ||| (ee01 &&& (255 : Int32)))), .val (.int (-1))] [(.int (((((((0 : Int32) <<< ((8 : Int32) &&& 31)) ||| (ee21 &&& (255 : Int32))) <<< ((8 : Int32) &&& 31)) ||| (ee11 &&& (255 : Int32))) <<< ((8 : Int32) &&& 31)) ||| (ee01 &&& (255 : Int32))))])) (fun t k => XS.iloadN X20.here hx rfl (hb hby d4_38) rfl k) ?_
    exact own_retI X20 hx Bd.notSynchronized Bd.returns (hb hby d4_39) (by decide) (by decide) (by rw [e20]; exact ⟨rfl, N_, rfl⟩)
  · refine own_by (T' := s₁) (g' := (mkF m 1 #[.val (.ref ob), .val (.int 2), .unset, .unset] [(.int 0)])) (fun t k => XS.iconst X0.here hx rfl (hb hby d4_0) k) ?_
    refine own_by (T' := s₁) (g' := (mkF m 2 #[.val (.ref ob), .val (.int 2), .val (.int 0), .unset] [])) (fun t k => XS.istoreN X0.here hx rfl (hb hby d4_1) rfl (l' := #[.val (.ref ob), .val (.int 2), .val (.int 0), .unset]) rfl k) ?_
    refine own_by (T' := s₁) (g' := (mkF m 3 #[.val (.ref ob), .val (.int 2), .val (.int 0), .unset] [(.ref ob)])) (fun t k => XS.aloadN X0.here hx rfl (hb hby d4_2) rfl rfl k) ?_
    obtain ⟨T23, X23, e23, st23⟩ := getF X0 hx hZ hown (host := "") (Or.inl (hw _ (own_m 16 rfl))) Via.refl e0 F_planes_ob (g := (mkF m 3 #[.val (.ref ob), .val (.int 2), .val (.int 0), .unset] [(.ref ob)])) rfl rfl (hb hby d4_3)
    refine own_by (T' := T23) (g' := (mkF m 6 #[.val (.ref ob), .val (.int 2), .val (.int 0), .unset] [(.ref b)])) (fun t k => st23 t k) ?_
    obtain ⟨cl24, Ar24, -, S24, N24, -, -⟩ := id V_b
    have st24 : ∀ t, Steps p.tables e below (T23.setTop (mkF m 7 #[.val (.ref ob), .val (.int 2), .val (.int 0), .unset] [(.int 3)])) t → Steps p.tables e below (T23.setTop (mkF m 6 #[.val (.ref ob), .val (.int 2), .val (.int 0), .unset] [(.ref b)])) t := fun t k => X23.arraylength hx (by rw [e23]; exact Ar24.1) (State.isArrayOf_alike hZ.alike Ar24.2.1) (g := (mkF m 6 #[.val (.ref ob), .val (.int 2), .val (.int 0), .unset] [(.ref b)])) rfl rfl (hb hby d4_6) _ (by rw [len_of S24 N24]; exact k)
    refine own_by (T' := T23) (g' := (mkF m 7 #[.val (.ref ob), .val (.int 2), .val (.int 0), .unset] [(.int 3)])) (fun t k => st24 t k) ?_
    refine own_by (T' := T23) (g' := (mkF m 8 #[.val (.ref ob), .val (.int 2), .val (.int 0), .unset] [(.int 1), (.int 3)])) (fun t k => XS.iconst X23.here hx rfl (hb hby d4_7) k) ?_
    refine own_by (T' := T23) (g' := (mkF m 9 #[.val (.ref ob), .val (.int 2), .val (.int 0), .unset] [(.int 2)])) (fun t k => XS.isub X23.here hx rfl (hb hby d4_8) rfl k) ?_
    refine own_by (T' := T23) (g' := (mkF m 10 #[.val (.ref ob), .val (.int 2), .val (.int 0), .val (.int 2)] [])) (fun t k => XS.istoreN X23.here hx rfl (hb hby d4_9) rfl (l' := #[.val (.ref ob), .val (.int 2), .val (.int 0), .val (.int 2)]) rfl k) ?_
    refine own_by (T' := T23) (g' := (mkF m 11 #[.val (.ref ob), .val (.int 2), .val (.int 0), .val (.int 2)] [(.int 2)])) (fun t k => XS.iloadN X23.here hx rfl (hb hby d4_10) rfl k) ?_
    refine own_by (T' := T23) (g' := (mkF m 14 #[.val (.ref ob), .val (.int 2), .val (.int 0), .val (.int 2)] [])) (fun t k => XS.ifNo X23.here hx rfl (hb hby d4_11) rfl ((if0 _ _).trans (flt (by decide)).1) k) ?_
    refine own_by (T' := T23) (g' := (mkF m 15 #[.val (.ref ob), .val (.int 2), .val (.int 0), .val (.int 2)] [(.int 0)])) (fun t k => XS.iloadN X23.here hx rfl (hb hby d4_14) rfl k) ?_
    refine own_by (T' := T23) (g' := (mkF m 17 #[.val (.ref ob), .val (.int 2), .val (.int 0), .val (.int 2)] [(.int 8), (.int 0)])) (fun t k => XS.bipush X23.here hx rfl (hb hby d4_15) k) ?_
    refine own_by (T' := T23) (g' := (mkF m 18 #[.val (.ref ob), .val (.int 2), .val (.int 0), .val (.int 2)] [(.int ((0 : Int32) <<< ((8 : Int32) &&& 31)))])) (fun t k => XS.ishl X23.here hx rfl (hb hby d4_17) rfl k) ?_
    refine own_by (T' := T23) (g' := (mkF m 19 #[.val (.ref ob), .val (.int 2), .val (.int 0), .val (.int 2)] [(.ref ob), (.int ((0 : Int32) <<< ((8 : Int32) &&& 31)))])) (fun t k => XS.aloadN X23.here hx rfl (hb hby d4_18) rfl rfl k) ?_
    obtain ⟨T25, X25, e25, st25⟩ := getF X23 hx hZ hown (host := "") (Or.inl (hw _ (own_m 16 rfl))) Via.refl e23 F_planes_ob (g := (mkF m 19 #[.val (.ref ob), .val (.int 2), .val (.int 0), .val (.int 2)] [(.ref ob), (.int ((0 : Int32) <<< ((8 : Int32) &&& 31)))])) rfl rfl (hb hby d4_19)
    refine own_by (T' := T25) (g' := (mkF m 22 #[.val (.ref ob), .val (.int 2), .val (.int 0), .val (.int 2)] [(.ref b), (.int ((0 : Int32) <<< ((8 : Int32) &&& 31)))])) (fun t k => st25 t k) ?_
    refine own_by (T' := T25) (g' := (mkF m 23 #[.val (.ref ob), .val (.int 2), .val (.int 0), .val (.int 2)] [(.int 2), (.ref b), (.int ((0 : Int32) <<< ((8 : Int32) &&& 31)))])) (fun t k => XS.iloadN X25.here hx rfl (hb hby d4_22) rfl k) ?_
    obtain ⟨cl26, Ar26, q26, S26, N26, Hs26, G26⟩ := id V_b
    have hin26 : ¬ ((2 : Int32) < 0 ∨ cl26.slots.size ≤ ((2 : Int32)).toNatClampNeg) := inb_of S26 ⟨by decide, by decide⟩
    have hat26 : cl26.slots[((2 : Int32)).toNatClampNeg]? = some (.ref y2) := Hs26.at hin26 rfl
    refine own_by (T' := T25) (g' := (mkF m 24 #[.val (.ref ob), .val (.int 2), .val (.int 0), .val (.int 2)] [(.ref y2), (.int ((0 : Int32) <<< ((8 : Int32) &&& 31)))])) (fun t k => X25.aaload hx (j := (2 : Int32)) (v := (.ref y2)) (by rw [e25]; exact Ar26.1) (State.isArrayOf_alike hZ.alike Ar26.2.1) rfl Ar26.2.2 hin26 hat26 (g := (mkF m 23 #[.val (.ref ob), .val (.int 2), .val (.int 0), .val (.int 2)] [(.int 2), (.ref b), (.int ((0 : Int32) <<< ((8 : Int32) &&& 31)))])) rfl rfl (hb hby d4_23) _ k) ?_
    refine own_by (T' := T25) (g' := (mkF m 25 #[.val (.ref ob), .val (.int 2), .val (.int 0), .val (.int 2)] [(.int 2), (.ref y2), (.int ((0 : Int32) <<< ((8 : Int32) &&& 31)))])) (fun t k => XS.iloadN X25.here hx rfl (hb hby d4_24) rfl k) ?_
    obtain ⟨cl27, Ar27, q27, S27, N27, Hs27, G27⟩ := id V_y2
    have hin27 : ¬ ((2 : Int32) < 0 ∨ cl27.slots.size ≤ ((2 : Int32)).toNatClampNeg) := inb_of S27 ⟨by decide, by decide⟩
    have hat27 : cl27.slots[((2 : Int32)).toNatClampNeg]? = some (.int ee22) := Hs27.at hin27 rfl
    refine own_by (T' := T25) (g' := (mkF m 26 #[.val (.ref ob), .val (.int 2), .val (.int 0), .val (.int 2)] [(.int ee22), (.int ((0 : Int32) <<< ((8 : Int32) &&& 31)))])) (fun t k => X25.baloadBytes hx (j := (2 : Int32)) (v := (.int ee22)) (by rw [e25]; exact Ar27.1) (State.isArrayOf_alike hZ.alike Ar27.2.1) Ar27.2.2 hin27 hat27 (g := (mkF m 25 #[.val (.ref ob), .val (.int 2), .val (.int 0), .val (.int 2)] [(.int 2), (.ref y2), (.int ((0 : Int32) <<< ((8 : Int32) &&& 31)))])) rfl rfl (hb hby d4_25) _ k) ?_
    refine own_by (T' := T25) (g' := (mkF m 29 #[.val (.ref ob), .val (.int 2), .val (.int 0), .val (.int 2)] [(.int 255), (.int ee22), (.int ((0 : Int32) <<< ((8 : Int32) &&& 31)))])) (fun t k => XS.sipush X25.here hx rfl (hb hby d4_26) k) ?_
    refine own_by (T' := T25) (g' := (mkF m 30 #[.val (.ref ob), .val (.int 2), .val (.int 0), .val (.int 2)] [(.int (ee22 &&& (255 : Int32))), (.int ((0 : Int32) <<< ((8 : Int32) &&& 31)))])) (fun t k => XS.iand X25.here hx rfl (hb hby d4_29) rfl k) ?_
    refine own_by (T' := T25) (g' := (mkF m 31 #[.val (.ref ob), .val (.int 2), .val (.int 0), .val (.int 2)] [(.int (((0 : Int32) <<< ((8 : Int32) &&& 31)) ||| (ee22 &&& (255 : Int32))))])) (fun t k => XS.ior X25.here hx rfl (hb hby d4_30) rfl k) ?_
    refine own_by (T' := T25) (g' := (mkF m 32 #[.val (.ref ob), .val (.int 2), .val (.int (((0 : Int32) <<< ((8 : Int32) &&& 31)) ||| (ee22 &&& (255 : Int32)))), .val (.int 2)] [])) (fun t k => XS.istoreN X25.here hx rfl (hb hby d4_31) rfl (l' := #[.val (.ref ob), .val (.int 2), .val (.int (((0 : Int32) <<< ((8 : Int32) &&& 31)) ||| (ee22 &&& (255 : Int32)))), .val (.int 2)]) rfl k) ?_
    refine own_by (T' := T25) (g' := (mkF m 35 #[.val (.ref ob), .val (.int 2), .val (.int (((0 : Int32) <<< ((8 : Int32) &&& 31)) ||| (ee22 &&& (255 : Int32)))), .val (.int 1)] [])) (fun t k => XS.iinc X25.here hx rfl (hb hby d4_32) rfl (l' := #[.val (.ref ob), .val (.int 2), .val (.int (((0 : Int32) <<< ((8 : Int32) &&& 31)) ||| (ee22 &&& (255 : Int32)))), .val (.int 1)]) rfl k) ?_
    refine own_by (T' := T25) (g' := (mkF m 10 #[.val (.ref ob), .val (.int 2), .val (.int (((0 : Int32) <<< ((8 : Int32) &&& 31)) ||| (ee22 &&& (255 : Int32)))), .val (.int 1)] [])) (fun t k => XS.goto X25.here hx rfl (pc0 := 35) (pc' := 10) rfl (hb hby d4_35) (by decide) (by decide) k) ?_
    refine own_by (T' := T25) (g' := (mkF m 11 #[.val (.ref ob), .val (.int 2), .val (.int (((0 : Int32) <<< ((8 : Int32) &&& 31)) ||| (ee22 &&& (255 : Int32)))), .val (.int 1)] [(.int 1)])) (fun t k => XS.iloadN X25.here hx rfl (hb hby d4_10) rfl k) ?_
    refine own_by (T' := T25) (g' := (mkF m 14 #[.val (.ref ob), .val (.int 2), .val (.int (((0 : Int32) <<< ((8 : Int32) &&& 31)) ||| (ee22 &&& (255 : Int32)))), .val (.int 1)] [])) (fun t k => XS.ifNo X25.here hx rfl (hb hby d4_11) rfl ((if0 _ _).trans (flt (by decide)).1) k) ?_
    refine own_by (T' := T25) (g' := (mkF m 15 #[.val (.ref ob), .val (.int 2), .val (.int (((0 : Int32) <<< ((8 : Int32) &&& 31)) ||| (ee22 &&& (255 : Int32)))), .val (.int 1)] [(.int (((0 : Int32) <<< ((8 : Int32) &&& 31)) ||| (ee22 &&& (255 : Int32))))])) (fun t k => XS.iloadN X25.here hx rfl (hb hby d4_14) rfl k) ?_
    refine own_by (T' := T25) (g' := (mkF m 17 #[.val (.ref ob), .val (.int 2), .val (.int (((0 : Int32) <<< ((8 : Int32) &&& 31)) ||| (ee22 &&& (255 : Int32)))), .val (.int 1)] [(.int 8), (.int (((0 : Int32) <<< ((8 : Int32) &&& 31)) ||| (ee22 &&& (255 : Int32))))])) (fun t k => XS.bipush X25.here hx rfl (hb hby d4_15) k) ?_
    refine own_by (T' := T25) (g' := (mkF m 18 #[.val (.ref ob), .val (.int 2), .val (.int (((0 : Int32) <<< ((8 : Int32) &&& 31)) ||| (ee22 &&& (255 : Int32)))), .val (.int 1)] [(.int ((((0 : Int32) <<< ((8 : Int32) &&& 31)) ||| (ee22 &&& (255 : Int32))) <<< ((8 : Int32) &&& 31)))])) (fun t k => XS.ishl X25.here hx rfl (hb hby d4_17) rfl k) ?_
    refine own_by (T' := T25) (g' := (mkF m 19 #[.val (.ref ob), .val (.int 2), .val (.int (((0 : Int32) <<< ((8 : Int32) &&& 31)) ||| (ee22 &&& (255 : Int32)))), .val (.int 1)] [(.ref ob), (.int ((((0 : Int32) <<< ((8 : Int32) &&& 31)) ||| (ee22 &&& (255 : Int32))) <<< ((8 : Int32) &&& 31)))])) (fun t k => XS.aloadN X25.here hx rfl (hb hby d4_18) rfl rfl k) ?_
    obtain ⟨T28, X28, e28, st28⟩ := getF X25 hx hZ hown (host := "") (Or.inl (hw _ (own_m 16 rfl))) Via.refl e25 F_planes_ob (g := (mkF m 19 #[.val (.ref ob), .val (.int 2), .val (.int (((0 : Int32) <<< ((8 : Int32) &&& 31)) ||| (ee22 &&& (255 : Int32)))), .val (.int 1)] [(.ref ob), (.int ((((0 : Int32) <<< ((8 : Int32) &&& 31)) ||| (ee22 &&& (255 : Int32))) <<< ((8 : Int32) &&& 31)))])) rfl rfl (hb hby d4_19)
    refine own_by (T' := T28) (g' := (mkF m 22 #[.val (.ref ob), .val (.int 2), .val (.int (((0 : Int32) <<< ((8 : Int32) &&& 31)) ||| (ee22 &&& (255 : Int32)))), .val (.int 1)] [(.ref b), (.int ((((0 : Int32) <<< ((8 : Int32) &&& 31)) ||| (ee22 &&& (255 : Int32))) <<< ((8 : Int32) &&& 31)))])) (fun t k => st28 t k) ?_
    refine own_by (T' := T28) (g' := (mkF m 23 #[.val (.ref ob), .val (.int 2), .val (.int (((0 : Int32) <<< ((8 : Int32) &&& 31)) ||| (ee22 &&& (255 : Int32)))), .val (.int 1)] [(.int 1), (.ref b), (.int ((((0 : Int32) <<< ((8 : Int32) &&& 31)) ||| (ee22 &&& (255 : Int32))) <<< ((8 : Int32) &&& 31)))])) (fun t k => XS.iloadN X28.here hx rfl (hb hby d4_22) rfl k) ?_
    obtain ⟨cl29, Ar29, q29, S29, N29, Hs29, G29⟩ := id V_b
    have hin29 : ¬ ((1 : Int32) < 0 ∨ cl29.slots.size ≤ ((1 : Int32)).toNatClampNeg) := inb_of S29 ⟨by decide, by decide⟩
    have hat29 : cl29.slots[((1 : Int32)).toNatClampNeg]? = some (.ref y1) := Hs29.at hin29 rfl
    refine own_by (T' := T28) (g' := (mkF m 24 #[.val (.ref ob), .val (.int 2), .val (.int (((0 : Int32) <<< ((8 : Int32) &&& 31)) ||| (ee22 &&& (255 : Int32)))), .val (.int 1)] [(.ref y1), (.int ((((0 : Int32) <<< ((8 : Int32) &&& 31)) ||| (ee22 &&& (255 : Int32))) <<< ((8 : Int32) &&& 31)))])) (fun t k => X28.aaload hx (j := (1 : Int32)) (v := (.ref y1)) (by rw [e28]; exact Ar29.1) (State.isArrayOf_alike hZ.alike Ar29.2.1) rfl Ar29.2.2 hin29 hat29 (g := (mkF m 23 #[.val (.ref ob), .val (.int 2), .val (.int (((0 : Int32) <<< ((8 : Int32) &&& 31)) ||| (ee22 &&& (255 : Int32)))), .val (.int 1)] [(.int 1), (.ref b), (.int ((((0 : Int32) <<< ((8 : Int32) &&& 31)) ||| (ee22 &&& (255 : Int32))) <<< ((8 : Int32) &&& 31)))])) rfl rfl (hb hby d4_23) _ k) ?_
    refine own_by (T' := T28) (g' := (mkF m 25 #[.val (.ref ob), .val (.int 2), .val (.int (((0 : Int32) <<< ((8 : Int32) &&& 31)) ||| (ee22 &&& (255 : Int32)))), .val (.int 1)] [(.int 2), (.ref y1), (.int ((((0 : Int32) <<< ((8 : Int32) &&& 31)) ||| (ee22 &&& (255 : Int32))) <<< ((8 : Int32) &&& 31)))])) (fun t k => XS.iloadN X28.here hx rfl (hb hby d4_24) rfl k) ?_
    obtain ⟨cl30, Ar30, q30, S30, N30, Hs30, G30⟩ := id V_y1
    have hin30 : ¬ ((2 : Int32) < 0 ∨ cl30.slots.size ≤ ((2 : Int32)).toNatClampNeg) := inb_of S30 ⟨by decide, by decide⟩
    have hat30 : cl30.slots[((2 : Int32)).toNatClampNeg]? = some (.int ee12) := Hs30.at hin30 rfl
    refine own_by (T' := T28) (g' := (mkF m 26 #[.val (.ref ob), .val (.int 2), .val (.int (((0 : Int32) <<< ((8 : Int32) &&& 31)) ||| (ee22 &&& (255 : Int32)))), .val (.int 1)] [(.int ee12), (.int ((((0 : Int32) <<< ((8 : Int32) &&& 31)) ||| (ee22 &&& (255 : Int32))) <<< ((8 : Int32) &&& 31)))])) (fun t k => X28.baloadBytes hx (j := (2 : Int32)) (v := (.int ee12)) (by rw [e28]; exact Ar30.1) (State.isArrayOf_alike hZ.alike Ar30.2.1) Ar30.2.2 hin30 hat30 (g := (mkF m 25 #[.val (.ref ob), .val (.int 2), .val (.int (((0 : Int32) <<< ((8 : Int32) &&& 31)) ||| (ee22 &&& (255 : Int32)))), .val (.int 1)] [(.int 2), (.ref y1), (.int ((((0 : Int32) <<< ((8 : Int32) &&& 31)) ||| (ee22 &&& (255 : Int32))) <<< ((8 : Int32) &&& 31)))])) rfl rfl (hb hby d4_25) _ k) ?_
    refine own_by (T' := T28) (g' := (mkF m 29 #[.val (.ref ob), .val (.int 2), .val (.int (((0 : Int32) <<< ((8 : Int32) &&& 31)) ||| (ee22 &&& (255 : Int32)))), .val (.int 1)] [(.int 255), (.int ee12), (.int ((((0 : Int32) <<< ((8 : Int32) &&& 31)) ||| (ee22 &&& (255 : Int32))) <<< ((8 : Int32) &&& 31)))])) (fun t k => XS.sipush X28.here hx rfl (hb hby d4_26) k) ?_
    refine own_by (T' := T28) (g' := (mkF m 30 #[.val (.ref ob), .val (.int 2), .val (.int (((0 : Int32) <<< ((8 : Int32) &&& 31)) ||| (ee22 &&& (255 : Int32)))), .val (.int 1)] [(.int (ee12 &&& (255 : Int32))), (.int ((((0 : Int32) <<< ((8 : Int32) &&& 31)) ||| (ee22 &&& (255 : Int32))) <<< ((8 : Int32) &&& 31)))])) (fun t k => XS.iand X28.here hx rfl (hb hby d4_29) rfl k) ?_
    refine own_by (T' := T28) (g' := (mkF m 31 #[.val (.ref ob), .val (.int 2), .val (.int (((0 : Int32) <<< ((8 : Int32) &&& 31)) ||| (ee22 &&& (255 : Int32)))), .val (.int 1)] [(.int (((((0 : Int32) <<< ((8 : Int32) &&& 31)) ||| (ee22 &&& (255 : Int32))) <<< ((8 : Int32) &&& 31)) ||| (ee12 &&& (255 : Int32))))])) (fun t k => XS.ior X28.here hx rfl (hb hby d4_30) rfl k) ?_
    refine own_by (T' := T28) (g' := (mkF m 32 #[.val (.ref ob), .val (.int 2), .val (.int (((((0 : Int32) <<< ((8 : Int32) &&& 31)) ||| (ee22 &&& (255 : Int32))) <<< ((8 : Int32) &&& 31)) ||| (ee12 &&& (255 : Int32)))), .val (.int 1)] [])) (fun t k => XS.istoreN X28.here hx rfl (hb hby d4_31) rfl (l' := #[.val (.ref ob), .val (.int 2), .val (.int (((((0 : Int32) <<< ((8 : Int32) &&& 31)) ||| (ee22 &&& (255 : Int32))) <<< ((8 : Int32) &&& 31)) ||| (ee12 &&& (255 : Int32)))), .val (.int 1)]) rfl k) ?_
    refine own_by (T' := T28) (g' := (mkF m 35 #[.val (.ref ob), .val (.int 2), .val (.int (((((0 : Int32) <<< ((8 : Int32) &&& 31)) ||| (ee22 &&& (255 : Int32))) <<< ((8 : Int32) &&& 31)) ||| (ee12 &&& (255 : Int32)))), .val (.int 0)] [])) (fun t k => XS.iinc X28.here hx rfl (hb hby d4_32) rfl (l' := #[.val (.ref ob), .val (.int 2), .val (.int (((((0 : Int32) <<< ((8 : Int32) &&& 31)) ||| (ee22 &&& (255 : Int32))) <<< ((8 : Int32) &&& 31)) ||| (ee12 &&& (255 : Int32)))), .val (.int 0)]) rfl k) ?_
    refine own_by (T' := T28) (g' := (mkF m 10 #[.val (.ref ob), .val (.int 2), .val (.int (((((0 : Int32) <<< ((8 : Int32) &&& 31)) ||| (ee22 &&& (255 : Int32))) <<< ((8 : Int32) &&& 31)) ||| (ee12 &&& (255 : Int32)))), .val (.int 0)] [])) (fun t k => XS.goto X28.here hx rfl (pc0 := 35) (pc' := 10) rfl (hb hby d4_35) (by decide) (by decide) k) ?_
    refine own_by (T' := T28) (g' := (mkF m 11 #[.val (.ref ob), .val (.int 2), .val (.int (((((0 : Int32) <<< ((8 : Int32) &&& 31)) ||| (ee22 &&& (255 : Int32))) <<< ((8 : Int32) &&& 31)) ||| (ee12 &&& (255 : Int32)))), .val (.int 0)] [(.int 0)])) (fun t k => XS.iloadN X28.here hx rfl (hb hby d4_10) rfl k) ?_
    refine own_by (T' := T28) (g' := (mkF m 14 #[.val (.ref ob), .val (.int 2), .val (.int (((((0 : Int32) <<< ((8 : Int32) &&& 31)) ||| (ee22 &&& (255 : Int32))) <<< ((8 : Int32) &&& 31)) ||| (ee12 &&& (255 : Int32)))), .val (.int 0)] [])) (fun t k => XS.ifNo X28.here hx rfl (hb hby d4_11) rfl ((if0 _ _).trans (flt (by decide)).1) k) ?_
    refine own_by (T' := T28) (g' := (mkF m 15 #[.val (.ref ob), .val (.int 2), .val (.int (((((0 : Int32) <<< ((8 : Int32) &&& 31)) ||| (ee22 &&& (255 : Int32))) <<< ((8 : Int32) &&& 31)) ||| (ee12 &&& (255 : Int32)))), .val (.int 0)] [(.int (((((0 : Int32) <<< ((8 : Int32) &&& 31)) ||| (ee22 &&& (255 : Int32))) <<< ((8 : Int32) &&& 31)) ||| (ee12 &&& (255 : Int32))))])) (fun t k => XS.iloadN X28.here hx rfl (hb hby d4_14) rfl k) ?_
    refine own_by (T' := T28) (g' := (mkF m 17 #[.val (.ref ob), .val (.int 2), .val (.int (((((0 : Int32) <<< ((8 : Int32) &&& 31)) ||| (ee22 &&& (255 : Int32))) <<< ((8 : Int32) &&& 31)) ||| (ee12 &&& (255 : Int32)))), .val (.int 0)] [(.int 8), (.int (((((0 : Int32) <<< ((8 : Int32) &&& 31)) ||| (ee22 &&& (255 : Int32))) <<< ((8 : Int32) &&& 31)) ||| (ee12 &&& (255 : Int32))))])) (fun t k => XS.bipush X28.here hx rfl (hb hby d4_15) k) ?_
    refine own_by (T' := T28) (g' := (mkF m 18 #[.val (.ref ob), .val (.int 2), .val (.int (((((0 : Int32) <<< ((8 : Int32) &&& 31)) ||| (ee22 &&& (255 : Int32))) <<< ((8 : Int32) &&& 31)) ||| (ee12 &&& (255 : Int32)))), .val (.int 0)] [(.int ((((((0 : Int32) <<< ((8 : Int32) &&& 31)) ||| (ee22 &&& (255 : Int32))) <<< ((8 : Int32) &&& 31)) ||| (ee12 &&& (255 : Int32))) <<< ((8 : Int32) &&& 31)))])) (fun t k => XS.ishl X28.here hx rfl (hb hby d4_17) rfl k) ?_
    refine own_by (T' := T28) (g' := (mkF m 19 #[.val (.ref ob), .val (.int 2), .val (.int (((((0 : Int32) <<< ((8 : Int32) &&& 31)) ||| (ee22 &&& (255 : Int32))) <<< ((8 : Int32) &&& 31)) ||| (ee12 &&& (255 : Int32)))), .val (.int 0)] [(.ref ob), (.int ((((((0 : Int32) <<< ((8 : Int32) &&& 31)) ||| (ee22 &&& (255 : Int32))) <<< ((8 : Int32) &&& 31)) ||| (ee12 &&& (255 : Int32))) <<< ((8 : Int32) &&& 31)))])) (fun t k => XS.aloadN X28.here hx rfl (hb hby d4_18) rfl rfl k) ?_
    obtain ⟨T31, X31, e31, st31⟩ := getF X28 hx hZ hown (host := "") (Or.inl (hw _ (own_m 16 rfl))) Via.refl e28 F_planes_ob (g := (mkF m 19 #[.val (.ref ob), .val (.int 2), .val (.int (((((0 : Int32) <<< ((8 : Int32) &&& 31)) ||| (ee22 &&& (255 : Int32))) <<< ((8 : Int32) &&& 31)) ||| (ee12 &&& (255 : Int32)))), .val (.int 0)] [(.ref ob), (.int ((((((0 : Int32) <<< ((8 : Int32) &&& 31)) ||| (ee22 &&& (255 : Int32))) <<< ((8 : Int32) &&& 31)) ||| (ee12 &&& (255 : Int32))) <<< ((8 : Int32) &&& 31)))])) rfl rfl (hb hby d4_19)
    refine own_by (T' := T31) (g' := (mkF m 22 #[.val (.ref ob), .val (.int 2), .val (.int (((((0 : Int32) <<< ((8 : Int32) &&& 31)) ||| (ee22 &&& (255 : Int32))) <<< ((8 : Int32) &&& 31)) ||| (ee12 &&& (255 : Int32)))), .val (.int 0)] [(.ref b), (.int ((((((0 : Int32) <<< ((8 : Int32) &&& 31)) ||| (ee22 &&& (255 : Int32))) <<< ((8 : Int32) &&& 31)) ||| (ee12 &&& (255 : Int32))) <<< ((8 : Int32) &&& 31)))])) (fun t k => st31 t k) ?_
    refine own_by (T' := T31) (g' := (mkF m 23 #[.val (.ref ob), .val (.int 2), .val (.int (((((0 : Int32) <<< ((8 : Int32) &&& 31)) ||| (ee22 &&& (255 : Int32))) <<< ((8 : Int32) &&& 31)) ||| (ee12 &&& (255 : Int32)))), .val (.int 0)] [(.int 0), (.ref b), (.int ((((((0 : Int32) <<< ((8 : Int32) &&& 31)) ||| (ee22 &&& (255 : Int32))) <<< ((8 : Int32) &&& 31)) ||| (ee12 &&& (255 : Int32))) <<< ((8 : Int32) &&& 31)))])) (fun t k => XS.iloadN X31.here hx rfl (hb hby d4_22) rfl k) ?_
    obtain ⟨cl32, Ar32, q32, S32, N32, Hs32, G32⟩ := id V_b
    have hin32 : ¬ ((0 : Int32) < 0 ∨ cl32.slots.size ≤ ((0 : Int32)).toNatClampNeg) := inb_of S32 ⟨by decide, by decide⟩
    have hat32 : cl32.slots[((0 : Int32)).toNatClampNeg]? = some (.ref y0) := Hs32.at hin32 rfl
    refine own_by (T' := T31) (g' := (mkF m 24 #[.val (.ref ob), .val (.int 2), .val (.int (((((0 : Int32) <<< ((8 : Int32) &&& 31)) ||| (ee22 &&& (255 : Int32))) <<< ((8 : Int32) &&& 31)) ||| (ee12 &&& (255 : Int32)))), .val (.int 0)] [(.ref y0), (.int ((((((0 : Int32) <<< ((8 : Int32) &&& 31)) ||| (ee22 &&& (255 : Int32))) <<< ((8 : Int32) &&& 31)) ||| (ee12 &&& (255 : Int32))) <<< ((8 : Int32) &&& 31)))])) (fun t k => X31.aaload hx (j := (0 : Int32)) (v := (.ref y0)) (by rw [e31]; exact Ar32.1) (State.isArrayOf_alike hZ.alike Ar32.2.1) rfl Ar32.2.2 hin32 hat32 (g := (mkF m 23 #[.val (.ref ob), .val (.int 2), .val (.int (((((0 : Int32) <<< ((8 : Int32) &&& 31)) ||| (ee22 &&& (255 : Int32))) <<< ((8 : Int32) &&& 31)) ||| (ee12 &&& (255 : Int32)))), .val (.int 0)] [(.int 0), (.ref b), (.int ((((((0 : Int32) <<< ((8 : Int32) &&& 31)) ||| (ee22 &&& (255 : Int32))) <<< ((8 : Int32) &&& 31)) ||| (ee12 &&& (255 : Int32))) <<< ((8 : Int32) &&& 31)))])) rfl rfl (hb hby d4_23) _ k) ?_
    refine own_by (T' := T31) (g' := (mkF m 25 #[.val (.ref ob), .val (.int 2), .val (.int (((((0 : Int32) <<< ((8 : Int32) &&& 31)) ||| (ee22 &&& (255 : Int32))) <<< ((8 : Int32) &&& 31)) ||| (ee12 &&& (255 : Int32)))), .val (.int 0)] [(.int 2), (.ref y0), (.int ((((((0 : Int32) <<< ((8 : Int32) &&& 31)) ||| (ee22 &&& (255 : Int32))) <<< ((8 : Int32) &&& 31)) ||| (ee12 &&& (255 : Int32))) <<< ((8 : Int32) &&& 31)))])) (fun t k => XS.iloadN X31.here hx rfl (hb hby d4_24) rfl k) ?_
    obtain ⟨cl33, Ar33, q33, S33, N33, Hs33, G33⟩ := id V_y0
    have hin33 : ¬ ((2 : Int32) < 0 ∨ cl33.slots.size ≤ ((2 : Int32)).toNatClampNeg) := inb_of S33 ⟨by decide, by decide⟩
    have hat33 : cl33.slots[((2 : Int32)).toNatClampNeg]? = some (.int ee02) := Hs33.at hin33 rfl
    refine own_by (T' := T31) (g' := (mkF m 26 #[.val (.ref ob), .val (.int 2), .val (.int (((((0 : Int32) <<< ((8 : Int32) &&& 31)) ||| (ee22 &&& (255 : Int32))) <<< ((8 : Int32) &&& 31)) ||| (ee12 &&& (255 : Int32)))), .val (.int 0)] [(.int ee02), (.int ((((((0 : Int32) <<< ((8 : Int32) &&& 31)) ||| (ee22 &&& (255 : Int32))) <<< ((8 : Int32) &&& 31)) ||| (ee12 &&& (255 : Int32))) <<< ((8 : Int32) &&& 31)))])) (fun t k => X31.baloadBytes hx (j := (2 : Int32)) (v := (.int ee02)) (by rw [e31]; exact Ar33.1) (State.isArrayOf_alike hZ.alike Ar33.2.1) Ar33.2.2 hin33 hat33 (g := (mkF m 25 #[.val (.ref ob), .val (.int 2), .val (.int (((((0 : Int32) <<< ((8 : Int32) &&& 31)) ||| (ee22 &&& (255 : Int32))) <<< ((8 : Int32) &&& 31)) ||| (ee12 &&& (255 : Int32)))), .val (.int 0)] [(.int 2), (.ref y0), (.int ((((((0 : Int32) <<< ((8 : Int32) &&& 31)) ||| (ee22 &&& (255 : Int32))) <<< ((8 : Int32) &&& 31)) ||| (ee12 &&& (255 : Int32))) <<< ((8 : Int32) &&& 31)))])) rfl rfl (hb hby d4_25) _ k) ?_
    refine own_by (T' := T31) (g' := (mkF m 29 #[.val (.ref ob), .val (.int 2), .val (.int (((((0 : Int32) <<< ((8 : Int32) &&& 31)) ||| (ee22 &&& (255 : Int32))) <<< ((8 : Int32) &&& 31)) ||| (ee12 &&& (255 : Int32)))), .val (.int 0)] [(.int 255), (.int ee02), (.int ((((((0 : Int32) <<< ((8 : Int32) &&& 31)) ||| (ee22 &&& (255 : Int32))) <<< ((8 : Int32) &&& 31)) ||| (ee12 &&& (255 : Int32))) <<< ((8 : Int32) &&& 31)))])) (fun t k => XS.sipush X31.here hx rfl (hb hby d4_26) k) ?_
    refine own_by (T' := T31) (g' := (mkF m 30 #[.val (.ref ob), .val (.int 2), .val (.int (((((0 : Int32) <<< ((8 : Int32) &&& 31)) ||| (ee22 &&& (255 : Int32))) <<< ((8 : Int32) &&& 31)) ||| (ee12 &&& (255 : Int32)))), .val (.int 0)] [(.int (ee02 &&& (255 : Int32))), (.int ((((((0 : Int32) <<< ((8 : Int32) &&& 31)) ||| (ee22 &&& (255 : Int32))) <<< ((8 : Int32) &&& 31)) ||| (ee12 &&& (255 : Int32))) <<< ((8 : Int32) &&& 31)))])) (fun t k => XS.iand X31.here hx rfl (hb hby d4_29) rfl k) ?_
    refine own_by (T' := T31) (g' := (mkF m 31 #[.val (.ref ob), .val (.int 2), .val (.int (((((0 : Int32) <<< ((8 : Int32) &&& 31)) ||| (ee22 &&& (255 : Int32))) <<< ((8 : Int32) &&& 31)) ||| (ee12 &&& (255 : Int32)))), .val (.int 0)] [(.int (((((((0 : Int32) <<< ((8 : Int32) &&& 31)) ||| (ee22 &&& (255 : Int32))) <<< ((8 : Int32) &&& 31)) ||| (ee12 &&& (255 : Int32))) <<< ((8 : Int32) &&& 31)) ||| (ee02 &&& (255 : Int32))))])) (fun t k => XS.ior X31.here hx rfl (hb hby d4_30) rfl k) ?_
    refine own_by (T' := T31) (g' := (mkF m 32 #[.val (.ref ob), .val (.int 2), .val (.int (((((((0 : Int32) <<< ((8 : Int32) &&& 31)) ||| (ee22 &&& (255 : Int32))) <<< ((8 : Int32) &&& 31)) ||| (ee12 &&& (255 : Int32))) <<< ((8 : Int32) &&& 31)) ||| (ee02 &&& (255 : Int32)))), .val (.int 0)] [])) (fun t k => XS.istoreN X31.here hx rfl (hb hby d4_31) rfl (l' := #[.val (.ref ob), .val (.int 2), .val (.int (((((((0 : Int32) <<< ((8 : Int32) &&& 31)) ||| (ee22 &&& (255 : Int32))) <<< ((8 : Int32) &&& 31)) ||| (ee12 &&& (255 : Int32))) <<< ((8 : Int32) &&& 31)) ||| (ee02 &&& (255 : Int32)))), .val (.int 0)]) rfl k) ?_
    refine own_by (T' := T31) (g' := (mkF m 35 #[.val (.ref ob), .val (.int 2), .val (.int (((((((0 : Int32) <<< ((8 : Int32) &&& 31)) ||| (ee22 &&& (255 : Int32))) <<< ((8 : Int32) &&& 31)) ||| (ee12 &&& (255 : Int32))) <<< ((8 : Int32) &&& 31)) ||| (ee02 &&& (255 : Int32)))), .val (.int (-1))] [])) (fun t k => XS.iinc X31.here hx rfl (hb hby d4_32) rfl (l' := #[.val (.ref ob), .val (.int 2), .val (.int (((((((0 : Int32) <<< ((8 : Int32) &&& 31)) ||| (ee22 &&& (255 : Int32))) <<< ((8 : Int32) &&& 31)) ||| (ee12 &&& (255 : Int32))) <<< ((8 : Int32) &&& 31)) ||| (ee02 &&& (255 : Int32)))), .val (.int (-1))]) rfl k) ?_
    refine own_by (T' := T31) (g' := (mkF m 10 #[.val (.ref ob), .val (.int 2), .val (.int (((((((0 : Int32) <<< ((8 : Int32) &&& 31)) ||| (ee22 &&& (255 : Int32))) <<< ((8 : Int32) &&& 31)) ||| (ee12 &&& (255 : Int32))) <<< ((8 : Int32) &&& 31)) ||| (ee02 &&& (255 : Int32)))), .val (.int (-1))] [])) (fun t k => XS.goto X31.here hx rfl (pc0 := 35) (pc' := 10) rfl (hb hby d4_35) (by decide) (by decide) k) ?_
    refine own_by (T' := T31) (g' := (mkF m 11 #[.val (.ref ob), .val (.int 2), .val (.int (((((((0 : Int32) <<< ((8 : Int32) &&& 31)) ||| (ee22 &&& (255 : Int32))) <<< ((8 : Int32) &&& 31)) ||| (ee12 &&& (255 : Int32))) <<< ((8 : Int32) &&& 31)) ||| (ee02 &&& (255 : Int32)))), .val (.int (-1))] [(.int (-1))])) (fun t k => XS.iloadN X31.here hx rfl (hb hby d4_10) rfl k) ?_
    refine own_by (T' := T31) (g' := (mkF m 38 #[.val (.ref ob), .val (.int 2), .val (.int (((((((0 : Int32) <<< ((8 : Int32) &&& 31)) ||| (ee22 &&& (255 : Int32))) <<< ((8 : Int32) &&& 31)) ||| (ee12 &&& (255 : Int32))) <<< ((8 : Int32) &&& 31)) ||| (ee02 &&& (255 : Int32)))), .val (.int (-1))] [])) (fun t k => XS.ifYes X31.here hx rfl (pc0 := 11) (pc' := 38) rfl (hb hby d4_11) rfl ((if0 _ _).trans (tlt (by decide)).1) (by decide) (by decide) k) ?_
    refine own_by (T' := T31) (g' := (mkF m 39 #[.val (.ref ob), .val (.int 2), .val (.int (((((((0 : Int32) <<< ((8 : Int32) &&& 31)) ||| (ee22 &&& (255 : Int32))) <<< ((8 : Int32) &&& 31)) ||| (ee12 &&& (255 : Int32))) <<< ((8 : Int32) &&& 31)) ||| (ee02 &&& (255 : Int32)))), .val (.int (-1))] [(.int (((((((0 : Int32) <<< ((8 : Int32) &&& 31)) ||| (ee22 &&& (255 : Int32))) <<< ((8 : Int32) &&& 31)) ||| (ee12 &&& (255 : Int32))) <<< ((8 : Int32) &&& 31)) ||| (ee02 &&& (255 : Int32))))])) (fun t k => XS.iloadN X31.here hx rfl (hb hby d4_38) rfl k) ?_
    exact own_retI X31 hx Bd.notSynchronized Bd.returns (hb hby d4_39) (by decide) (by decide) (by rw [e31]; exact ⟨rfl, N_, rfl⟩)

theorem pn_com_example_cipherloom_cipherloom_core_LettersGetPinLaw : plainName "com/example/cipherloom/cipherloom/core/LettersGetPinLaw" = true := by first | (simp [plainName, overriddenIn]; done) | decide +kernel
theorem ef_0 (m : MethodId) (x1 : Int32) (x2 : Int32) (x3 : Int32) (x4 : Int32) (x5 : Int32) : entryFrame m #[(.int x1), (.int x2), (.int x3), (.int x4), (.int x5)] maxLocals = mkF m 0 #[.val (.int x1), .val (.int x2), .val (.int x3), .val (.int x4), .val (.int x5), .unset, .unset, .unset, .unset, .unset, .unset, .unset] [] := by first | (simp [entryFrame, mkF, argsToLocals, Value.category, maxLocals]; done) | rfl
theorem pd_0 : parseMethodDescriptor "(JI)V" = some ⟨[.long, .int], none⟩ := by decide +kernel
theorem pd_2 : parseMethodDescriptor "(II)V" = some ⟨[.int, .int], none⟩ := by decide +kernel
theorem pd_3 : parseMethodDescriptor "(I)I" = some ⟨[.int], some .int⟩ := by decide +kernel
def Q0 (Z : State) (x1 : Int32) (x2 : Int32) (x3 : Int32) (x4 : Int32) (x5 : Int32) (h0 : Heap) (n0 : Nat) (v : Option Value) (h : Heap) (L : List Loc) : Prop := v = some (.int 1) ∧ Fr n0 L
set_option maxRecDepth 65536 in
set_option maxHeartbeats 40000000 in
theorem rm0 (l : Launch) (Z : State) (a0 : Array Value) (hw : ∀ d ∈ tables_1, d.before a0 Z = true) (ws : List Jvm.Cond) (x1 : Int32) (x2 : Int32) (x3 : Int32) (x4 : Int32) (x5 : Int32) (h0 : Heap) (n0 : Nat) (Zle : n0 ≤ h0.size) :
    MetFree l x (head1 (Jvm.Cond.code x code maxLocals ret :: ws) room_1) (fun a U => a = #[(.int x1), (.int x2), (.int x3), (.int x4), (.int x5)] ∧ Z.Warmed39 U.vm ∧ U.heap = h0) (fun _ _ _ _ _ => True) (fun _ U o U' => ∃ v L, o = .returned v ∧ Q0 Z x1 x2 x3 x4 x5 h0 n0 v U'.heap L ∧ FrameEnd U o U' L room_1.cells room_1.slots) := by
  refine MetFree.of_bodySF (plainFor_of_name pn_com_example_cipherloom_cipherloom_core_LettersGetPinLaw) hisR ?_
  intro p e s m args below meth c s₁ Bd hml0 hP hK
  obtain ⟨rfl, hZ, hh⟩ := hP
  have hx := Bd.exec
  have hby := Bd.bytes
  have hml : c.maxLocals = 12 := hml0
  have hown : s.vm.findClass "com/example/cipherloom/cipherloom/core/LettersGetPinLaw" = some m.cls := findClass_of_methodNamed Bd.named
  have hnm := (name_of_methodNamed Bd.named Bd.method).1
  have X0 : Stand p l e room_1 s m #[(.int x1), (.int x2), (.int x3), (.int x4), (.int x5)] below meth c s₁ [] 0 0 := Stand.of_body Bd
  have e0 : s₁.heap = h0 := by rw [← hh, Bd.state]; rfl
  have N_ := Fr.nil n0
  show own_Goes p.tables e below s (Q0 Z x1 x2 x3 x4 x5 h0 n0) room_1.cells room_1.slots s₁ (entryFrame m #[(.int x1), (.int x2), (.int x3), (.int x4), (.int x5)] maxLocals)
  refine own_by (T' := s₁) (g' := (mkF m 0 #[.val (.int x1), .val (.int x2), .val (.int x3), .val (.int x4), .val (.int x5), .unset, .unset, .unset, .unset, .unset, .unset, .unset] [])) (fun t k => castTop (ef_0 m x1 x2 x3 x4 x5) k) ?_
  refine own_by (T' := s₁) (g' := (mkF m 1 #[.val (.int x1), .val (.int x2), .val (.int x3), .val (.int x4), .val (.int x5), .unset, .unset, .unset, .unset, .unset, .unset, .unset] [(.int x1)])) (fun t k => XS.iloadN X0.here hx rfl (hb hby at_0) rfl k) ?_
  refine own_by (T' := s₁) (g' := (mkF m 3 #[.val (.int x1), .val (.int x2), .val (.int x3), .val (.int x4), .val (.int x5), .unset, .unset, .unset, .unset, .unset, .unset, .unset] [(.int 16777215), (.int x1)])) (fun t k => X0.ldcInt hx hown (mvT hZ (hw _ (own_m 0 rfl))) (g := (mkF m 1 #[.val (.int x1), .val (.int x2), .val (.int x3), .val (.int x4), .val (.int x5), .unset, .unset, .unset, .unset, .unset, .unset, .unset] [(.int x1)])) rfl (hb hby at_1) _ k) ?_
  refine own_by (T' := s₁) (g' := (mkF m 4 #[.val (.int x1), .val (.int x2), .val (.int x3), .val (.int x4), .val (.int x5), .unset, .unset, .unset, .unset, .unset, .unset, .unset] [(.int (x1 &&& (16777215 : Int32)))])) (fun t k => XS.iand X0.here hx rfl (hb hby at_3) rfl k) ?_
  refine own_by (T' := s₁) (g' := (mkF m 5 #[.val (.int x1), .val (.int x2), .val (.int x3), .val (.int x4), .val (.int x5), .unset, .unset, .unset, .unset, .unset, .unset, .unset] [(.int 1), (.int (x1 &&& (16777215 : Int32)))])) (fun t k => XS.iconst X0.here hx rfl (hb hby at_4) k) ?_
  refine own_by (T' := s₁) (g' := (mkF m 6 #[.val (.int x1), .val (.int x2), .val (.int x3), .val (.int x4), .val (.int x5), .unset, .unset, .unset, .unset, .unset, .unset, .unset] [(.int ((x1 &&& (16777215 : Int32)) + (1 : Int32)))])) (fun t k => XS.iadd X0.here hx rfl (hb hby at_5) rfl k) ?_
  refine own_by (T' := s₁) (g' := (mkF m 8 #[.val (.int x1), .val (.int x2), .val (.int x3), .val (.int x4), .val (.int x5), .val (.int ((x1 &&& (16777215 : Int32)) + (1 : Int32))), .unset, .unset, .unset, .unset, .unset, .unset] [])) (fun t k => XS.istore X0.here hx rfl (hb hby at_6) rfl (l' := #[.val (.int x1), .val (.int x2), .val (.int x3), .val (.int x4), .val (.int x5), .val (.int ((x1 &&& (16777215 : Int32)) + (1 : Int32))), .unset, .unset, .unset, .unset, .unset, .unset]) rfl k) ?_
  obtain ⟨bd, e_bd⟩ : ∃ z : Int32, z = ((x1 &&& (16777215 : Int32)) + (1 : Int32)) := ⟨_, rfl⟩
  rw [← e_bd]
  have hpl := own_pl x1
  rw [← e_bd] at hpl
  rcases own_planes bd hpl.1 hpl.2.1 with hq | hq | hq
  · obtain ⟨hz, hub⟩ := hq
    have hbd : 0 < bd.toInt := by omega
    have hbz : ¬ bd = 0 := own_nz (by omega)
    refine own_by (T' := s₁) (g' := (mkF m 9 #[.val (.int x1), .val (.int x2), .val (.int x3), .val (.int x4), .val (.int x5), .val (.int bd), .unset, .unset, .unset, .unset, .unset, .unset] [(.int x2)])) (fun t k => XS.iloadN X0.here hx rfl (hb hby at_8) rfl k) ?_
    refine own_by (T' := s₁) (g' := (mkF m 11 #[.val (.int x1), .val (.int x2), .val (.int x3), .val (.int x4), .val (.int x5), .val (.int bd), .unset, .unset, .unset, .unset, .unset, .unset] [(.int 2147483647), (.int x2)])) (fun t k => X0.ldcInt hx hown (mvT hZ (hw _ (own_m 1 rfl))) (g := (mkF m 9 #[.val (.int x1), .val (.int x2), .val (.int x3), .val (.int x4), .val (.int x5), .val (.int bd), .unset, .unset, .unset, .unset, .unset, .unset] [(.int x2)])) rfl (hb hby at_9) _ k) ?_
    refine own_by (T' := s₁) (g' := (mkF m 12 #[.val (.int x1), .val (.int x2), .val (.int x3), .val (.int x4), .val (.int x5), .val (.int bd), .unset, .unset, .unset, .unset, .unset, .unset] [(.int (x2 &&& (2147483647 : Int32)))])) (fun t k => XS.iand X0.here hx rfl (hb hby at_11) rfl k) ?_
    refine own_by (T' := s₁) (g' := (mkF m 14 #[.val (.int x1), .val (.int x2), .val (.int x3), .val (.int x4), .val (.int x5), .val (.int bd), .unset, .unset, .unset, .unset, .unset, .unset] [(.int bd), (.int (x2 &&& (2147483647 : Int32)))])) (fun t k => XS.iload X0.here hx rfl (hb hby at_12) rfl k) ?_
    refine own_by (T' := s₁) (g' := (mkF m 15 #[.val (.int x1), .val (.int x2), .val (.int x3), .val (.int x4), .val (.int x5), .val (.int bd), .unset, .unset, .unset, .unset, .unset, .unset] [(.int ((x2 &&& (2147483647 : Int32)) % bd))])) (fun t k => iremM X0 hx rfl (hb hby at_14) rfl hbz k) ?_
    refine own_by (T' := s₁) (g' := (mkF m 17 #[.val (.int x1), .val (.int x2), .val (.int x3), .val (.int x4), .val (.int x5), .val (.int bd), .val (.int ((x2 &&& (2147483647 : Int32)) % bd)), .unset, .unset, .unset, .unset, .unset] [])) (fun t k => XS.istore X0.here hx rfl (hb hby at_15) rfl (l' := #[.val (.int x1), .val (.int x2), .val (.int x3), .val (.int x4), .val (.int x5), .val (.int bd), .val (.int ((x2 &&& (2147483647 : Int32)) % bd)), .unset, .unset, .unset, .unset, .unset]) rfl k) ?_
    obtain ⟨v1, e_v1⟩ : ∃ z : Int32, z = ((x2 &&& (2147483647 : Int32)) % bd) := ⟨_, rfl⟩
    rw [← e_v1]
    have hv1 := own_v x2 bd hbd
    rw [← e_v1] at hv1
    refine own_by (T' := s₁) (g' := (mkF m 18 #[.val (.int x1), .val (.int x2), .val (.int x3), .val (.int x4), .val (.int x5), .val (.int bd), .val (.int v1), .unset, .unset, .unset, .unset, .unset] [(.int x3)])) (fun t k => XS.iloadN X0.here hx rfl (hb hby at_17) rfl k) ?_
    refine own_by (T' := s₁) (g' := (mkF m 20 #[.val (.int x1), .val (.int x2), .val (.int x3), .val (.int x4), .val (.int x5), .val (.int bd), .val (.int v1), .unset, .unset, .unset, .unset, .unset] [(.int 2147483647), (.int x3)])) (fun t k => X0.ldcInt hx hown (mvT hZ (hw _ (own_m 1 rfl))) (g := (mkF m 18 #[.val (.int x1), .val (.int x2), .val (.int x3), .val (.int x4), .val (.int x5), .val (.int bd), .val (.int v1), .unset, .unset, .unset, .unset, .unset] [(.int x3)])) rfl (hb hby at_18) _ k) ?_
    refine own_by (T' := s₁) (g' := (mkF m 21 #[.val (.int x1), .val (.int x2), .val (.int x3), .val (.int x4), .val (.int x5), .val (.int bd), .val (.int v1), .unset, .unset, .unset, .unset, .unset] [(.int (x3 &&& (2147483647 : Int32)))])) (fun t k => XS.iand X0.here hx rfl (hb hby at_20) rfl k) ?_
    refine own_by (T' := s₁) (g' := (mkF m 23 #[.val (.int x1), .val (.int x2), .val (.int x3), .val (.int x4), .val (.int x5), .val (.int bd), .val (.int v1), .unset, .unset, .unset, .unset, .unset] [(.int bd), (.int (x3 &&& (2147483647 : Int32)))])) (fun t k => XS.iload X0.here hx rfl (hb hby at_21) rfl k) ?_
    refine own_by (T' := s₁) (g' := (mkF m 24 #[.val (.int x1), .val (.int x2), .val (.int x3), .val (.int x4), .val (.int x5), .val (.int bd), .val (.int v1), .unset, .unset, .unset, .unset, .unset] [(.int ((x3 &&& (2147483647 : Int32)) % bd))])) (fun t k => iremM X0 hx rfl (hb hby at_23) rfl hbz k) ?_
    refine own_by (T' := s₁) (g' := (mkF m 26 #[.val (.int x1), .val (.int x2), .val (.int x3), .val (.int x4), .val (.int x5), .val (.int bd), .val (.int v1), .val (.int ((x3 &&& (2147483647 : Int32)) % bd)), .unset, .unset, .unset, .unset] [])) (fun t k => XS.istore X0.here hx rfl (hb hby at_24) rfl (l' := #[.val (.int x1), .val (.int x2), .val (.int x3), .val (.int x4), .val (.int x5), .val (.int bd), .val (.int v1), .val (.int ((x3 &&& (2147483647 : Int32)) % bd)), .unset, .unset, .unset, .unset]) rfl k) ?_
    obtain ⟨v2, e_v2⟩ : ∃ z : Int32, z = ((x3 &&& (2147483647 : Int32)) % bd) := ⟨_, rfl⟩
    rw [← e_v2]
    have hv2 := own_v x3 bd hbd
    rw [← e_v2] at hv2
    refine own_by (T' := s₁) (g' := (mkF m 27 #[.val (.int x1), .val (.int x2), .val (.int x3), .val (.int x4), .val (.int x5), .val (.int bd), .val (.int v1), .val (.int v2), .unset, .unset, .unset, .unset] [(.int x4)])) (fun t k => XS.iloadN X0.here hx rfl (hb hby at_26) rfl k) ?_
    refine own_by (T' := s₁) (g' := (mkF m 29 #[.val (.int x1), .val (.int x2), .val (.int x3), .val (.int x4), .val (.int x5), .val (.int bd), .val (.int v1), .val (.int v2), .unset, .unset, .unset, .unset] [(.int 2147483647), (.int x4)])) (fun t k => X0.ldcInt hx hown (mvT hZ (hw _ (own_m 1 rfl))) (g := (mkF m 27 #[.val (.int x1), .val (.int x2), .val (.int x3), .val (.int x4), .val (.int x5), .val (.int bd), .val (.int v1), .val (.int v2), .unset, .unset, .unset, .unset] [(.int x4)])) rfl (hb hby at_27) _ k) ?_
    refine own_by (T' := s₁) (g' := (mkF m 30 #[.val (.int x1), .val (.int x2), .val (.int x3), .val (.int x4), .val (.int x5), .val (.int bd), .val (.int v1), .val (.int v2), .unset, .unset, .unset, .unset] [(.int (x4 &&& (2147483647 : Int32)))])) (fun t k => XS.iand X0.here hx rfl (hb hby at_29) rfl k) ?_
    refine own_by (T' := s₁) (g' := (mkF m 31 #[.val (.int x1), .val (.int x2), .val (.int x3), .val (.int x4), .val (.int x5), .val (.int bd), .val (.int v1), .val (.int v2), .unset, .unset, .unset, .unset] [(.int 3), (.int (x4 &&& (2147483647 : Int32)))])) (fun t k => XS.iconst X0.here hx rfl (hb hby at_30) k) ?_
    refine own_by (T' := s₁) (g' := (mkF m 32 #[.val (.int x1), .val (.int x2), .val (.int x3), .val (.int x4), .val (.int x5), .val (.int bd), .val (.int v1), .val (.int v2), .unset, .unset, .unset, .unset] [(.int ((x4 &&& (2147483647 : Int32)) % (3 : Int32)))])) (fun t k => iremM X0 hx rfl (hb hby at_31) rfl (by decide) k) ?_
    refine own_by (T' := s₁) (g' := (mkF m 34 #[.val (.int x1), .val (.int x2), .val (.int x3), .val (.int x4), .val (.int x5), .val (.int bd), .val (.int v1), .val (.int v2), .val (.int ((x4 &&& (2147483647 : Int32)) % (3 : Int32))), .unset, .unset, .unset] [])) (fun t k => XS.istore X0.here hx rfl (hb hby at_32) rfl (l' := #[.val (.int x1), .val (.int x2), .val (.int x3), .val (.int x4), .val (.int x5), .val (.int bd), .val (.int v1), .val (.int v2), .val (.int ((x4 &&& (2147483647 : Int32)) % (3 : Int32))), .unset, .unset, .unset]) rfl k) ?_
    obtain ⟨i1, e_i1⟩ : ∃ z : Int32, z = ((x4 &&& (2147483647 : Int32)) % (3 : Int32)) := ⟨_, rfl⟩
    rw [← e_i1]
    refine own_by (T' := s₁) (g' := (mkF m 36 #[.val (.int x1), .val (.int x2), .val (.int x3), .val (.int x4), .val (.int x5), .val (.int bd), .val (.int v1), .val (.int v2), .val (.int i1), .unset, .unset, .unset] [(.int i1)])) (fun t k => XS.iload X0.here hx rfl (hb hby at_34) rfl k) ?_
    refine own_by (T' := s₁) (g' := (mkF m 37 #[.val (.int x1), .val (.int x2), .val (.int x3), .val (.int x4), .val (.int x5), .val (.int bd), .val (.int v1), .val (.int v2), .val (.int i1), .unset, .unset, .unset] [(.int 1), (.int i1)])) (fun t k => XS.iconst X0.here hx rfl (hb hby at_36) k) ?_
    refine own_by (T' := s₁) (g' := (mkF m 38 #[.val (.int x1), .val (.int x2), .val (.int x3), .val (.int x4), .val (.int x5), .val (.int bd), .val (.int v1), .val (.int v2), .val (.int i1), .unset, .unset, .unset] [(.int (i1 + (1 : Int32)))])) (fun t k => XS.iadd X0.here hx rfl (hb hby at_37) rfl k) ?_
    refine own_by (T' := s₁) (g' := (mkF m 40 #[.val (.int x1), .val (.int x2), .val (.int x3), .val (.int x4), .val (.int x5), .val (.int bd), .val (.int v1), .val (.int v2), .val (.int i1), .unset, .unset, .unset] [(.int x5), (.int (i1 + (1 : Int32)))])) (fun t k => XS.iload X0.here hx rfl (hb hby at_38) rfl k) ?_
    refine own_by (T' := s₁) (g' := (mkF m 41 #[.val (.int x1), .val (.int x2), .val (.int x3), .val (.int x4), .val (.int x5), .val (.int bd), .val (.int v1), .val (.int v2), .val (.int i1), .unset, .unset, .unset] [(.int 1), (.int x5), (.int (i1 + (1 : Int32)))])) (fun t k => XS.iconst X0.here hx rfl (hb hby at_40) k) ?_
    refine own_by (T' := s₁) (g' := (mkF m 42 #[.val (.int x1), .val (.int x2), .val (.int x3), .val (.int x4), .val (.int x5), .val (.int bd), .val (.int v1), .val (.int v2), .val (.int i1), .unset, .unset, .unset] [(.int (x5 &&& (1 : Int32))), (.int (i1 + (1 : Int32)))])) (fun t k => XS.iand X0.here hx rfl (hb hby at_41) rfl k) ?_
    refine own_by (T' := s₁) (g' := (mkF m 43 #[.val (.int x1), .val (.int x2), .val (.int x3), .val (.int x4), .val (.int x5), .val (.int bd), .val (.int v1), .val (.int v2), .val (.int i1), .unset, .unset, .unset] [(.int ((i1 + (1 : Int32)) + (x5 &&& (1 : Int32))))])) (fun t k => XS.iadd X0.here hx rfl (hb hby at_42) rfl k) ?_
    refine own_by (T' := s₁) (g' := (mkF m 44 #[.val (.int x1), .val (.int x2), .val (.int x3), .val (.int x4), .val (.int x5), .val (.int bd), .val (.int v1), .val (.int v2), .val (.int i1), .unset, .unset, .unset] [(.int 3), (.int ((i1 + (1 : Int32)) + (x5 &&& (1 : Int32))))])) (fun t k => XS.iconst X0.here hx rfl (hb hby at_43) k) ?_
    refine own_by (T' := s₁) (g' := (mkF m 45 #[.val (.int x1), .val (.int x2), .val (.int x3), .val (.int x4), .val (.int x5), .val (.int bd), .val (.int v1), .val (.int v2), .val (.int i1), .unset, .unset, .unset] [(.int (((i1 + (1 : Int32)) + (x5 &&& (1 : Int32))) % (3 : Int32)))])) (fun t k => iremM X0 hx rfl (hb hby at_44) rfl (by decide) k) ?_
    refine own_by (T' := s₁) (g' := (mkF m 47 #[.val (.int x1), .val (.int x2), .val (.int x3), .val (.int x4), .val (.int x5), .val (.int bd), .val (.int v1), .val (.int v2), .val (.int i1), .val (.int (((i1 + (1 : Int32)) + (x5 &&& (1 : Int32))) % (3 : Int32))), .unset, .unset] [])) (fun t k => XS.istore X0.here hx rfl (hb hby at_45) rfl (l' := #[.val (.int x1), .val (.int x2), .val (.int x3), .val (.int x4), .val (.int x5), .val (.int bd), .val (.int v1), .val (.int v2), .val (.int i1), .val (.int (((i1 + (1 : Int32)) + (x5 &&& (1 : Int32))) % (3 : Int32))), .unset, .unset]) rfl k) ?_
    obtain ⟨j1, e_j1⟩ : ∃ z : Int32, z = (((i1 + (1 : Int32)) + (x5 &&& (1 : Int32))) % (3 : Int32)) := ⟨_, rfl⟩
    rw [← e_j1]
    refine own_by (T' := s₁) (g' := (mkF m 48 #[.val (.int x1), .val (.int x2), .val (.int x3), .val (.int x4), .val (.int x5), .val (.int bd), .val (.int v1), .val (.int v2), .val (.int i1), .val (.int j1), .unset, .unset] [(.int 3)])) (fun t k => XS.iconst X0.here hx rfl (hb hby at_47) k) ?_
    refine own_by (T' := s₁) (g' := (mkF m 50 #[.val (.int x1), .val (.int x2), .val (.int x3), .val (.int x4), .val (.int x5), .val (.int bd), .val (.int v1), .val (.int v2), .val (.int i1), .val (.int j1), .unset, .unset] [(.int i1), (.int 3)])) (fun t k => XS.iload X0.here hx rfl (hb hby at_48) rfl k) ?_
    refine own_by (T' := s₁) (g' := (mkF m 51 #[.val (.int x1), .val (.int x2), .val (.int x3), .val (.int x4), .val (.int x5), .val (.int bd), .val (.int v1), .val (.int v2), .val (.int i1), .val (.int j1), .unset, .unset] [(.int ((3 : Int32) - i1))])) (fun t k => XS.isub X0.here hx rfl (hb hby at_50) rfl k) ?_
    refine own_by (T' := s₁) (g' := (mkF m 53 #[.val (.int x1), .val (.int x2), .val (.int x3), .val (.int x4), .val (.int x5), .val (.int bd), .val (.int v1), .val (.int v2), .val (.int i1), .val (.int j1), .unset, .unset] [(.int j1), (.int ((3 : Int32) - i1))])) (fun t k => XS.iload X0.here hx rfl (hb hby at_51) rfl k) ?_
    refine own_by (T' := s₁) (g' := (mkF m 54 #[.val (.int x1), .val (.int x2), .val (.int x3), .val (.int x4), .val (.int x5), .val (.int bd), .val (.int v1), .val (.int v2), .val (.int i1), .val (.int j1), .unset, .unset] [(.int (((3 : Int32) - i1) - j1))])) (fun t k => XS.isub X0.here hx rfl (hb hby at_53) rfl k) ?_
    refine own_by (T' := s₁) (g' := (mkF m 56 #[.val (.int x1), .val (.int x2), .val (.int x3), .val (.int x4), .val (.int x5), .val (.int bd), .val (.int v1), .val (.int v2), .val (.int i1), .val (.int j1), .val (.int (((3 : Int32) - i1) - j1)), .unset] [])) (fun t k => XS.istore X0.here hx rfl (hb hby at_54) rfl (l' := #[.val (.int x1), .val (.int x2), .val (.int x3), .val (.int x4), .val (.int x5), .val (.int bd), .val (.int v1), .val (.int v2), .val (.int i1), .val (.int j1), .val (.int (((3 : Int32) - i1) - j1)), .unset]) rfl k) ?_
    obtain ⟨k1, e_k1⟩ : ∃ z : Int32, z = (((3 : Int32) - i1) - j1) := ⟨_, rfl⟩
    rw [← e_k1]
    obtain ⟨i', j', k', hi, hj, hk, h6⟩ := own_idx x4 x5
    rw [← e_i1] at hi
    subst hi
    rw [← e_j1] at hj
    subst hj
    rw [← e_k1] at hk
    subst hk
    obtain ⟨t1, t2, t3⟩ := own_three h6
    obtain ⟨T1, h1, X1, e1, E1, A1, D1, -, st1⟩ := newO X0 hx hZ hown (hw _ (own_m 2 rfl)) (hw _ (own_m 3 rfl)) (hw _ (own_m 4 rfl)) e0 (g := (mkF m 56 #[.val (.int x1), .val (.int x2), .val (.int x3), .val (.int x4), .val (.int x5), .val (.int bd), .val (.int v1), .val (.int v2), .val (.int i1), .val (.int j1), .val (.int k1), .unset] [])) rfl (hb hby at_56) (by decide) (by decide)
    obtain ⟨b1, g1⟩ : ∃ z, z = h0.size := ⟨_, rfl⟩
    rw [← g1] at A1 D1 st1
    have g_b1 : n0 ≤ b1 := Nat.le_trans Zle (Nat.le_of_eq g1.symm)
    have Zle := Nat.le_trans Zle E1.1
    have E_b1 := A1
    have F_planes_b1 : Fld Z h1 b1 "com/example/cipherloom/cipherloom/core/Letters" "planes" "[[B" .null := D1 (Or.inr (hw _ (own_m 17 rfl))) (ty := (.array (.array .byte))) (by decide)
    refine own_by (T' := T1) (g' := (mkF m 59 #[.val (.int x1), .val (.int x2), .val (.int x3), .val (.int x4), .val (.int x5), .val (.int bd), .val (.int v1), .val (.int v2), .val (.int i1), .val (.int j1), .val (.int k1), .unset] [(.ref b1)])) (fun t k => st1 t k) ?_
    refine own_by (T' := T1) (g' := (mkF m 60 #[.val (.int x1), .val (.int x2), .val (.int x3), .val (.int x4), .val (.int x5), .val (.int bd), .val (.int v1), .val (.int v2), .val (.int i1), .val (.int j1), .val (.int k1), .unset] [(.ref b1), (.ref b1)])) (fun t k => XS.dup X1.here hx rfl (hb hby at_59) rfl rfl k) ?_
    refine own_by (T' := T1) (g' := (mkF m 63 #[.val (.int x1), .val (.int x2), .val (.int x3), .val (.int x4), .val (.int x5), .val (.int bd), .val (.int v1), .val (.int v2), .val (.int i1), .val (.int j1), .val (.int k1), .unset] [(.long 3), (.ref b1), (.ref b1)])) (fun t k => X1.ldc2Long hx hown (mvT hZ (hw _ (own_m 5 rfl))) (g := (mkF m 60 #[.val (.int x1), .val (.int x2), .val (.int x3), .val (.int x4), .val (.int x5), .val (.int bd), .val (.int v1), .val (.int v2), .val (.int i1), .val (.int j1), .val (.int k1), .unset] [(.ref b1), (.ref b1)])) rfl (hb hby at_60) _ k) ?_
    refine own_by (T' := T1) (g' := (mkF m 65 #[.val (.int x1), .val (.int x2), .val (.int x3), .val (.int x4), .val (.int x5), .val (.int bd), .val (.int v1), .val (.int v2), .val (.int i1), .val (.int j1), .val (.int k1), .unset] [(.int bd), (.long 3), (.ref b1), (.ref b1)])) (fun t k => XS.iload X1.here hx rfl (hb hby at_63) rfl k) ?_
    have lt_b1_2 := E_b1.lt
    have Zpre2 := Zle
    obtain ⟨_, _, ⟨T2, L2, k2, n2⟩, -, X2, ⟨Lc2, hQ2, l2, y2, z2⟩, st2⟩ := X1.specialBack hx (y := (⟨"com/example/cipherloom/cipherloom/core/Letters", "<init>", "(JI)V"⟩ : MethodName)) rfl hown (mvT hZ (hw _ (own_m 6 rfl))) (mvT hZ (hw _ (own_m 7 rfl))) (mvT hZ (hw _ (own_m 8 rfl))) (by decide) (backOf (W := 1) (rm1P1 l Z a0 hw [] b1 bd h1 n0 Zle E_b1 g_b1 F_planes_b1 (hz)) hZ (hw _ (own_m 8 rfl)) (hw _ (own_m 4 rfl)) (by decide) (by decide)) (g := (mkF m 65 #[.val (.int x1), .val (.int x2), .val (.int x3), .val (.int x4), .val (.int x5), .val (.int bd), .val (.int v1), .val (.int v2), .val (.int i1), .val (.int j1), .val (.int k1), .unset] [(.int bd), (.long 3), (.ref b1), (.ref b1)])) rfl (by rw [hml]; rfl) (Steps.refl _) (a := b1) (argsL := [(.long 3), (.int bd)]) (rest := [(.ref b1)]) (lenOf pd_0 rfl) rfl (own_le rfl) (hb hby at_65) (fun _ _ => ⟨rfl, e1, (by decide : 1 + 2 ≤ _), (by decide : 1 + 4 ≤ _)⟩)
    dsimp only [Pt.U, Pt.locs, Pt.cells, Pt.slots] at X2 l2 y2 z2 st2 hQ2
    subst l2 y2 z2
    obtain ⟨b_2, y0_2, kb_2, kc_2, rfl, Nq2, c2_0, c2_1, c2_2, c2_3, c2_4, c2_5, c2_6, c2_7⟩ := hQ2
    have N_ := Fr.app N_ Nq2
    have Zle := Nat.le_trans Zle c2_0.1
    have E_b1 := E_b1.keep c2_0
    have ne_b1_b_2 : b1 ≠ b_2 := Nat.ne_of_lt (Nat.lt_of_lt_of_le lt_b1_2 c2_2)
    have g_b_2 : n0 ≤ b_2 := Nat.le_trans Zpre2 c2_2
    have ne_b1_y0_2 : b1 ≠ y0_2 := Nat.ne_of_lt (Nat.lt_of_lt_of_le lt_b1_2 c2_3)
    have g_y0_2 : n0 ≤ y0_2 := Nat.le_trans Zpre2 c2_3
    refine own_by (T' := T2) (g' := (mkF m 68 #[.val (.int x1), .val (.int x2), .val (.int x3), .val (.int x4), .val (.int x5), .val (.int bd), .val (.int v1), .val (.int v2), .val (.int i1), .val (.int j1), .val (.int k1), .unset] [(.ref b1)])) (fun t k => st2.trans k) ?_
    refine own_by (T' := T2) (g' := (mkF m 70 #[.val (.int x1), .val (.int x2), .val (.int x3), .val (.int x4), .val (.int x5), .val (.int bd), .val (.int v1), .val (.int v2), .val (.int i1), .val (.int j1), .val (.int k1), .val (.ref b1)] [])) (fun t k => XS.astore X2.here hx rfl (hb hby at_68) rfl rfl (l' := #[.val (.int x1), .val (.int x2), .val (.int x3), .val (.int x4), .val (.int x5), .val (.int bd), .val (.int v1), .val (.int v2), .val (.int i1), .val (.int j1), .val (.int k1), .val (.ref b1)]) rfl k) ?_
    refine own_by (T' := T2) (g' := (mkF m 72 #[.val (.int x1), .val (.int x2), .val (.int x3), .val (.int x4), .val (.int x5), .val (.int bd), .val (.int v1), .val (.int v2), .val (.int i1), .val (.int j1), .val (.int k1), .val (.ref b1)] [(.ref b1)])) (fun t k => XS.aload X2.here hx rfl (hb hby at_70) rfl rfl k) ?_
    refine own_by (T' := T2) (g' := (mkF m 74 #[.val (.int x1), .val (.int x2), .val (.int x3), .val (.int x4), .val (.int x5), .val (.int bd), .val (.int v1), .val (.int v2), .val (.int i1), .val (.int j1), .val (.int k1), .val (.ref b1)] [(.int i1), (.ref b1)])) (fun t k => XS.iload X2.here hx rfl (hb hby at_72) rfl k) ?_
    refine own_by (T' := T2) (g' := (mkF m 76 #[.val (.int x1), .val (.int x2), .val (.int x3), .val (.int x4), .val (.int x5), .val (.int bd), .val (.int v1), .val (.int v2), .val (.int i1), .val (.int j1), .val (.int k1), .val (.ref b1)] [(.int v1), (.int i1), (.ref b1)])) (fun t k => XS.iload X2.here hx rfl (hb hby at_74) rfl k) ?_
    obtain ⟨cq3, kq3, q3a, q3b, q3c⟩ := isOf hZ rfl c2_1
    obtain ⟨_, _, ⟨T3, L3, k3, n3⟩, -, X3, ⟨Lc3, hQ3, l3, y3, z3⟩, st3⟩ := X2.virtualBack hx (y := (⟨"com/example/cipherloom/cipherloom/core/Letters", "set", "(II)V"⟩ : MethodName)) (z := (⟨"com/example/cipherloom/cipherloom/core/Letters", "set", "(II)V"⟩ : MethodName)) hown (mvT hZ (hw _ (own_m 18 rfl))) (mvT hZ (hw _ (own_m 19 rfl))) (notFace_of_selects (args := #[]) (mvT hZ (hw _ (own_m 21 rfl)))) (mvT hZ (hw _ (own_m 21 rfl))) (mvT hZ (hw _ (own_m 20 rfl))) (by decide) (backOf (W := 0) (rm3P1 l Z a0 hw [] b1 i1 v1 b_2 y0_2 kb_2 kc_2 (0 : Int32) (0 : Int32) (0 : Int32) T2.heap n0 Zle c2_4 c2_5 c2_6 g_y0_2 (c2_7) (ne_b1_y0_2) (t1)) hZ (hw _ (own_m 22 rfl)) (hw _ (own_m 4 rfl)) (by decide) (by decide)) q3a q3c (g := (mkF m 76 #[.val (.int x1), .val (.int x2), .val (.int x3), .val (.int x4), .val (.int x5), .val (.int bd), .val (.int v1), .val (.int v2), .val (.int i1), .val (.int j1), .val (.int k1), .val (.ref b1)] [(.int v1), (.int i1), (.ref b1)])) rfl (by rw [hml]; rfl) (Steps.refl _) (argsL := [(.int i1), (.int v1)]) (rest := []) (lenOf pd_2 rfl) rfl (own_le rfl) (hb hby at_76) (fun _ _ => ⟨rfl, rfl, (by decide : 3 + 0 ≤ _), (by decide : 5 + 0 ≤ _)⟩)
    dsimp only [Pt.U, Pt.locs, Pt.cells, Pt.slots] at X3 l3 y3 z3 st3 hQ3
    subst l3 y3 z3
    obtain ⟨rfl, Nq3, c3_0, c3_1, c3_2⟩ := hQ3
    have N_ := Fr.app N_ Nq3
    have Zle := Nat.le_trans Zle c3_0.1
    have c2_1 := c2_1.keep c3_0
    have c2_4 := c2_4.keep c3_0 (ninS ne_b1_y0_2 nin0)
    have c2_5 := c2_5.keep c3_0 (ninS c2_7 nin0)
    refine own_by (T' := T3) (g' := (mkF m 79 #[.val (.int x1), .val (.int x2), .val (.int x3), .val (.int x4), .val (.int x5), .val (.int bd), .val (.int v1), .val (.int v2), .val (.int i1), .val (.int j1), .val (.int k1), .val (.ref b1)] [])) (fun t k => st3.trans k) ?_
    refine own_by (T' := T3) (g' := (mkF m 81 #[.val (.int x1), .val (.int x2), .val (.int x3), .val (.int x4), .val (.int x5), .val (.int bd), .val (.int v1), .val (.int v2), .val (.int i1), .val (.int j1), .val (.int k1), .val (.ref b1)] [(.ref b1)])) (fun t k => XS.aload X3.here hx rfl (hb hby at_79) rfl rfl k) ?_
    refine own_by (T' := T3) (g' := (mkF m 83 #[.val (.int x1), .val (.int x2), .val (.int x3), .val (.int x4), .val (.int x5), .val (.int bd), .val (.int v1), .val (.int v2), .val (.int i1), .val (.int j1), .val (.int k1), .val (.ref b1)] [(.int j1), (.ref b1)])) (fun t k => XS.iload X3.here hx rfl (hb hby at_81) rfl k) ?_
    refine own_by (T' := T3) (g' := (mkF m 85 #[.val (.int x1), .val (.int x2), .val (.int x3), .val (.int x4), .val (.int x5), .val (.int bd), .val (.int v1), .val (.int v2), .val (.int i1), .val (.int j1), .val (.int k1), .val (.ref b1)] [(.int v2), (.int j1), (.ref b1)])) (fun t k => XS.iload X3.here hx rfl (hb hby at_83) rfl k) ?_
    obtain ⟨cq4, kq4, q4a, q4b, q4c⟩ := isOf hZ rfl c2_1
    obtain ⟨_, _, ⟨T4, L4, k4, n4⟩, -, X4, ⟨Lc4, hQ4, l4, y4, z4⟩, st4⟩ := X3.virtualBack hx (y := (⟨"com/example/cipherloom/cipherloom/core/Letters", "set", "(II)V"⟩ : MethodName)) (z := (⟨"com/example/cipherloom/cipherloom/core/Letters", "set", "(II)V"⟩ : MethodName)) hown (mvT hZ (hw _ (own_m 18 rfl))) (mvT hZ (hw _ (own_m 19 rfl))) (notFace_of_selects (args := #[]) (mvT hZ (hw _ (own_m 21 rfl)))) (mvT hZ (hw _ (own_m 21 rfl))) (mvT hZ (hw _ (own_m 20 rfl))) (by decide) (backOf (W := 0) (rm3P1 l Z a0 hw [] b1 j1 v2 b_2 y0_2 kb_2 kc_2 (own_pk i1 (0 : Int32) (own_e0 v1) (0 : Int32)) (own_pk i1 (1 : Int32) (own_e0 v1) (0 : Int32)) (own_pk i1 (2 : Int32) (own_e0 v1) (0 : Int32)) T3.heap n0 Zle c2_4 c3_1 c3_2 g_y0_2 (c2_7) (ne_b1_y0_2) (t2)) hZ (hw _ (own_m 22 rfl)) (hw _ (own_m 4 rfl)) (by decide) (by decide)) q4a q4c (g := (mkF m 85 #[.val (.int x1), .val (.int x2), .val (.int x3), .val (.int x4), .val (.int x5), .val (.int bd), .val (.int v1), .val (.int v2), .val (.int i1), .val (.int j1), .val (.int k1), .val (.ref b1)] [(.int v2), (.int j1), (.ref b1)])) rfl (by rw [hml]; rfl) (Steps.refl _) (argsL := [(.int j1), (.int v2)]) (rest := []) (lenOf pd_2 rfl) rfl (own_le rfl) (hb hby at_85) (fun _ _ => ⟨rfl, rfl, (by decide : 3 + 0 ≤ _), (by decide : 5 + 0 ≤ _)⟩)
    dsimp only [Pt.U, Pt.locs, Pt.cells, Pt.slots] at X4 l4 y4 z4 st4 hQ4
    subst l4 y4 z4
    obtain ⟨rfl, Nq4, c4_0, c4_1, c4_2⟩ := hQ4
    have N_ := Fr.app N_ Nq4
    have Zle := Nat.le_trans Zle c4_0.1
    have c2_1 := c2_1.keep c4_0
    have c2_4 := c2_4.keep c4_0 (ninS ne_b1_y0_2 nin0)
    have c3_1 := c3_1.keep c4_0 (ninS c2_7 nin0)
    refine own_by (T' := T4) (g' := (mkF m 88 #[.val (.int x1), .val (.int x2), .val (.int x3), .val (.int x4), .val (.int x5), .val (.int bd), .val (.int v1), .val (.int v2), .val (.int i1), .val (.int j1), .val (.int k1), .val (.ref b1)] [])) (fun t k => st4.trans k) ?_
    refine own_by (T' := T4) (g' := (mkF m 90 #[.val (.int x1), .val (.int x2), .val (.int x3), .val (.int x4), .val (.int x5), .val (.int bd), .val (.int v1), .val (.int v2), .val (.int i1), .val (.int j1), .val (.int k1), .val (.ref b1)] [(.ref b1)])) (fun t k => XS.aload X4.here hx rfl (hb hby at_88) rfl rfl k) ?_
    refine own_by (T' := T4) (g' := (mkF m 92 #[.val (.int x1), .val (.int x2), .val (.int x3), .val (.int x4), .val (.int x5), .val (.int bd), .val (.int v1), .val (.int v2), .val (.int i1), .val (.int j1), .val (.int k1), .val (.ref b1)] [(.int i1), (.ref b1)])) (fun t k => XS.iload X4.here hx rfl (hb hby at_90) rfl k) ?_
    obtain ⟨cq5, kq5, q5a, q5b, q5c⟩ := isOf hZ rfl c2_1
    obtain ⟨_, _, ⟨T5, L5, k5, n5⟩, -, X5, ⟨Lc5, hQ5, l5, y5, z5⟩, st5⟩ := X4.virtualBack hx (y := (⟨"com/example/cipherloom/cipherloom/core/Letters", "get", "(I)I"⟩ : MethodName)) (z := (⟨"com/example/cipherloom/cipherloom/core/Letters", "get", "(I)I"⟩ : MethodName)) hown (mvT hZ (hw _ (own_m 23 rfl))) (mvT hZ (hw _ (own_m 24 rfl))) (notFace_of_selects (args := #[]) (mvT hZ (hw _ (own_m 26 rfl)))) (mvT hZ (hw _ (own_m 26 rfl))) (mvT hZ (hw _ (own_m 25 rfl))) (by decide) (backOf (W := 0) (rm4P1 l Z a0 hw [] b1 i1 b_2 y0_2 kb_2 kc_2 (own_pk j1 (0 : Int32) (own_e0 v2) (own_pk i1 (0 : Int32) (own_e0 v1) (0 : Int32))) (own_pk j1 (1 : Int32) (own_e0 v2) (own_pk i1 (1 : Int32) (own_e0 v1) (0 : Int32))) (own_pk j1 (2 : Int32) (own_e0 v2) (own_pk i1 (2 : Int32) (own_e0 v1) (0 : Int32))) T4.heap n0 Zle c2_4 c4_1 c4_2 (t1)) hZ (hw _ (own_m 27 rfl)) (hw _ (own_m 4 rfl)) (by decide) (by decide)) q5a q5c (g := (mkF m 92 #[.val (.int x1), .val (.int x2), .val (.int x3), .val (.int x4), .val (.int x5), .val (.int bd), .val (.int v1), .val (.int v2), .val (.int i1), .val (.int j1), .val (.int k1), .val (.ref b1)] [(.int i1), (.ref b1)])) rfl (by rw [hml]; rfl) (Steps.refl _) (argsL := [(.int i1)]) (rest := []) (lenOf pd_3 rfl) rfl (own_le rfl) (hb hby at_92) (fun _ _ => ⟨rfl, rfl, (by decide : 3 + 0 ≤ _), (by decide : 5 + 0 ≤ _)⟩)
    dsimp only [Pt.U, Pt.locs, Pt.cells, Pt.slots] at X5 l5 y5 z5 st5 hQ5
    subst l5 y5 z5
    obtain ⟨rfl, Nq5, e5⟩ := hQ5
    have N_ := Fr.app N_ Nq5
    refine own_by (T' := T5) (g' := (mkF m 95 #[.val (.int x1), .val (.int x2), .val (.int x3), .val (.int x4), .val (.int x5), .val (.int bd), .val (.int v1), .val (.int v2), .val (.int i1), .val (.int j1), .val (.int k1), .val (.ref b1)] [(.int (own_g1 (own_at i1 (own_pk j1 (0 : Int32) (own_e0 v2) (own_pk i1 (0 : Int32) (own_e0 v1) (0 : Int32))) (own_pk j1 (1 : Int32) (own_e0 v2) (own_pk i1 (1 : Int32) (own_e0 v1) (0 : Int32))) (own_pk j1 (2 : Int32) (own_e0 v2) (own_pk i1 (2 : Int32) (own_e0 v1) (0 : Int32))))))])) (fun t k => st5.trans k) ?_
    refine own_by (T' := T5) (g' := (mkF m 97 #[.val (.int x1), .val (.int x2), .val (.int x3), .val (.int x4), .val (.int x5), .val (.int bd), .val (.int v1), .val (.int v2), .val (.int i1), .val (.int j1), .val (.int k1), .val (.ref b1)] [(.int v1), (.int (own_g1 (own_at i1 (own_pk j1 (0 : Int32) (own_e0 v2) (own_pk i1 (0 : Int32) (own_e0 v1) (0 : Int32))) (own_pk j1 (1 : Int32) (own_e0 v2) (own_pk i1 (1 : Int32) (own_e0 v1) (0 : Int32))) (own_pk j1 (2 : Int32) (own_e0 v2) (own_pk i1 (2 : Int32) (own_e0 v1) (0 : Int32))))))])) (fun t k => XS.iload X5.here hx rfl (hb hby at_95) rfl k) ?_
    refine own_by (T' := T5) (g' := (mkF m 100 #[.val (.int x1), .val (.int x2), .val (.int x3), .val (.int x4), .val (.int x5), .val (.int bd), .val (.int v1), .val (.int v2), .val (.int i1), .val (.int j1), .val (.int k1), .val (.ref b1)] [])) (fun t k => XS.icmpNo X5.here hx rfl (hb hby at_97) rfl (teq (by rw [(own_pick h6).1]; exact own_back1 _ hv1.1 (by omega))).2 k) ?_
    refine own_by (T' := T5) (g' := (mkF m 102 #[.val (.int x1), .val (.int x2), .val (.int x3), .val (.int x4), .val (.int x5), .val (.int bd), .val (.int v1), .val (.int v2), .val (.int i1), .val (.int j1), .val (.int k1), .val (.ref b1)] [(.ref b1)])) (fun t k => XS.aload X5.here hx rfl (hb hby at_100) rfl rfl k) ?_
    refine own_by (T' := T5) (g' := (mkF m 104 #[.val (.int x1), .val (.int x2), .val (.int x3), .val (.int x4), .val (.int x5), .val (.int bd), .val (.int v1), .val (.int v2), .val (.int i1), .val (.int j1), .val (.int k1), .val (.ref b1)] [(.int j1), (.ref b1)])) (fun t k => XS.iload X5.here hx rfl (hb hby at_102) rfl k) ?_
    obtain ⟨cq6, kq6, q6a, q6b, q6c⟩ := isOf hZ e5 c2_1
    obtain ⟨_, _, ⟨T6, L6, k6, n6⟩, -, X6, ⟨Lc6, hQ6, l6, y6, z6⟩, st6⟩ := X5.virtualBack hx (y := (⟨"com/example/cipherloom/cipherloom/core/Letters", "get", "(I)I"⟩ : MethodName)) (z := (⟨"com/example/cipherloom/cipherloom/core/Letters", "get", "(I)I"⟩ : MethodName)) hown (mvT hZ (hw _ (own_m 23 rfl))) (mvT hZ (hw _ (own_m 24 rfl))) (notFace_of_selects (args := #[]) (mvT hZ (hw _ (own_m 26 rfl)))) (mvT hZ (hw _ (own_m 26 rfl))) (mvT hZ (hw _ (own_m 25 rfl))) (by decide) (backOf (W := 0) (rm4P1 l Z a0 hw [] b1 j1 b_2 y0_2 kb_2 kc_2 (own_pk j1 (0 : Int32) (own_e0 v2) (own_pk i1 (0 : Int32) (own_e0 v1) (0 : Int32))) (own_pk j1 (1 : Int32) (own_e0 v2) (own_pk i1 (1 : Int32) (own_e0 v1) (0 : Int32))) (own_pk j1 (2 : Int32) (own_e0 v2) (own_pk i1 (2 : Int32) (own_e0 v1) (0 : Int32))) T4.heap n0 Zle c2_4 c4_1 c4_2 (t2)) hZ (hw _ (own_m 27 rfl)) (hw _ (own_m 4 rfl)) (by decide) (by decide)) q6a q6c (g := (mkF m 104 #[.val (.int x1), .val (.int x2), .val (.int x3), .val (.int x4), .val (.int x5), .val (.int bd), .val (.int v1), .val (.int v2), .val (.int i1), .val (.int j1), .val (.int k1), .val (.ref b1)] [(.int j1), (.ref b1)])) rfl (by rw [hml]; rfl) (Steps.refl _) (argsL := [(.int j1)]) (rest := []) (lenOf pd_3 rfl) rfl (own_le rfl) (hb hby at_104) (fun _ _ => ⟨rfl, e5, (by decide : 3 + 0 ≤ _), (by decide : 5 + 0 ≤ _)⟩)
    dsimp only [Pt.U, Pt.locs, Pt.cells, Pt.slots] at X6 l6 y6 z6 st6 hQ6
    subst l6 y6 z6
    obtain ⟨rfl, Nq6, e6⟩ := hQ6
    have N_ := Fr.app N_ Nq6
    refine own_by (T' := T6) (g' := (mkF m 107 #[.val (.int x1), .val (.int x2), .val (.int x3), .val (.int x4), .val (.int x5), .val (.int bd), .val (.int v1), .val (.int v2), .val (.int i1), .val (.int j1), .val (.int k1), .val (.ref b1)] [(.int (own_g1 (own_at j1 (own_pk j1 (0 : Int32) (own_e0 v2) (own_pk i1 (0 : Int32) (own_e0 v1) (0 : Int32))) (own_pk j1 (1 : Int32) (own_e0 v2) (own_pk i1 (1 : Int32) (own_e0 v1) (0 : Int32))) (own_pk j1 (2 : Int32) (own_e0 v2) (own_pk i1 (2 : Int32) (own_e0 v1) (0 : Int32))))))])) (fun t k => st6.trans k) ?_
    refine own_by (T' := T6) (g' := (mkF m 109 #[.val (.int x1), .val (.int x2), .val (.int x3), .val (.int x4), .val (.int x5), .val (.int bd), .val (.int v1), .val (.int v2), .val (.int i1), .val (.int j1), .val (.int k1), .val (.ref b1)] [(.int v2), (.int (own_g1 (own_at j1 (own_pk j1 (0 : Int32) (own_e0 v2) (own_pk i1 (0 : Int32) (own_e0 v1) (0 : Int32))) (own_pk j1 (1 : Int32) (own_e0 v2) (own_pk i1 (1 : Int32) (own_e0 v1) (0 : Int32))) (own_pk j1 (2 : Int32) (own_e0 v2) (own_pk i1 (2 : Int32) (own_e0 v1) (0 : Int32))))))])) (fun t k => XS.iload X6.here hx rfl (hb hby at_107) rfl k) ?_
    refine own_by (T' := T6) (g' := (mkF m 112 #[.val (.int x1), .val (.int x2), .val (.int x3), .val (.int x4), .val (.int x5), .val (.int bd), .val (.int v1), .val (.int v2), .val (.int i1), .val (.int j1), .val (.int k1), .val (.ref b1)] [])) (fun t k => XS.icmpNo X6.here hx rfl (hb hby at_109) rfl (teq (by rw [(own_pick h6).2.1]; exact own_back1 _ hv2.1 (by omega))).2 k) ?_
    refine own_by (T' := T6) (g' := (mkF m 114 #[.val (.int x1), .val (.int x2), .val (.int x3), .val (.int x4), .val (.int x5), .val (.int bd), .val (.int v1), .val (.int v2), .val (.int i1), .val (.int j1), .val (.int k1), .val (.ref b1)] [(.ref b1)])) (fun t k => XS.aload X6.here hx rfl (hb hby at_112) rfl rfl k) ?_
    refine own_by (T' := T6) (g' := (mkF m 116 #[.val (.int x1), .val (.int x2), .val (.int x3), .val (.int x4), .val (.int x5), .val (.int bd), .val (.int v1), .val (.int v2), .val (.int i1), .val (.int j1), .val (.int k1), .val (.ref b1)] [(.int k1), (.ref b1)])) (fun t k => XS.iload X6.here hx rfl (hb hby at_114) rfl k) ?_
    obtain ⟨cq7, kq7, q7a, q7b, q7c⟩ := isOf hZ e6 c2_1
    obtain ⟨_, _, ⟨T7, L7, k7, n7⟩, -, X7, ⟨Lc7, hQ7, l7, y7, z7⟩, st7⟩ := X6.virtualBack hx (y := (⟨"com/example/cipherloom/cipherloom/core/Letters", "get", "(I)I"⟩ : MethodName)) (z := (⟨"com/example/cipherloom/cipherloom/core/Letters", "get", "(I)I"⟩ : MethodName)) hown (mvT hZ (hw _ (own_m 23 rfl))) (mvT hZ (hw _ (own_m 24 rfl))) (notFace_of_selects (args := #[]) (mvT hZ (hw _ (own_m 26 rfl)))) (mvT hZ (hw _ (own_m 26 rfl))) (mvT hZ (hw _ (own_m 25 rfl))) (by decide) (backOf (W := 0) (rm4P1 l Z a0 hw [] b1 k1 b_2 y0_2 kb_2 kc_2 (own_pk j1 (0 : Int32) (own_e0 v2) (own_pk i1 (0 : Int32) (own_e0 v1) (0 : Int32))) (own_pk j1 (1 : Int32) (own_e0 v2) (own_pk i1 (1 : Int32) (own_e0 v1) (0 : Int32))) (own_pk j1 (2 : Int32) (own_e0 v2) (own_pk i1 (2 : Int32) (own_e0 v1) (0 : Int32))) T4.heap n0 Zle c2_4 c4_1 c4_2 (t3)) hZ (hw _ (own_m 27 rfl)) (hw _ (own_m 4 rfl)) (by decide) (by decide)) q7a q7c (g := (mkF m 116 #[.val (.int x1), .val (.int x2), .val (.int x3), .val (.int x4), .val (.int x5), .val (.int bd), .val (.int v1), .val (.int v2), .val (.int i1), .val (.int j1), .val (.int k1), .val (.ref b1)] [(.int k1), (.ref b1)])) rfl (by rw [hml]; rfl) (Steps.refl _) (argsL := [(.int k1)]) (rest := []) (lenOf pd_3 rfl) rfl (own_le rfl) (hb hby at_116) (fun _ _ => ⟨rfl, e6, (by decide : 3 + 0 ≤ _), (by decide : 5 + 0 ≤ _)⟩)
    dsimp only [Pt.U, Pt.locs, Pt.cells, Pt.slots] at X7 l7 y7 z7 st7 hQ7
    subst l7 y7 z7
    obtain ⟨rfl, Nq7, e7⟩ := hQ7
    have N_ := Fr.app N_ Nq7
    refine own_by (T' := T7) (g' := (mkF m 119 #[.val (.int x1), .val (.int x2), .val (.int x3), .val (.int x4), .val (.int x5), .val (.int bd), .val (.int v1), .val (.int v2), .val (.int i1), .val (.int j1), .val (.int k1), .val (.ref b1)] [(.int (own_g1 (own_at k1 (own_pk j1 (0 : Int32) (own_e0 v2) (own_pk i1 (0 : Int32) (own_e0 v1) (0 : Int32))) (own_pk j1 (1 : Int32) (own_e0 v2) (own_pk i1 (1 : Int32) (own_e0 v1) (0 : Int32))) (own_pk j1 (2 : Int32) (own_e0 v2) (own_pk i1 (2 : Int32) (own_e0 v1) (0 : Int32))))))])) (fun t k => st7.trans k) ?_
    refine own_by (T' := T7) (g' := (mkF m 122 #[.val (.int x1), .val (.int x2), .val (.int x3), .val (.int x4), .val (.int x5), .val (.int bd), .val (.int v1), .val (.int v2), .val (.int i1), .val (.int j1), .val (.int k1), .val (.ref b1)] [])) (fun t k => XS.ifNo X7.here hx rfl (hb hby at_119) rfl ((if0 _ _).trans (teq (by rw [(own_pick h6).2.2]; exact own_gz1)).2) k) ?_
    refine own_by (T' := T7) (g' := (mkF m 123 #[.val (.int x1), .val (.int x2), .val (.int x3), .val (.int x4), .val (.int x5), .val (.int bd), .val (.int v1), .val (.int v2), .val (.int i1), .val (.int j1), .val (.int k1), .val (.ref b1)] [(.int 1)])) (fun t k => XS.iconst X7.here hx rfl (hb hby at_122) k) ?_
    refine own_by (T' := T7) (g' := (mkF m 127 #[.val (.int x1), .val (.int x2), .val (.int x3), .val (.int x4), .val (.int x5), .val (.int bd), .val (.int v1), .val (.int v2), .val (.int i1), .val (.int j1), .val (.int k1), .val (.ref b1)] [(.int 1)])) (fun t k => XS.goto X7.here hx rfl (pc0 := 123) (pc' := 127) rfl (hb hby at_123) (by decide) (by decide) k) ?_
    exact own_retN X7 hx (t := .boolean) Bd.notSynchronized Bd.returns (by simp) (hb hby at_127) (by decide) (by decide) (by rw [e7]; exact ⟨rfl, N_⟩)
  · obtain ⟨hn1, hz, hub⟩ := hq
    have hbd : 0 < bd.toInt := by omega
    have hbz : ¬ bd = 0 := own_nz (by omega)
    refine own_by (T' := s₁) (g' := (mkF m 9 #[.val (.int x1), .val (.int x2), .val (.int x3), .val (.int x4), .val (.int x5), .val (.int bd), .unset, .unset, .unset, .unset, .unset, .unset] [(.int x2)])) (fun t k => XS.iloadN X0.here hx rfl (hb hby at_8) rfl k) ?_
    refine own_by (T' := s₁) (g' := (mkF m 11 #[.val (.int x1), .val (.int x2), .val (.int x3), .val (.int x4), .val (.int x5), .val (.int bd), .unset, .unset, .unset, .unset, .unset, .unset] [(.int 2147483647), (.int x2)])) (fun t k => X0.ldcInt hx hown (mvT hZ (hw _ (own_m 1 rfl))) (g := (mkF m 9 #[.val (.int x1), .val (.int x2), .val (.int x3), .val (.int x4), .val (.int x5), .val (.int bd), .unset, .unset, .unset, .unset, .unset, .unset] [(.int x2)])) rfl (hb hby at_9) _ k) ?_
    refine own_by (T' := s₁) (g' := (mkF m 12 #[.val (.int x1), .val (.int x2), .val (.int x3), .val (.int x4), .val (.int x5), .val (.int bd), .unset, .unset, .unset, .unset, .unset, .unset] [(.int (x2 &&& (2147483647 : Int32)))])) (fun t k => XS.iand X0.here hx rfl (hb hby at_11) rfl k) ?_
    refine own_by (T' := s₁) (g' := (mkF m 14 #[.val (.int x1), .val (.int x2), .val (.int x3), .val (.int x4), .val (.int x5), .val (.int bd), .unset, .unset, .unset, .unset, .unset, .unset] [(.int bd), (.int (x2 &&& (2147483647 : Int32)))])) (fun t k => XS.iload X0.here hx rfl (hb hby at_12) rfl k) ?_
    refine own_by (T' := s₁) (g' := (mkF m 15 #[.val (.int x1), .val (.int x2), .val (.int x3), .val (.int x4), .val (.int x5), .val (.int bd), .unset, .unset, .unset, .unset, .unset, .unset] [(.int ((x2 &&& (2147483647 : Int32)) % bd))])) (fun t k => iremM X0 hx rfl (hb hby at_14) rfl hbz k) ?_
    refine own_by (T' := s₁) (g' := (mkF m 17 #[.val (.int x1), .val (.int x2), .val (.int x3), .val (.int x4), .val (.int x5), .val (.int bd), .val (.int ((x2 &&& (2147483647 : Int32)) % bd)), .unset, .unset, .unset, .unset, .unset] [])) (fun t k => XS.istore X0.here hx rfl (hb hby at_15) rfl (l' := #[.val (.int x1), .val (.int x2), .val (.int x3), .val (.int x4), .val (.int x5), .val (.int bd), .val (.int ((x2 &&& (2147483647 : Int32)) % bd)), .unset, .unset, .unset, .unset, .unset]) rfl k) ?_
    obtain ⟨v1, e_v1⟩ : ∃ z : Int32, z = ((x2 &&& (2147483647 : Int32)) % bd) := ⟨_, rfl⟩
    rw [← e_v1]
    have hv1 := own_v x2 bd hbd
    rw [← e_v1] at hv1
    refine own_by (T' := s₁) (g' := (mkF m 18 #[.val (.int x1), .val (.int x2), .val (.int x3), .val (.int x4), .val (.int x5), .val (.int bd), .val (.int v1), .unset, .unset, .unset, .unset, .unset] [(.int x3)])) (fun t k => XS.iloadN X0.here hx rfl (hb hby at_17) rfl k) ?_
    refine own_by (T' := s₁) (g' := (mkF m 20 #[.val (.int x1), .val (.int x2), .val (.int x3), .val (.int x4), .val (.int x5), .val (.int bd), .val (.int v1), .unset, .unset, .unset, .unset, .unset] [(.int 2147483647), (.int x3)])) (fun t k => X0.ldcInt hx hown (mvT hZ (hw _ (own_m 1 rfl))) (g := (mkF m 18 #[.val (.int x1), .val (.int x2), .val (.int x3), .val (.int x4), .val (.int x5), .val (.int bd), .val (.int v1), .unset, .unset, .unset, .unset, .unset] [(.int x3)])) rfl (hb hby at_18) _ k) ?_
    refine own_by (T' := s₁) (g' := (mkF m 21 #[.val (.int x1), .val (.int x2), .val (.int x3), .val (.int x4), .val (.int x5), .val (.int bd), .val (.int v1), .unset, .unset, .unset, .unset, .unset] [(.int (x3 &&& (2147483647 : Int32)))])) (fun t k => XS.iand X0.here hx rfl (hb hby at_20) rfl k) ?_
    refine own_by (T' := s₁) (g' := (mkF m 23 #[.val (.int x1), .val (.int x2), .val (.int x3), .val (.int x4), .val (.int x5), .val (.int bd), .val (.int v1), .unset, .unset, .unset, .unset, .unset] [(.int bd), (.int (x3 &&& (2147483647 : Int32)))])) (fun t k => XS.iload X0.here hx rfl (hb hby at_21) rfl k) ?_
    refine own_by (T' := s₁) (g' := (mkF m 24 #[.val (.int x1), .val (.int x2), .val (.int x3), .val (.int x4), .val (.int x5), .val (.int bd), .val (.int v1), .unset, .unset, .unset, .unset, .unset] [(.int ((x3 &&& (2147483647 : Int32)) % bd))])) (fun t k => iremM X0 hx rfl (hb hby at_23) rfl hbz k) ?_
    refine own_by (T' := s₁) (g' := (mkF m 26 #[.val (.int x1), .val (.int x2), .val (.int x3), .val (.int x4), .val (.int x5), .val (.int bd), .val (.int v1), .val (.int ((x3 &&& (2147483647 : Int32)) % bd)), .unset, .unset, .unset, .unset] [])) (fun t k => XS.istore X0.here hx rfl (hb hby at_24) rfl (l' := #[.val (.int x1), .val (.int x2), .val (.int x3), .val (.int x4), .val (.int x5), .val (.int bd), .val (.int v1), .val (.int ((x3 &&& (2147483647 : Int32)) % bd)), .unset, .unset, .unset, .unset]) rfl k) ?_
    obtain ⟨v2, e_v2⟩ : ∃ z : Int32, z = ((x3 &&& (2147483647 : Int32)) % bd) := ⟨_, rfl⟩
    rw [← e_v2]
    have hv2 := own_v x3 bd hbd
    rw [← e_v2] at hv2
    refine own_by (T' := s₁) (g' := (mkF m 27 #[.val (.int x1), .val (.int x2), .val (.int x3), .val (.int x4), .val (.int x5), .val (.int bd), .val (.int v1), .val (.int v2), .unset, .unset, .unset, .unset] [(.int x4)])) (fun t k => XS.iloadN X0.here hx rfl (hb hby at_26) rfl k) ?_
    refine own_by (T' := s₁) (g' := (mkF m 29 #[.val (.int x1), .val (.int x2), .val (.int x3), .val (.int x4), .val (.int x5), .val (.int bd), .val (.int v1), .val (.int v2), .unset, .unset, .unset, .unset] [(.int 2147483647), (.int x4)])) (fun t k => X0.ldcInt hx hown (mvT hZ (hw _ (own_m 1 rfl))) (g := (mkF m 27 #[.val (.int x1), .val (.int x2), .val (.int x3), .val (.int x4), .val (.int x5), .val (.int bd), .val (.int v1), .val (.int v2), .unset, .unset, .unset, .unset] [(.int x4)])) rfl (hb hby at_27) _ k) ?_
    refine own_by (T' := s₁) (g' := (mkF m 30 #[.val (.int x1), .val (.int x2), .val (.int x3), .val (.int x4), .val (.int x5), .val (.int bd), .val (.int v1), .val (.int v2), .unset, .unset, .unset, .unset] [(.int (x4 &&& (2147483647 : Int32)))])) (fun t k => XS.iand X0.here hx rfl (hb hby at_29) rfl k) ?_
    refine own_by (T' := s₁) (g' := (mkF m 31 #[.val (.int x1), .val (.int x2), .val (.int x3), .val (.int x4), .val (.int x5), .val (.int bd), .val (.int v1), .val (.int v2), .unset, .unset, .unset, .unset] [(.int 3), (.int (x4 &&& (2147483647 : Int32)))])) (fun t k => XS.iconst X0.here hx rfl (hb hby at_30) k) ?_
    refine own_by (T' := s₁) (g' := (mkF m 32 #[.val (.int x1), .val (.int x2), .val (.int x3), .val (.int x4), .val (.int x5), .val (.int bd), .val (.int v1), .val (.int v2), .unset, .unset, .unset, .unset] [(.int ((x4 &&& (2147483647 : Int32)) % (3 : Int32)))])) (fun t k => iremM X0 hx rfl (hb hby at_31) rfl (by decide) k) ?_
    refine own_by (T' := s₁) (g' := (mkF m 34 #[.val (.int x1), .val (.int x2), .val (.int x3), .val (.int x4), .val (.int x5), .val (.int bd), .val (.int v1), .val (.int v2), .val (.int ((x4 &&& (2147483647 : Int32)) % (3 : Int32))), .unset, .unset, .unset] [])) (fun t k => XS.istore X0.here hx rfl (hb hby at_32) rfl (l' := #[.val (.int x1), .val (.int x2), .val (.int x3), .val (.int x4), .val (.int x5), .val (.int bd), .val (.int v1), .val (.int v2), .val (.int ((x4 &&& (2147483647 : Int32)) % (3 : Int32))), .unset, .unset, .unset]) rfl k) ?_
    obtain ⟨i1, e_i1⟩ : ∃ z : Int32, z = ((x4 &&& (2147483647 : Int32)) % (3 : Int32)) := ⟨_, rfl⟩
    rw [← e_i1]
    refine own_by (T' := s₁) (g' := (mkF m 36 #[.val (.int x1), .val (.int x2), .val (.int x3), .val (.int x4), .val (.int x5), .val (.int bd), .val (.int v1), .val (.int v2), .val (.int i1), .unset, .unset, .unset] [(.int i1)])) (fun t k => XS.iload X0.here hx rfl (hb hby at_34) rfl k) ?_
    refine own_by (T' := s₁) (g' := (mkF m 37 #[.val (.int x1), .val (.int x2), .val (.int x3), .val (.int x4), .val (.int x5), .val (.int bd), .val (.int v1), .val (.int v2), .val (.int i1), .unset, .unset, .unset] [(.int 1), (.int i1)])) (fun t k => XS.iconst X0.here hx rfl (hb hby at_36) k) ?_
    refine own_by (T' := s₁) (g' := (mkF m 38 #[.val (.int x1), .val (.int x2), .val (.int x3), .val (.int x4), .val (.int x5), .val (.int bd), .val (.int v1), .val (.int v2), .val (.int i1), .unset, .unset, .unset] [(.int (i1 + (1 : Int32)))])) (fun t k => XS.iadd X0.here hx rfl (hb hby at_37) rfl k) ?_
    refine own_by (T' := s₁) (g' := (mkF m 40 #[.val (.int x1), .val (.int x2), .val (.int x3), .val (.int x4), .val (.int x5), .val (.int bd), .val (.int v1), .val (.int v2), .val (.int i1), .unset, .unset, .unset] [(.int x5), (.int (i1 + (1 : Int32)))])) (fun t k => XS.iload X0.here hx rfl (hb hby at_38) rfl k) ?_
    refine own_by (T' := s₁) (g' := (mkF m 41 #[.val (.int x1), .val (.int x2), .val (.int x3), .val (.int x4), .val (.int x5), .val (.int bd), .val (.int v1), .val (.int v2), .val (.int i1), .unset, .unset, .unset] [(.int 1), (.int x5), (.int (i1 + (1 : Int32)))])) (fun t k => XS.iconst X0.here hx rfl (hb hby at_40) k) ?_
    refine own_by (T' := s₁) (g' := (mkF m 42 #[.val (.int x1), .val (.int x2), .val (.int x3), .val (.int x4), .val (.int x5), .val (.int bd), .val (.int v1), .val (.int v2), .val (.int i1), .unset, .unset, .unset] [(.int (x5 &&& (1 : Int32))), (.int (i1 + (1 : Int32)))])) (fun t k => XS.iand X0.here hx rfl (hb hby at_41) rfl k) ?_
    refine own_by (T' := s₁) (g' := (mkF m 43 #[.val (.int x1), .val (.int x2), .val (.int x3), .val (.int x4), .val (.int x5), .val (.int bd), .val (.int v1), .val (.int v2), .val (.int i1), .unset, .unset, .unset] [(.int ((i1 + (1 : Int32)) + (x5 &&& (1 : Int32))))])) (fun t k => XS.iadd X0.here hx rfl (hb hby at_42) rfl k) ?_
    refine own_by (T' := s₁) (g' := (mkF m 44 #[.val (.int x1), .val (.int x2), .val (.int x3), .val (.int x4), .val (.int x5), .val (.int bd), .val (.int v1), .val (.int v2), .val (.int i1), .unset, .unset, .unset] [(.int 3), (.int ((i1 + (1 : Int32)) + (x5 &&& (1 : Int32))))])) (fun t k => XS.iconst X0.here hx rfl (hb hby at_43) k) ?_
    refine own_by (T' := s₁) (g' := (mkF m 45 #[.val (.int x1), .val (.int x2), .val (.int x3), .val (.int x4), .val (.int x5), .val (.int bd), .val (.int v1), .val (.int v2), .val (.int i1), .unset, .unset, .unset] [(.int (((i1 + (1 : Int32)) + (x5 &&& (1 : Int32))) % (3 : Int32)))])) (fun t k => iremM X0 hx rfl (hb hby at_44) rfl (by decide) k) ?_
    refine own_by (T' := s₁) (g' := (mkF m 47 #[.val (.int x1), .val (.int x2), .val (.int x3), .val (.int x4), .val (.int x5), .val (.int bd), .val (.int v1), .val (.int v2), .val (.int i1), .val (.int (((i1 + (1 : Int32)) + (x5 &&& (1 : Int32))) % (3 : Int32))), .unset, .unset] [])) (fun t k => XS.istore X0.here hx rfl (hb hby at_45) rfl (l' := #[.val (.int x1), .val (.int x2), .val (.int x3), .val (.int x4), .val (.int x5), .val (.int bd), .val (.int v1), .val (.int v2), .val (.int i1), .val (.int (((i1 + (1 : Int32)) + (x5 &&& (1 : Int32))) % (3 : Int32))), .unset, .unset]) rfl k) ?_
    obtain ⟨j1, e_j1⟩ : ∃ z : Int32, z = (((i1 + (1 : Int32)) + (x5 &&& (1 : Int32))) % (3 : Int32)) := ⟨_, rfl⟩
    rw [← e_j1]
    refine own_by (T' := s₁) (g' := (mkF m 48 #[.val (.int x1), .val (.int x2), .val (.int x3), .val (.int x4), .val (.int x5), .val (.int bd), .val (.int v1), .val (.int v2), .val (.int i1), .val (.int j1), .unset, .unset] [(.int 3)])) (fun t k => XS.iconst X0.here hx rfl (hb hby at_47) k) ?_
    refine own_by (T' := s₁) (g' := (mkF m 50 #[.val (.int x1), .val (.int x2), .val (.int x3), .val (.int x4), .val (.int x5), .val (.int bd), .val (.int v1), .val (.int v2), .val (.int i1), .val (.int j1), .unset, .unset] [(.int i1), (.int 3)])) (fun t k => XS.iload X0.here hx rfl (hb hby at_48) rfl k) ?_
    refine own_by (T' := s₁) (g' := (mkF m 51 #[.val (.int x1), .val (.int x2), .val (.int x3), .val (.int x4), .val (.int x5), .val (.int bd), .val (.int v1), .val (.int v2), .val (.int i1), .val (.int j1), .unset, .unset] [(.int ((3 : Int32) - i1))])) (fun t k => XS.isub X0.here hx rfl (hb hby at_50) rfl k) ?_
    refine own_by (T' := s₁) (g' := (mkF m 53 #[.val (.int x1), .val (.int x2), .val (.int x3), .val (.int x4), .val (.int x5), .val (.int bd), .val (.int v1), .val (.int v2), .val (.int i1), .val (.int j1), .unset, .unset] [(.int j1), (.int ((3 : Int32) - i1))])) (fun t k => XS.iload X0.here hx rfl (hb hby at_51) rfl k) ?_
    refine own_by (T' := s₁) (g' := (mkF m 54 #[.val (.int x1), .val (.int x2), .val (.int x3), .val (.int x4), .val (.int x5), .val (.int bd), .val (.int v1), .val (.int v2), .val (.int i1), .val (.int j1), .unset, .unset] [(.int (((3 : Int32) - i1) - j1))])) (fun t k => XS.isub X0.here hx rfl (hb hby at_53) rfl k) ?_
    refine own_by (T' := s₁) (g' := (mkF m 56 #[.val (.int x1), .val (.int x2), .val (.int x3), .val (.int x4), .val (.int x5), .val (.int bd), .val (.int v1), .val (.int v2), .val (.int i1), .val (.int j1), .val (.int (((3 : Int32) - i1) - j1)), .unset] [])) (fun t k => XS.istore X0.here hx rfl (hb hby at_54) rfl (l' := #[.val (.int x1), .val (.int x2), .val (.int x3), .val (.int x4), .val (.int x5), .val (.int bd), .val (.int v1), .val (.int v2), .val (.int i1), .val (.int j1), .val (.int (((3 : Int32) - i1) - j1)), .unset]) rfl k) ?_
    obtain ⟨k1, e_k1⟩ : ∃ z : Int32, z = (((3 : Int32) - i1) - j1) := ⟨_, rfl⟩
    rw [← e_k1]
    obtain ⟨i', j', k', hi, hj, hk, h6⟩ := own_idx x4 x5
    rw [← e_i1] at hi
    subst hi
    rw [← e_j1] at hj
    subst hj
    rw [← e_k1] at hk
    subst hk
    obtain ⟨t1, t2, t3⟩ := own_three h6
    obtain ⟨T8, h8, X8, e8, E8, A8, D8, -, st8⟩ := newO X0 hx hZ hown (hw _ (own_m 2 rfl)) (hw _ (own_m 3 rfl)) (hw _ (own_m 4 rfl)) e0 (g := (mkF m 56 #[.val (.int x1), .val (.int x2), .val (.int x3), .val (.int x4), .val (.int x5), .val (.int bd), .val (.int v1), .val (.int v2), .val (.int i1), .val (.int j1), .val (.int k1), .unset] [])) rfl (hb hby at_56) (by decide) (by decide)
    obtain ⟨b8, g8⟩ : ∃ z, z = h0.size := ⟨_, rfl⟩
    rw [← g8] at A8 D8 st8
    have g_b8 : n0 ≤ b8 := Nat.le_trans Zle (Nat.le_of_eq g8.symm)
    have Zle := Nat.le_trans Zle E8.1
    have E_b8 := A8
    have F_planes_b8 : Fld Z h8 b8 "com/example/cipherloom/cipherloom/core/Letters" "planes" "[[B" .null := D8 (Or.inr (hw _ (own_m 17 rfl))) (ty := (.array (.array .byte))) (by decide)
    refine own_by (T' := T8) (g' := (mkF m 59 #[.val (.int x1), .val (.int x2), .val (.int x3), .val (.int x4), .val (.int x5), .val (.int bd), .val (.int v1), .val (.int v2), .val (.int i1), .val (.int j1), .val (.int k1), .unset] [(.ref b8)])) (fun t k => st8 t k) ?_
    refine own_by (T' := T8) (g' := (mkF m 60 #[.val (.int x1), .val (.int x2), .val (.int x3), .val (.int x4), .val (.int x5), .val (.int bd), .val (.int v1), .val (.int v2), .val (.int i1), .val (.int j1), .val (.int k1), .unset] [(.ref b8), (.ref b8)])) (fun t k => XS.dup X8.here hx rfl (hb hby at_59) rfl rfl k) ?_
    refine own_by (T' := T8) (g' := (mkF m 63 #[.val (.int x1), .val (.int x2), .val (.int x3), .val (.int x4), .val (.int x5), .val (.int bd), .val (.int v1), .val (.int v2), .val (.int i1), .val (.int j1), .val (.int k1), .unset] [(.long 3), (.ref b8), (.ref b8)])) (fun t k => X8.ldc2Long hx hown (mvT hZ (hw _ (own_m 5 rfl))) (g := (mkF m 60 #[.val (.int x1), .val (.int x2), .val (.int x3), .val (.int x4), .val (.int x5), .val (.int bd), .val (.int v1), .val (.int v2), .val (.int i1), .val (.int j1), .val (.int k1), .unset] [(.ref b8), (.ref b8)])) rfl (hb hby at_60) _ k) ?_
    refine own_by (T' := T8) (g' := (mkF m 65 #[.val (.int x1), .val (.int x2), .val (.int x3), .val (.int x4), .val (.int x5), .val (.int bd), .val (.int v1), .val (.int v2), .val (.int i1), .val (.int j1), .val (.int k1), .unset] [(.int bd), (.long 3), (.ref b8), (.ref b8)])) (fun t k => XS.iload X8.here hx rfl (hb hby at_63) rfl k) ?_
    have lt_b8_9 := E_b8.lt
    have Zpre9 := Zle
    obtain ⟨_, _, ⟨T9, L9, k9, n9⟩, -, X9, ⟨Lc9, hQ9, l9, y9, z9⟩, st9⟩ := X8.specialBack hx (y := (⟨"com/example/cipherloom/cipherloom/core/Letters", "<init>", "(JI)V"⟩ : MethodName)) rfl hown (mvT hZ (hw _ (own_m 6 rfl))) (mvT hZ (hw _ (own_m 7 rfl))) (mvT hZ (hw _ (own_m 8 rfl))) (by decide) (backOf (W := 1) (rm1P2 l Z a0 hw [] b8 bd h8 n0 Zle E_b8 g_b8 F_planes_b8 (hn1) (hz)) hZ (hw _ (own_m 8 rfl)) (hw _ (own_m 4 rfl)) (by decide) (by decide)) (g := (mkF m 65 #[.val (.int x1), .val (.int x2), .val (.int x3), .val (.int x4), .val (.int x5), .val (.int bd), .val (.int v1), .val (.int v2), .val (.int i1), .val (.int j1), .val (.int k1), .unset] [(.int bd), (.long 3), (.ref b8), (.ref b8)])) rfl (by rw [hml]; rfl) (Steps.refl _) (a := b8) (argsL := [(.long 3), (.int bd)]) (rest := [(.ref b8)]) (lenOf pd_0 rfl) rfl (own_le rfl) (hb hby at_65) (fun _ _ => ⟨rfl, e8, (by decide : 1 + 3 ≤ _), (by decide : 1 + 8 ≤ _)⟩)
    dsimp only [Pt.U, Pt.locs, Pt.cells, Pt.slots] at X9 l9 y9 z9 st9 hQ9
    subst l9 y9 z9
    obtain ⟨b_9, y0_9, y1_9, kb_9, kc_9, rfl, Nq9, c9_0, c9_1, c9_2, c9_3, c9_4, c9_5, c9_6, c9_7, c9_8, c9_9, c9_10, c9_11⟩ := hQ9
    have N_ := Fr.app N_ Nq9
    have Zle := Nat.le_trans Zle c9_0.1
    have E_b8 := E_b8.keep c9_0
    have ne_b8_b_9 : b8 ≠ b_9 := Nat.ne_of_lt (Nat.lt_of_lt_of_le lt_b8_9 c9_2)
    have g_b_9 : n0 ≤ b_9 := Nat.le_trans Zpre9 c9_2
    have ne_b8_y0_9 : b8 ≠ y0_9 := Nat.ne_of_lt (Nat.lt_of_lt_of_le lt_b8_9 c9_3)
    have g_y0_9 : n0 ≤ y0_9 := Nat.le_trans Zpre9 c9_3
    have ne_b8_y1_9 : b8 ≠ y1_9 := Nat.ne_of_lt (Nat.lt_of_lt_of_le lt_b8_9 c9_4)
    have g_y1_9 : n0 ≤ y1_9 := Nat.le_trans Zpre9 c9_4
    refine own_by (T' := T9) (g' := (mkF m 68 #[.val (.int x1), .val (.int x2), .val (.int x3), .val (.int x4), .val (.int x5), .val (.int bd), .val (.int v1), .val (.int v2), .val (.int i1), .val (.int j1), .val (.int k1), .unset] [(.ref b8)])) (fun t k => st9.trans k) ?_
    refine own_by (T' := T9) (g' := (mkF m 70 #[.val (.int x1), .val (.int x2), .val (.int x3), .val (.int x4), .val (.int x5), .val (.int bd), .val (.int v1), .val (.int v2), .val (.int i1), .val (.int j1), .val (.int k1), .val (.ref b8)] [])) (fun t k => XS.astore X9.here hx rfl (hb hby at_68) rfl rfl (l' := #[.val (.int x1), .val (.int x2), .val (.int x3), .val (.int x4), .val (.int x5), .val (.int bd), .val (.int v1), .val (.int v2), .val (.int i1), .val (.int j1), .val (.int k1), .val (.ref b8)]) rfl k) ?_
    refine own_by (T' := T9) (g' := (mkF m 72 #[.val (.int x1), .val (.int x2), .val (.int x3), .val (.int x4), .val (.int x5), .val (.int bd), .val (.int v1), .val (.int v2), .val (.int i1), .val (.int j1), .val (.int k1), .val (.ref b8)] [(.ref b8)])) (fun t k => XS.aload X9.here hx rfl (hb hby at_70) rfl rfl k) ?_
    refine own_by (T' := T9) (g' := (mkF m 74 #[.val (.int x1), .val (.int x2), .val (.int x3), .val (.int x4), .val (.int x5), .val (.int bd), .val (.int v1), .val (.int v2), .val (.int i1), .val (.int j1), .val (.int k1), .val (.ref b8)] [(.int i1), (.ref b8)])) (fun t k => XS.iload X9.here hx rfl (hb hby at_72) rfl k) ?_
    refine own_by (T' := T9) (g' := (mkF m 76 #[.val (.int x1), .val (.int x2), .val (.int x3), .val (.int x4), .val (.int x5), .val (.int bd), .val (.int v1), .val (.int v2), .val (.int i1), .val (.int j1), .val (.int k1), .val (.ref b8)] [(.int v1), (.int i1), (.ref b8)])) (fun t k => XS.iload X9.here hx rfl (hb hby at_74) rfl k) ?_
    obtain ⟨cq10, kq10, q10a, q10b, q10c⟩ := isOf hZ rfl c9_1
    obtain ⟨_, _, ⟨T10, L10, k10, n10⟩, -, X10, ⟨Lc10, hQ10, l10, y10, z10⟩, st10⟩ := X9.virtualBack hx (y := (⟨"com/example/cipherloom/cipherloom/core/Letters", "set", "(II)V"⟩ : MethodName)) (z := (⟨"com/example/cipherloom/cipherloom/core/Letters", "set", "(II)V"⟩ : MethodName)) hown (mvT hZ (hw _ (own_m 18 rfl))) (mvT hZ (hw _ (own_m 19 rfl))) (notFace_of_selects (args := #[]) (mvT hZ (hw _ (own_m 21 rfl)))) (mvT hZ (hw _ (own_m 21 rfl))) (mvT hZ (hw _ (own_m 20 rfl))) (by decide) (backOf (W := 0) (rm3P2 l Z a0 hw [] b8 i1 v1 b_9 y0_9 y1_9 kb_9 kc_9 (0 : Int32) (0 : Int32) (0 : Int32) (0 : Int32) (0 : Int32) (0 : Int32) T9.heap n0 Zle c9_5 c9_6 c9_7 c9_8 g_y0_9 g_y1_9 (c9_9) (c9_10) (c9_11) (ne_b8_y0_9) (ne_b8_y1_9) (t1)) hZ (hw _ (own_m 22 rfl)) (hw _ (own_m 4 rfl)) (by decide) (by decide)) q10a q10c (g := (mkF m 76 #[.val (.int x1), .val (.int x2), .val (.int x3), .val (.int x4), .val (.int x5), .val (.int bd), .val (.int v1), .val (.int v2), .val (.int i1), .val (.int j1), .val (.int k1), .val (.ref b8)] [(.int v1), (.int i1), (.ref b8)])) rfl (by rw [hml]; rfl) (Steps.refl _) (argsL := [(.int i1), (.int v1)]) (rest := []) (lenOf pd_2 rfl) rfl (own_le rfl) (hb hby at_76) (fun _ _ => ⟨rfl, rfl, (by decide : 4 + 0 ≤ _), (by decide : 9 + 0 ≤ _)⟩)
    dsimp only [Pt.U, Pt.locs, Pt.cells, Pt.slots] at X10 l10 y10 z10 st10 hQ10
    subst l10 y10 z10
    obtain ⟨rfl, Nq10, c10_0, c10_1, c10_2, c10_3⟩ := hQ10
    have N_ := Fr.app N_ Nq10
    have Zle := Nat.le_trans Zle c10_0.1
    have c9_1 := c9_1.keep c10_0
    have c9_5 := c9_5.keep c10_0 (ninS ne_b8_y0_9 (ninS ne_b8_y1_9 nin0))
    have c9_6 := c9_6.keep c10_0 (ninS c9_9 (ninS c9_10 nin0))
    refine own_by (T' := T10) (g' := (mkF m 79 #[.val (.int x1), .val (.int x2), .val (.int x3), .val (.int x4), .val (.int x5), .val (.int bd), .val (.int v1), .val (.int v2), .val (.int i1), .val (.int j1), .val (.int k1), .val (.ref b8)] [])) (fun t k => st10.trans k) ?_
    refine own_by (T' := T10) (g' := (mkF m 81 #[.val (.int x1), .val (.int x2), .val (.int x3), .val (.int x4), .val (.int x5), .val (.int bd), .val (.int v1), .val (.int v2), .val (.int i1), .val (.int j1), .val (.int k1), .val (.ref b8)] [(.ref b8)])) (fun t k => XS.aload X10.here hx rfl (hb hby at_79) rfl rfl k) ?_
    refine own_by (T' := T10) (g' := (mkF m 83 #[.val (.int x1), .val (.int x2), .val (.int x3), .val (.int x4), .val (.int x5), .val (.int bd), .val (.int v1), .val (.int v2), .val (.int i1), .val (.int j1), .val (.int k1), .val (.ref b8)] [(.int j1), (.ref b8)])) (fun t k => XS.iload X10.here hx rfl (hb hby at_81) rfl k) ?_
    refine own_by (T' := T10) (g' := (mkF m 85 #[.val (.int x1), .val (.int x2), .val (.int x3), .val (.int x4), .val (.int x5), .val (.int bd), .val (.int v1), .val (.int v2), .val (.int i1), .val (.int j1), .val (.int k1), .val (.ref b8)] [(.int v2), (.int j1), (.ref b8)])) (fun t k => XS.iload X10.here hx rfl (hb hby at_83) rfl k) ?_
    obtain ⟨cq11, kq11, q11a, q11b, q11c⟩ := isOf hZ rfl c9_1
    obtain ⟨_, _, ⟨T11, L11, k11, n11⟩, -, X11, ⟨Lc11, hQ11, l11, y11, z11⟩, st11⟩ := X10.virtualBack hx (y := (⟨"com/example/cipherloom/cipherloom/core/Letters", "set", "(II)V"⟩ : MethodName)) (z := (⟨"com/example/cipherloom/cipherloom/core/Letters", "set", "(II)V"⟩ : MethodName)) hown (mvT hZ (hw _ (own_m 18 rfl))) (mvT hZ (hw _ (own_m 19 rfl))) (notFace_of_selects (args := #[]) (mvT hZ (hw _ (own_m 21 rfl)))) (mvT hZ (hw _ (own_m 21 rfl))) (mvT hZ (hw _ (own_m 20 rfl))) (by decide) (backOf (W := 0) (rm3P2 l Z a0 hw [] b8 j1 v2 b_9 y0_9 y1_9 kb_9 kc_9 (own_pk i1 (0 : Int32) (own_e0 v1) (0 : Int32)) (own_pk i1 (1 : Int32) (own_e0 v1) (0 : Int32)) (own_pk i1 (2 : Int32) (own_e0 v1) (0 : Int32)) (own_pk i1 (0 : Int32) (own_e1 v1) (0 : Int32)) (own_pk i1 (1 : Int32) (own_e1 v1) (0 : Int32)) (own_pk i1 (2 : Int32) (own_e1 v1) (0 : Int32)) T10.heap n0 Zle c9_5 c10_1 c10_2 c10_3 g_y0_9 g_y1_9 (c9_9) (c9_10) (c9_11) (ne_b8_y0_9) (ne_b8_y1_9) (t2)) hZ (hw _ (own_m 22 rfl)) (hw _ (own_m 4 rfl)) (by decide) (by decide)) q11a q11c (g := (mkF m 85 #[.val (.int x1), .val (.int x2), .val (.int x3), .val (.int x4), .val (.int x5), .val (.int bd), .val (.int v1), .val (.int v2), .val (.int i1), .val (.int j1), .val (.int k1), .val (.ref b8)] [(.int v2), (.int j1), (.ref b8)])) rfl (by rw [hml]; rfl) (Steps.refl _) (argsL := [(.int j1), (.int v2)]) (rest := []) (lenOf pd_2 rfl) rfl (own_le rfl) (hb hby at_85) (fun _ _ => ⟨rfl, rfl, (by decide : 4 + 0 ≤ _), (by decide : 9 + 0 ≤ _)⟩)
    dsimp only [Pt.U, Pt.locs, Pt.cells, Pt.slots] at X11 l11 y11 z11 st11 hQ11
    subst l11 y11 z11
    obtain ⟨rfl, Nq11, c11_0, c11_1, c11_2, c11_3⟩ := hQ11
    have N_ := Fr.app N_ Nq11
    have Zle := Nat.le_trans Zle c11_0.1
    have c9_1 := c9_1.keep c11_0
    have c9_5 := c9_5.keep c11_0 (ninS ne_b8_y0_9 (ninS ne_b8_y1_9 nin0))
    have c10_1 := c10_1.keep c11_0 (ninS c9_9 (ninS c9_10 nin0))
    refine own_by (T' := T11) (g' := (mkF m 88 #[.val (.int x1), .val (.int x2), .val (.int x3), .val (.int x4), .val (.int x5), .val (.int bd), .val (.int v1), .val (.int v2), .val (.int i1), .val (.int j1), .val (.int k1), .val (.ref b8)] [])) (fun t k => st11.trans k) ?_
    refine own_by (T' := T11) (g' := (mkF m 90 #[.val (.int x1), .val (.int x2), .val (.int x3), .val (.int x4), .val (.int x5), .val (.int bd), .val (.int v1), .val (.int v2), .val (.int i1), .val (.int j1), .val (.int k1), .val (.ref b8)] [(.ref b8)])) (fun t k => XS.aload X11.here hx rfl (hb hby at_88) rfl rfl k) ?_
    refine own_by (T' := T11) (g' := (mkF m 92 #[.val (.int x1), .val (.int x2), .val (.int x3), .val (.int x4), .val (.int x5), .val (.int bd), .val (.int v1), .val (.int v2), .val (.int i1), .val (.int j1), .val (.int k1), .val (.ref b8)] [(.int i1), (.ref b8)])) (fun t k => XS.iload X11.here hx rfl (hb hby at_90) rfl k) ?_
    obtain ⟨cq12, kq12, q12a, q12b, q12c⟩ := isOf hZ rfl c9_1
    obtain ⟨_, _, ⟨T12, L12, k12, n12⟩, -, X12, ⟨Lc12, hQ12, l12, y12, z12⟩, st12⟩ := X11.virtualBack hx (y := (⟨"com/example/cipherloom/cipherloom/core/Letters", "get", "(I)I"⟩ : MethodName)) (z := (⟨"com/example/cipherloom/cipherloom/core/Letters", "get", "(I)I"⟩ : MethodName)) hown (mvT hZ (hw _ (own_m 23 rfl))) (mvT hZ (hw _ (own_m 24 rfl))) (notFace_of_selects (args := #[]) (mvT hZ (hw _ (own_m 26 rfl)))) (mvT hZ (hw _ (own_m 26 rfl))) (mvT hZ (hw _ (own_m 25 rfl))) (by decide) (backOf (W := 0) (rm4P2 l Z a0 hw [] b8 i1 b_9 y0_9 y1_9 kb_9 kc_9 (own_pk j1 (0 : Int32) (own_e0 v2) (own_pk i1 (0 : Int32) (own_e0 v1) (0 : Int32))) (own_pk j1 (1 : Int32) (own_e0 v2) (own_pk i1 (1 : Int32) (own_e0 v1) (0 : Int32))) (own_pk j1 (2 : Int32) (own_e0 v2) (own_pk i1 (2 : Int32) (own_e0 v1) (0 : Int32))) (own_pk j1 (0 : Int32) (own_e1 v2) (own_pk i1 (0 : Int32) (own_e1 v1) (0 : Int32))) (own_pk j1 (1 : Int32) (own_e1 v2) (own_pk i1 (1 : Int32) (own_e1 v1) (0 : Int32))) (own_pk j1 (2 : Int32) (own_e1 v2) (own_pk i1 (2 : Int32) (own_e1 v1) (0 : Int32))) T11.heap n0 Zle c9_5 c11_1 c11_2 c11_3 (t1)) hZ (hw _ (own_m 27 rfl)) (hw _ (own_m 4 rfl)) (by decide) (by decide)) q12a q12c (g := (mkF m 92 #[.val (.int x1), .val (.int x2), .val (.int x3), .val (.int x4), .val (.int x5), .val (.int bd), .val (.int v1), .val (.int v2), .val (.int i1), .val (.int j1), .val (.int k1), .val (.ref b8)] [(.int i1), (.ref b8)])) rfl (by rw [hml]; rfl) (Steps.refl _) (argsL := [(.int i1)]) (rest := []) (lenOf pd_3 rfl) rfl (own_le rfl) (hb hby at_92) (fun _ _ => ⟨rfl, rfl, (by decide : 4 + 0 ≤ _), (by decide : 9 + 0 ≤ _)⟩)
    dsimp only [Pt.U, Pt.locs, Pt.cells, Pt.slots] at X12 l12 y12 z12 st12 hQ12
    subst l12 y12 z12
    obtain ⟨rfl, Nq12, e12⟩ := hQ12
    have N_ := Fr.app N_ Nq12
    refine own_by (T' := T12) (g' := (mkF m 95 #[.val (.int x1), .val (.int x2), .val (.int x3), .val (.int x4), .val (.int x5), .val (.int bd), .val (.int v1), .val (.int v2), .val (.int i1), .val (.int j1), .val (.int k1), .val (.ref b8)] [(.int (own_g2 (own_at i1 (own_pk j1 (0 : Int32) (own_e0 v2) (own_pk i1 (0 : Int32) (own_e0 v1) (0 : Int32))) (own_pk j1 (1 : Int32) (own_e0 v2) (own_pk i1 (1 : Int32) (own_e0 v1) (0 : Int32))) (own_pk j1 (2 : Int32) (own_e0 v2) (own_pk i1 (2 : Int32) (own_e0 v1) (0 : Int32)))) (own_at i1 (own_pk j1 (0 : Int32) (own_e1 v2) (own_pk i1 (0 : Int32) (own_e1 v1) (0 : Int32))) (own_pk j1 (1 : Int32) (own_e1 v2) (own_pk i1 (1 : Int32) (own_e1 v1) (0 : Int32))) (own_pk j1 (2 : Int32) (own_e1 v2) (own_pk i1 (2 : Int32) (own_e1 v1) (0 : Int32))))))])) (fun t k => st12.trans k) ?_
    refine own_by (T' := T12) (g' := (mkF m 97 #[.val (.int x1), .val (.int x2), .val (.int x3), .val (.int x4), .val (.int x5), .val (.int bd), .val (.int v1), .val (.int v2), .val (.int i1), .val (.int j1), .val (.int k1), .val (.ref b8)] [(.int v1), (.int (own_g2 (own_at i1 (own_pk j1 (0 : Int32) (own_e0 v2) (own_pk i1 (0 : Int32) (own_e0 v1) (0 : Int32))) (own_pk j1 (1 : Int32) (own_e0 v2) (own_pk i1 (1 : Int32) (own_e0 v1) (0 : Int32))) (own_pk j1 (2 : Int32) (own_e0 v2) (own_pk i1 (2 : Int32) (own_e0 v1) (0 : Int32)))) (own_at i1 (own_pk j1 (0 : Int32) (own_e1 v2) (own_pk i1 (0 : Int32) (own_e1 v1) (0 : Int32))) (own_pk j1 (1 : Int32) (own_e1 v2) (own_pk i1 (1 : Int32) (own_e1 v1) (0 : Int32))) (own_pk j1 (2 : Int32) (own_e1 v2) (own_pk i1 (2 : Int32) (own_e1 v1) (0 : Int32))))))])) (fun t k => XS.iload X12.here hx rfl (hb hby at_95) rfl k) ?_
    refine own_by (T' := T12) (g' := (mkF m 100 #[.val (.int x1), .val (.int x2), .val (.int x3), .val (.int x4), .val (.int x5), .val (.int bd), .val (.int v1), .val (.int v2), .val (.int i1), .val (.int j1), .val (.int k1), .val (.ref b8)] [])) (fun t k => XS.icmpNo X12.here hx rfl (hb hby at_97) rfl (teq (by rw [(own_pick h6).1]; rw [(own_pick h6).1]; exact own_back2 _ hv1.1 (by omega))).2 k) ?_
    refine own_by (T' := T12) (g' := (mkF m 102 #[.val (.int x1), .val (.int x2), .val (.int x3), .val (.int x4), .val (.int x5), .val (.int bd), .val (.int v1), .val (.int v2), .val (.int i1), .val (.int j1), .val (.int k1), .val (.ref b8)] [(.ref b8)])) (fun t k => XS.aload X12.here hx rfl (hb hby at_100) rfl rfl k) ?_
    refine own_by (T' := T12) (g' := (mkF m 104 #[.val (.int x1), .val (.int x2), .val (.int x3), .val (.int x4), .val (.int x5), .val (.int bd), .val (.int v1), .val (.int v2), .val (.int i1), .val (.int j1), .val (.int k1), .val (.ref b8)] [(.int j1), (.ref b8)])) (fun t k => XS.iload X12.here hx rfl (hb hby at_102) rfl k) ?_
    obtain ⟨cq13, kq13, q13a, q13b, q13c⟩ := isOf hZ e12 c9_1
    obtain ⟨_, _, ⟨T13, L13, k13, n13⟩, -, X13, ⟨Lc13, hQ13, l13, y13, z13⟩, st13⟩ := X12.virtualBack hx (y := (⟨"com/example/cipherloom/cipherloom/core/Letters", "get", "(I)I"⟩ : MethodName)) (z := (⟨"com/example/cipherloom/cipherloom/core/Letters", "get", "(I)I"⟩ : MethodName)) hown (mvT hZ (hw _ (own_m 23 rfl))) (mvT hZ (hw _ (own_m 24 rfl))) (notFace_of_selects (args := #[]) (mvT hZ (hw _ (own_m 26 rfl)))) (mvT hZ (hw _ (own_m 26 rfl))) (mvT hZ (hw _ (own_m 25 rfl))) (by decide) (backOf (W := 0) (rm4P2 l Z a0 hw [] b8 j1 b_9 y0_9 y1_9 kb_9 kc_9 (own_pk j1 (0 : Int32) (own_e0 v2) (own_pk i1 (0 : Int32) (own_e0 v1) (0 : Int32))) (own_pk j1 (1 : Int32) (own_e0 v2) (own_pk i1 (1 : Int32) (own_e0 v1) (0 : Int32))) (own_pk j1 (2 : Int32) (own_e0 v2) (own_pk i1 (2 : Int32) (own_e0 v1) (0 : Int32))) (own_pk j1 (0 : Int32) (own_e1 v2) (own_pk i1 (0 : Int32) (own_e1 v1) (0 : Int32))) (own_pk j1 (1 : Int32) (own_e1 v2) (own_pk i1 (1 : Int32) (own_e1 v1) (0 : Int32))) (own_pk j1 (2 : Int32) (own_e1 v2) (own_pk i1 (2 : Int32) (own_e1 v1) (0 : Int32))) T11.heap n0 Zle c9_5 c11_1 c11_2 c11_3 (t2)) hZ (hw _ (own_m 27 rfl)) (hw _ (own_m 4 rfl)) (by decide) (by decide)) q13a q13c (g := (mkF m 104 #[.val (.int x1), .val (.int x2), .val (.int x3), .val (.int x4), .val (.int x5), .val (.int bd), .val (.int v1), .val (.int v2), .val (.int i1), .val (.int j1), .val (.int k1), .val (.ref b8)] [(.int j1), (.ref b8)])) rfl (by rw [hml]; rfl) (Steps.refl _) (argsL := [(.int j1)]) (rest := []) (lenOf pd_3 rfl) rfl (own_le rfl) (hb hby at_104) (fun _ _ => ⟨rfl, e12, (by decide : 4 + 0 ≤ _), (by decide : 9 + 0 ≤ _)⟩)
    dsimp only [Pt.U, Pt.locs, Pt.cells, Pt.slots] at X13 l13 y13 z13 st13 hQ13
    subst l13 y13 z13
    obtain ⟨rfl, Nq13, e13⟩ := hQ13
    have N_ := Fr.app N_ Nq13
    refine own_by (T' := T13) (g' := (mkF m 107 #[.val (.int x1), .val (.int x2), .val (.int x3), .val (.int x4), .val (.int x5), .val (.int bd), .val (.int v1), .val (.int v2), .val (.int i1), .val (.int j1), .val (.int k1), .val (.ref b8)] [(.int (own_g2 (own_at j1 (own_pk j1 (0 : Int32) (own_e0 v2) (own_pk i1 (0 : Int32) (own_e0 v1) (0 : Int32))) (own_pk j1 (1 : Int32) (own_e0 v2) (own_pk i1 (1 : Int32) (own_e0 v1) (0 : Int32))) (own_pk j1 (2 : Int32) (own_e0 v2) (own_pk i1 (2 : Int32) (own_e0 v1) (0 : Int32)))) (own_at j1 (own_pk j1 (0 : Int32) (own_e1 v2) (own_pk i1 (0 : Int32) (own_e1 v1) (0 : Int32))) (own_pk j1 (1 : Int32) (own_e1 v2) (own_pk i1 (1 : Int32) (own_e1 v1) (0 : Int32))) (own_pk j1 (2 : Int32) (own_e1 v2) (own_pk i1 (2 : Int32) (own_e1 v1) (0 : Int32))))))])) (fun t k => st13.trans k) ?_
    refine own_by (T' := T13) (g' := (mkF m 109 #[.val (.int x1), .val (.int x2), .val (.int x3), .val (.int x4), .val (.int x5), .val (.int bd), .val (.int v1), .val (.int v2), .val (.int i1), .val (.int j1), .val (.int k1), .val (.ref b8)] [(.int v2), (.int (own_g2 (own_at j1 (own_pk j1 (0 : Int32) (own_e0 v2) (own_pk i1 (0 : Int32) (own_e0 v1) (0 : Int32))) (own_pk j1 (1 : Int32) (own_e0 v2) (own_pk i1 (1 : Int32) (own_e0 v1) (0 : Int32))) (own_pk j1 (2 : Int32) (own_e0 v2) (own_pk i1 (2 : Int32) (own_e0 v1) (0 : Int32)))) (own_at j1 (own_pk j1 (0 : Int32) (own_e1 v2) (own_pk i1 (0 : Int32) (own_e1 v1) (0 : Int32))) (own_pk j1 (1 : Int32) (own_e1 v2) (own_pk i1 (1 : Int32) (own_e1 v1) (0 : Int32))) (own_pk j1 (2 : Int32) (own_e1 v2) (own_pk i1 (2 : Int32) (own_e1 v1) (0 : Int32))))))])) (fun t k => XS.iload X13.here hx rfl (hb hby at_107) rfl k) ?_
    refine own_by (T' := T13) (g' := (mkF m 112 #[.val (.int x1), .val (.int x2), .val (.int x3), .val (.int x4), .val (.int x5), .val (.int bd), .val (.int v1), .val (.int v2), .val (.int i1), .val (.int j1), .val (.int k1), .val (.ref b8)] [])) (fun t k => XS.icmpNo X13.here hx rfl (hb hby at_109) rfl (teq (by rw [(own_pick h6).2.1]; rw [(own_pick h6).2.1]; exact own_back2 _ hv2.1 (by omega))).2 k) ?_
    refine own_by (T' := T13) (g' := (mkF m 114 #[.val (.int x1), .val (.int x2), .val (.int x3), .val (.int x4), .val (.int x5), .val (.int bd), .val (.int v1), .val (.int v2), .val (.int i1), .val (.int j1), .val (.int k1), .val (.ref b8)] [(.ref b8)])) (fun t k => XS.aload X13.here hx rfl (hb hby at_112) rfl rfl k) ?_
    refine own_by (T' := T13) (g' := (mkF m 116 #[.val (.int x1), .val (.int x2), .val (.int x3), .val (.int x4), .val (.int x5), .val (.int bd), .val (.int v1), .val (.int v2), .val (.int i1), .val (.int j1), .val (.int k1), .val (.ref b8)] [(.int k1), (.ref b8)])) (fun t k => XS.iload X13.here hx rfl (hb hby at_114) rfl k) ?_
    obtain ⟨cq14, kq14, q14a, q14b, q14c⟩ := isOf hZ e13 c9_1
    obtain ⟨_, _, ⟨T14, L14, k14, n14⟩, -, X14, ⟨Lc14, hQ14, l14, y14, z14⟩, st14⟩ := X13.virtualBack hx (y := (⟨"com/example/cipherloom/cipherloom/core/Letters", "get", "(I)I"⟩ : MethodName)) (z := (⟨"com/example/cipherloom/cipherloom/core/Letters", "get", "(I)I"⟩ : MethodName)) hown (mvT hZ (hw _ (own_m 23 rfl))) (mvT hZ (hw _ (own_m 24 rfl))) (notFace_of_selects (args := #[]) (mvT hZ (hw _ (own_m 26 rfl)))) (mvT hZ (hw _ (own_m 26 rfl))) (mvT hZ (hw _ (own_m 25 rfl))) (by decide) (backOf (W := 0) (rm4P2 l Z a0 hw [] b8 k1 b_9 y0_9 y1_9 kb_9 kc_9 (own_pk j1 (0 : Int32) (own_e0 v2) (own_pk i1 (0 : Int32) (own_e0 v1) (0 : Int32))) (own_pk j1 (1 : Int32) (own_e0 v2) (own_pk i1 (1 : Int32) (own_e0 v1) (0 : Int32))) (own_pk j1 (2 : Int32) (own_e0 v2) (own_pk i1 (2 : Int32) (own_e0 v1) (0 : Int32))) (own_pk j1 (0 : Int32) (own_e1 v2) (own_pk i1 (0 : Int32) (own_e1 v1) (0 : Int32))) (own_pk j1 (1 : Int32) (own_e1 v2) (own_pk i1 (1 : Int32) (own_e1 v1) (0 : Int32))) (own_pk j1 (2 : Int32) (own_e1 v2) (own_pk i1 (2 : Int32) (own_e1 v1) (0 : Int32))) T11.heap n0 Zle c9_5 c11_1 c11_2 c11_3 (t3)) hZ (hw _ (own_m 27 rfl)) (hw _ (own_m 4 rfl)) (by decide) (by decide)) q14a q14c (g := (mkF m 116 #[.val (.int x1), .val (.int x2), .val (.int x3), .val (.int x4), .val (.int x5), .val (.int bd), .val (.int v1), .val (.int v2), .val (.int i1), .val (.int j1), .val (.int k1), .val (.ref b8)] [(.int k1), (.ref b8)])) rfl (by rw [hml]; rfl) (Steps.refl _) (argsL := [(.int k1)]) (rest := []) (lenOf pd_3 rfl) rfl (own_le rfl) (hb hby at_116) (fun _ _ => ⟨rfl, e13, (by decide : 4 + 0 ≤ _), (by decide : 9 + 0 ≤ _)⟩)
    dsimp only [Pt.U, Pt.locs, Pt.cells, Pt.slots] at X14 l14 y14 z14 st14 hQ14
    subst l14 y14 z14
    obtain ⟨rfl, Nq14, e14⟩ := hQ14
    have N_ := Fr.app N_ Nq14
    refine own_by (T' := T14) (g' := (mkF m 119 #[.val (.int x1), .val (.int x2), .val (.int x3), .val (.int x4), .val (.int x5), .val (.int bd), .val (.int v1), .val (.int v2), .val (.int i1), .val (.int j1), .val (.int k1), .val (.ref b8)] [(.int (own_g2 (own_at k1 (own_pk j1 (0 : Int32) (own_e0 v2) (own_pk i1 (0 : Int32) (own_e0 v1) (0 : Int32))) (own_pk j1 (1 : Int32) (own_e0 v2) (own_pk i1 (1 : Int32) (own_e0 v1) (0 : Int32))) (own_pk j1 (2 : Int32) (own_e0 v2) (own_pk i1 (2 : Int32) (own_e0 v1) (0 : Int32)))) (own_at k1 (own_pk j1 (0 : Int32) (own_e1 v2) (own_pk i1 (0 : Int32) (own_e1 v1) (0 : Int32))) (own_pk j1 (1 : Int32) (own_e1 v2) (own_pk i1 (1 : Int32) (own_e1 v1) (0 : Int32))) (own_pk j1 (2 : Int32) (own_e1 v2) (own_pk i1 (2 : Int32) (own_e1 v1) (0 : Int32))))))])) (fun t k => st14.trans k) ?_
    refine own_by (T' := T14) (g' := (mkF m 122 #[.val (.int x1), .val (.int x2), .val (.int x3), .val (.int x4), .val (.int x5), .val (.int bd), .val (.int v1), .val (.int v2), .val (.int i1), .val (.int j1), .val (.int k1), .val (.ref b8)] [])) (fun t k => XS.ifNo X14.here hx rfl (hb hby at_119) rfl ((if0 _ _).trans (teq (by rw [(own_pick h6).2.2]; rw [(own_pick h6).2.2]; exact own_gz2)).2) k) ?_
    refine own_by (T' := T14) (g' := (mkF m 123 #[.val (.int x1), .val (.int x2), .val (.int x3), .val (.int x4), .val (.int x5), .val (.int bd), .val (.int v1), .val (.int v2), .val (.int i1), .val (.int j1), .val (.int k1), .val (.ref b8)] [(.int 1)])) (fun t k => XS.iconst X14.here hx rfl (hb hby at_122) k) ?_
    refine own_by (T' := T14) (g' := (mkF m 127 #[.val (.int x1), .val (.int x2), .val (.int x3), .val (.int x4), .val (.int x5), .val (.int bd), .val (.int v1), .val (.int v2), .val (.int i1), .val (.int j1), .val (.int k1), .val (.ref b8)] [(.int 1)])) (fun t k => XS.goto X14.here hx rfl (pc0 := 123) (pc' := 127) rfl (hb hby at_123) (by decide) (by decide) k) ?_
    exact own_retN X14 hx (t := .boolean) Bd.notSynchronized Bd.returns (by simp) (hb hby at_127) (by decide) (by decide) (by rw [e14]; exact ⟨rfl, N_⟩)
  · obtain ⟨hn1, hn2, hz, hub⟩ := hq
    have hbd : 0 < bd.toInt := by omega
    have hbz : ¬ bd = 0 := own_nz (by omega)
    refine own_by (T' := s₁) (g' := (mkF m 9 #[.val (.int x1), .val (.int x2), .val (.int x3), .val (.int x4), .val (.int x5), .val (.int bd), .unset, .unset, .unset, .unset, .unset, .unset] [(.int x2)])) (fun t k => XS.iloadN X0.here hx rfl (hb hby at_8) rfl k) ?_
    refine own_by (T' := s₁) (g' := (mkF m 11 #[.val (.int x1), .val (.int x2), .val (.int x3), .val (.int x4), .val (.int x5), .val (.int bd), .unset, .unset, .unset, .unset, .unset, .unset] [(.int 2147483647), (.int x2)])) (fun t k => X0.ldcInt hx hown (mvT hZ (hw _ (own_m 1 rfl))) (g := (mkF m 9 #[.val (.int x1), .val (.int x2), .val (.int x3), .val (.int x4), .val (.int x5), .val (.int bd), .unset, .unset, .unset, .unset, .unset, .unset] [(.int x2)])) rfl (hb hby at_9) _ k) ?_
    refine own_by (T' := s₁) (g' := (mkF m 12 #[.val (.int x1), .val (.int x2), .val (.int x3), .val (.int x4), .val (.int x5), .val (.int bd), .unset, .unset, .unset, .unset, .unset, .unset] [(.int (x2 &&& (2147483647 : Int32)))])) (fun t k => XS.iand X0.here hx rfl (hb hby at_11) rfl k) ?_
    refine own_by (T' := s₁) (g' := (mkF m 14 #[.val (.int x1), .val (.int x2), .val (.int x3), .val (.int x4), .val (.int x5), .val (.int bd), .unset, .unset, .unset, .unset, .unset, .unset] [(.int bd), (.int (x2 &&& (2147483647 : Int32)))])) (fun t k => XS.iload X0.here hx rfl (hb hby at_12) rfl k) ?_
    refine own_by (T' := s₁) (g' := (mkF m 15 #[.val (.int x1), .val (.int x2), .val (.int x3), .val (.int x4), .val (.int x5), .val (.int bd), .unset, .unset, .unset, .unset, .unset, .unset] [(.int ((x2 &&& (2147483647 : Int32)) % bd))])) (fun t k => iremM X0 hx rfl (hb hby at_14) rfl hbz k) ?_
    refine own_by (T' := s₁) (g' := (mkF m 17 #[.val (.int x1), .val (.int x2), .val (.int x3), .val (.int x4), .val (.int x5), .val (.int bd), .val (.int ((x2 &&& (2147483647 : Int32)) % bd)), .unset, .unset, .unset, .unset, .unset] [])) (fun t k => XS.istore X0.here hx rfl (hb hby at_15) rfl (l' := #[.val (.int x1), .val (.int x2), .val (.int x3), .val (.int x4), .val (.int x5), .val (.int bd), .val (.int ((x2 &&& (2147483647 : Int32)) % bd)), .unset, .unset, .unset, .unset, .unset]) rfl k) ?_
    obtain ⟨v1, e_v1⟩ : ∃ z : Int32, z = ((x2 &&& (2147483647 : Int32)) % bd) := ⟨_, rfl⟩
    rw [← e_v1]
    have hv1 := own_v x2 bd hbd
    rw [← e_v1] at hv1
    refine own_by (T' := s₁) (g' := (mkF m 18 #[.val (.int x1), .val (.int x2), .val (.int x3), .val (.int x4), .val (.int x5), .val (.int bd), .val (.int v1), .unset, .unset, .unset, .unset, .unset] [(.int x3)])) (fun t k => XS.iloadN X0.here hx rfl (hb hby at_17) rfl k) ?_
    refine own_by (T' := s₁) (g' := (mkF m 20 #[.val (.int x1), .val (.int x2), .val (.int x3), .val (.int x4), .val (.int x5), .val (.int bd), .val (.int v1), .unset, .unset, .unset, .unset, .unset] [(.int 2147483647), (.int x3)])) (fun t k => X0.ldcInt hx hown (mvT hZ (hw _ (own_m 1 rfl))) (g := (mkF m 18 #[.val (.int x1), .val (.int x2), .val (.int x3), .val (.int x4), .val (.int x5), .val (.int bd), .val (.int v1), .unset, .unset, .unset, .unset, .unset] [(.int x3)])) rfl (hb hby at_18) _ k) ?_
    refine own_by (T' := s₁) (g' := (mkF m 21 #[.val (.int x1), .val (.int x2), .val (.int x3), .val (.int x4), .val (.int x5), .val (.int bd), .val (.int v1), .unset, .unset, .unset, .unset, .unset] [(.int (x3 &&& (2147483647 : Int32)))])) (fun t k => XS.iand X0.here hx rfl (hb hby at_20) rfl k) ?_
    refine own_by (T' := s₁) (g' := (mkF m 23 #[.val (.int x1), .val (.int x2), .val (.int x3), .val (.int x4), .val (.int x5), .val (.int bd), .val (.int v1), .unset, .unset, .unset, .unset, .unset] [(.int bd), (.int (x3 &&& (2147483647 : Int32)))])) (fun t k => XS.iload X0.here hx rfl (hb hby at_21) rfl k) ?_
    refine own_by (T' := s₁) (g' := (mkF m 24 #[.val (.int x1), .val (.int x2), .val (.int x3), .val (.int x4), .val (.int x5), .val (.int bd), .val (.int v1), .unset, .unset, .unset, .unset, .unset] [(.int ((x3 &&& (2147483647 : Int32)) % bd))])) (fun t k => iremM X0 hx rfl (hb hby at_23) rfl hbz k) ?_
    refine own_by (T' := s₁) (g' := (mkF m 26 #[.val (.int x1), .val (.int x2), .val (.int x3), .val (.int x4), .val (.int x5), .val (.int bd), .val (.int v1), .val (.int ((x3 &&& (2147483647 : Int32)) % bd)), .unset, .unset, .unset, .unset] [])) (fun t k => XS.istore X0.here hx rfl (hb hby at_24) rfl (l' := #[.val (.int x1), .val (.int x2), .val (.int x3), .val (.int x4), .val (.int x5), .val (.int bd), .val (.int v1), .val (.int ((x3 &&& (2147483647 : Int32)) % bd)), .unset, .unset, .unset, .unset]) rfl k) ?_
    obtain ⟨v2, e_v2⟩ : ∃ z : Int32, z = ((x3 &&& (2147483647 : Int32)) % bd) := ⟨_, rfl⟩
    rw [← e_v2]
    have hv2 := own_v x3 bd hbd
    rw [← e_v2] at hv2
    refine own_by (T' := s₁) (g' := (mkF m 27 #[.val (.int x1), .val (.int x2), .val (.int x3), .val (.int x4), .val (.int x5), .val (.int bd), .val (.int v1), .val (.int v2), .unset, .unset, .unset, .unset] [(.int x4)])) (fun t k => XS.iloadN X0.here hx rfl (hb hby at_26) rfl k) ?_
    refine own_by (T' := s₁) (g' := (mkF m 29 #[.val (.int x1), .val (.int x2), .val (.int x3), .val (.int x4), .val (.int x5), .val (.int bd), .val (.int v1), .val (.int v2), .unset, .unset, .unset, .unset] [(.int 2147483647), (.int x4)])) (fun t k => X0.ldcInt hx hown (mvT hZ (hw _ (own_m 1 rfl))) (g := (mkF m 27 #[.val (.int x1), .val (.int x2), .val (.int x3), .val (.int x4), .val (.int x5), .val (.int bd), .val (.int v1), .val (.int v2), .unset, .unset, .unset, .unset] [(.int x4)])) rfl (hb hby at_27) _ k) ?_
    refine own_by (T' := s₁) (g' := (mkF m 30 #[.val (.int x1), .val (.int x2), .val (.int x3), .val (.int x4), .val (.int x5), .val (.int bd), .val (.int v1), .val (.int v2), .unset, .unset, .unset, .unset] [(.int (x4 &&& (2147483647 : Int32)))])) (fun t k => XS.iand X0.here hx rfl (hb hby at_29) rfl k) ?_
    refine own_by (T' := s₁) (g' := (mkF m 31 #[.val (.int x1), .val (.int x2), .val (.int x3), .val (.int x4), .val (.int x5), .val (.int bd), .val (.int v1), .val (.int v2), .unset, .unset, .unset, .unset] [(.int 3), (.int (x4 &&& (2147483647 : Int32)))])) (fun t k => XS.iconst X0.here hx rfl (hb hby at_30) k) ?_
    refine own_by (T' := s₁) (g' := (mkF m 32 #[.val (.int x1), .val (.int x2), .val (.int x3), .val (.int x4), .val (.int x5), .val (.int bd), .val (.int v1), .val (.int v2), .unset, .unset, .unset, .unset] [(.int ((x4 &&& (2147483647 : Int32)) % (3 : Int32)))])) (fun t k => iremM X0 hx rfl (hb hby at_31) rfl (by decide) k) ?_
    refine own_by (T' := s₁) (g' := (mkF m 34 #[.val (.int x1), .val (.int x2), .val (.int x3), .val (.int x4), .val (.int x5), .val (.int bd), .val (.int v1), .val (.int v2), .val (.int ((x4 &&& (2147483647 : Int32)) % (3 : Int32))), .unset, .unset, .unset] [])) (fun t k => XS.istore X0.here hx rfl (hb hby at_32) rfl (l' := #[.val (.int x1), .val (.int x2), .val (.int x3), .val (.int x4), .val (.int x5), .val (.int bd), .val (.int v1), .val (.int v2), .val (.int ((x4 &&& (2147483647 : Int32)) % (3 : Int32))), .unset, .unset, .unset]) rfl k) ?_
    obtain ⟨i1, e_i1⟩ : ∃ z : Int32, z = ((x4 &&& (2147483647 : Int32)) % (3 : Int32)) := ⟨_, rfl⟩
    rw [← e_i1]
    refine own_by (T' := s₁) (g' := (mkF m 36 #[.val (.int x1), .val (.int x2), .val (.int x3), .val (.int x4), .val (.int x5), .val (.int bd), .val (.int v1), .val (.int v2), .val (.int i1), .unset, .unset, .unset] [(.int i1)])) (fun t k => XS.iload X0.here hx rfl (hb hby at_34) rfl k) ?_
    refine own_by (T' := s₁) (g' := (mkF m 37 #[.val (.int x1), .val (.int x2), .val (.int x3), .val (.int x4), .val (.int x5), .val (.int bd), .val (.int v1), .val (.int v2), .val (.int i1), .unset, .unset, .unset] [(.int 1), (.int i1)])) (fun t k => XS.iconst X0.here hx rfl (hb hby at_36) k) ?_
    refine own_by (T' := s₁) (g' := (mkF m 38 #[.val (.int x1), .val (.int x2), .val (.int x3), .val (.int x4), .val (.int x5), .val (.int bd), .val (.int v1), .val (.int v2), .val (.int i1), .unset, .unset, .unset] [(.int (i1 + (1 : Int32)))])) (fun t k => XS.iadd X0.here hx rfl (hb hby at_37) rfl k) ?_
    refine own_by (T' := s₁) (g' := (mkF m 40 #[.val (.int x1), .val (.int x2), .val (.int x3), .val (.int x4), .val (.int x5), .val (.int bd), .val (.int v1), .val (.int v2), .val (.int i1), .unset, .unset, .unset] [(.int x5), (.int (i1 + (1 : Int32)))])) (fun t k => XS.iload X0.here hx rfl (hb hby at_38) rfl k) ?_
    refine own_by (T' := s₁) (g' := (mkF m 41 #[.val (.int x1), .val (.int x2), .val (.int x3), .val (.int x4), .val (.int x5), .val (.int bd), .val (.int v1), .val (.int v2), .val (.int i1), .unset, .unset, .unset] [(.int 1), (.int x5), (.int (i1 + (1 : Int32)))])) (fun t k => XS.iconst X0.here hx rfl (hb hby at_40) k) ?_
    refine own_by (T' := s₁) (g' := (mkF m 42 #[.val (.int x1), .val (.int x2), .val (.int x3), .val (.int x4), .val (.int x5), .val (.int bd), .val (.int v1), .val (.int v2), .val (.int i1), .unset, .unset, .unset] [(.int (x5 &&& (1 : Int32))), (.int (i1 + (1 : Int32)))])) (fun t k => XS.iand X0.here hx rfl (hb hby at_41) rfl k) ?_
    refine own_by (T' := s₁) (g' := (mkF m 43 #[.val (.int x1), .val (.int x2), .val (.int x3), .val (.int x4), .val (.int x5), .val (.int bd), .val (.int v1), .val (.int v2), .val (.int i1), .unset, .unset, .unset] [(.int ((i1 + (1 : Int32)) + (x5 &&& (1 : Int32))))])) (fun t k => XS.iadd X0.here hx rfl (hb hby at_42) rfl k) ?_
    refine own_by (T' := s₁) (g' := (mkF m 44 #[.val (.int x1), .val (.int x2), .val (.int x3), .val (.int x4), .val (.int x5), .val (.int bd), .val (.int v1), .val (.int v2), .val (.int i1), .unset, .unset, .unset] [(.int 3), (.int ((i1 + (1 : Int32)) + (x5 &&& (1 : Int32))))])) (fun t k => XS.iconst X0.here hx rfl (hb hby at_43) k) ?_
    refine own_by (T' := s₁) (g' := (mkF m 45 #[.val (.int x1), .val (.int x2), .val (.int x3), .val (.int x4), .val (.int x5), .val (.int bd), .val (.int v1), .val (.int v2), .val (.int i1), .unset, .unset, .unset] [(.int (((i1 + (1 : Int32)) + (x5 &&& (1 : Int32))) % (3 : Int32)))])) (fun t k => iremM X0 hx rfl (hb hby at_44) rfl (by decide) k) ?_
    refine own_by (T' := s₁) (g' := (mkF m 47 #[.val (.int x1), .val (.int x2), .val (.int x3), .val (.int x4), .val (.int x5), .val (.int bd), .val (.int v1), .val (.int v2), .val (.int i1), .val (.int (((i1 + (1 : Int32)) + (x5 &&& (1 : Int32))) % (3 : Int32))), .unset, .unset] [])) (fun t k => XS.istore X0.here hx rfl (hb hby at_45) rfl (l' := #[.val (.int x1), .val (.int x2), .val (.int x3), .val (.int x4), .val (.int x5), .val (.int bd), .val (.int v1), .val (.int v2), .val (.int i1), .val (.int (((i1 + (1 : Int32)) + (x5 &&& (1 : Int32))) % (3 : Int32))), .unset, .unset]) rfl k) ?_
    obtain ⟨j1, e_j1⟩ : ∃ z : Int32, z = (((i1 + (1 : Int32)) + (x5 &&& (1 : Int32))) % (3 : Int32)) := ⟨_, rfl⟩
    rw [← e_j1]
    refine own_by (T' := s₁) (g' := (mkF m 48 #[.val (.int x1), .val (.int x2), .val (.int x3), .val (.int x4), .val (.int x5), .val (.int bd), .val (.int v1), .val (.int v2), .val (.int i1), .val (.int j1), .unset, .unset] [(.int 3)])) (fun t k => XS.iconst X0.here hx rfl (hb hby at_47) k) ?_
    refine own_by (T' := s₁) (g' := (mkF m 50 #[.val (.int x1), .val (.int x2), .val (.int x3), .val (.int x4), .val (.int x5), .val (.int bd), .val (.int v1), .val (.int v2), .val (.int i1), .val (.int j1), .unset, .unset] [(.int i1), (.int 3)])) (fun t k => XS.iload X0.here hx rfl (hb hby at_48) rfl k) ?_
    refine own_by (T' := s₁) (g' := (mkF m 51 #[.val (.int x1), .val (.int x2), .val (.int x3), .val (.int x4), .val (.int x5), .val (.int bd), .val (.int v1), .val (.int v2), .val (.int i1), .val (.int j1), .unset, .unset] [(.int ((3 : Int32) - i1))])) (fun t k => XS.isub X0.here hx rfl (hb hby at_50) rfl k) ?_
    refine own_by (T' := s₁) (g' := (mkF m 53 #[.val (.int x1), .val (.int x2), .val (.int x3), .val (.int x4), .val (.int x5), .val (.int bd), .val (.int v1), .val (.int v2), .val (.int i1), .val (.int j1), .unset, .unset] [(.int j1), (.int ((3 : Int32) - i1))])) (fun t k => XS.iload X0.here hx rfl (hb hby at_51) rfl k) ?_
    refine own_by (T' := s₁) (g' := (mkF m 54 #[.val (.int x1), .val (.int x2), .val (.int x3), .val (.int x4), .val (.int x5), .val (.int bd), .val (.int v1), .val (.int v2), .val (.int i1), .val (.int j1), .unset, .unset] [(.int (((3 : Int32) - i1) - j1))])) (fun t k => XS.isub X0.here hx rfl (hb hby at_53) rfl k) ?_
    refine own_by (T' := s₁) (g' := (mkF m 56 #[.val (.int x1), .val (.int x2), .val (.int x3), .val (.int x4), .val (.int x5), .val (.int bd), .val (.int v1), .val (.int v2), .val (.int i1), .val (.int j1), .val (.int (((3 : Int32) - i1) - j1)), .unset] [])) (fun t k => XS.istore X0.here hx rfl (hb hby at_54) rfl (l' := #[.val (.int x1), .val (.int x2), .val (.int x3), .val (.int x4), .val (.int x5), .val (.int bd), .val (.int v1), .val (.int v2), .val (.int i1), .val (.int j1), .val (.int (((3 : Int32) - i1) - j1)), .unset]) rfl k) ?_
    obtain ⟨k1, e_k1⟩ : ∃ z : Int32, z = (((3 : Int32) - i1) - j1) := ⟨_, rfl⟩
    rw [← e_k1]
    obtain ⟨i', j', k', hi, hj, hk, h6⟩ := own_idx x4 x5
    rw [← e_i1] at hi
    subst hi
    rw [← e_j1] at hj
    subst hj
    rw [← e_k1] at hk
    subst hk
    obtain ⟨t1, t2, t3⟩ := own_three h6
    obtain ⟨T15, h15, X15, e15, E15, A15, D15, -, st15⟩ := newO X0 hx hZ hown (hw _ (own_m 2 rfl)) (hw _ (own_m 3 rfl)) (hw _ (own_m 4 rfl)) e0 (g := (mkF m 56 #[.val (.int x1), .val (.int x2), .val (.int x3), .val (.int x4), .val (.int x5), .val (.int bd), .val (.int v1), .val (.int v2), .val (.int i1), .val (.int j1), .val (.int k1), .unset] [])) rfl (hb hby at_56) (by decide) (by decide)
    obtain ⟨b15, g15⟩ : ∃ z, z = h0.size := ⟨_, rfl⟩
    rw [← g15] at A15 D15 st15
    have g_b15 : n0 ≤ b15 := Nat.le_trans Zle (Nat.le_of_eq g15.symm)
    have Zle := Nat.le_trans Zle E15.1
    have E_b15 := A15
    have F_planes_b15 : Fld Z h15 b15 "com/example/cipherloom/cipherloom/core/Letters" "planes" "[[B" .null := D15 (Or.inr (hw _ (own_m 17 rfl))) (ty := (.array (.array .byte))) (by decide)
    refine own_by (T' := T15) (g' := (mkF m 59 #[.val (.int x1), .val (.int x2), .val (.int x3), .val (.int x4), .val (.int x5), .val (.int bd), .val (.int v1), .val (.int v2), .val (.int i1), .val (.int j1), .val (.int k1), .unset] [(.ref b15)])) (fun t k => st15 t k) ?_
    refine own_by (T' := T15) (g' := (mkF m 60 #[.val (.int x1), .val (.int x2), .val (.int x3), .val (.int x4), .val (.int x5), .val (.int bd), .val (.int v1), .val (.int v2), .val (.int i1), .val (.int j1), .val (.int k1), .unset] [(.ref b15), (.ref b15)])) (fun t k => XS.dup X15.here hx rfl (hb hby at_59) rfl rfl k) ?_
    refine own_by (T' := T15) (g' := (mkF m 63 #[.val (.int x1), .val (.int x2), .val (.int x3), .val (.int x4), .val (.int x5), .val (.int bd), .val (.int v1), .val (.int v2), .val (.int i1), .val (.int j1), .val (.int k1), .unset] [(.long 3), (.ref b15), (.ref b15)])) (fun t k => X15.ldc2Long hx hown (mvT hZ (hw _ (own_m 5 rfl))) (g := (mkF m 60 #[.val (.int x1), .val (.int x2), .val (.int x3), .val (.int x4), .val (.int x5), .val (.int bd), .val (.int v1), .val (.int v2), .val (.int i1), .val (.int j1), .val (.int k1), .unset] [(.ref b15), (.ref b15)])) rfl (hb hby at_60) _ k) ?_
    refine own_by (T' := T15) (g' := (mkF m 65 #[.val (.int x1), .val (.int x2), .val (.int x3), .val (.int x4), .val (.int x5), .val (.int bd), .val (.int v1), .val (.int v2), .val (.int i1), .val (.int j1), .val (.int k1), .unset] [(.int bd), (.long 3), (.ref b15), (.ref b15)])) (fun t k => XS.iload X15.here hx rfl (hb hby at_63) rfl k) ?_
    have lt_b15_16 := E_b15.lt
    have Zpre16 := Zle
    obtain ⟨_, _, ⟨T16, L16, k16, n16⟩, -, X16, ⟨Lc16, hQ16, l16, y16, z16⟩, st16⟩ := X15.specialBack hx (y := (⟨"com/example/cipherloom/cipherloom/core/Letters", "<init>", "(JI)V"⟩ : MethodName)) rfl hown (mvT hZ (hw _ (own_m 6 rfl))) (mvT hZ (hw _ (own_m 7 rfl))) (mvT hZ (hw _ (own_m 8 rfl))) (by decide) (backOf (W := 1) (rm1P3 l Z a0 hw [] b15 bd h15 n0 Zle E_b15 g_b15 F_planes_b15 (hn1) (hn2) (hz)) hZ (hw _ (own_m 8 rfl)) (hw _ (own_m 4 rfl)) (by decide) (by decide)) (g := (mkF m 65 #[.val (.int x1), .val (.int x2), .val (.int x3), .val (.int x4), .val (.int x5), .val (.int bd), .val (.int v1), .val (.int v2), .val (.int i1), .val (.int j1), .val (.int k1), .unset] [(.int bd), (.long 3), (.ref b15), (.ref b15)])) rfl (by rw [hml]; rfl) (Steps.refl _) (a := b15) (argsL := [(.long 3), (.int bd)]) (rest := [(.ref b15)]) (lenOf pd_0 rfl) rfl (own_le rfl) (hb hby at_65) (fun _ _ => ⟨rfl, e15, (by decide : 1 + 4 ≤ _), (by decide : 1 + 12 ≤ _)⟩)
    dsimp only [Pt.U, Pt.locs, Pt.cells, Pt.slots] at X16 l16 y16 z16 st16 hQ16
    subst l16 y16 z16
    obtain ⟨b_16, y0_16, y1_16, y2_16, kb_16, kc_16, rfl, Nq16, c16_0, c16_1, c16_2, c16_3, c16_4, c16_5, c16_6, c16_7, c16_8, c16_9, c16_10, c16_11, c16_12, c16_13, c16_14, c16_15, c16_16⟩ := hQ16
    have N_ := Fr.app N_ Nq16
    have Zle := Nat.le_trans Zle c16_0.1
    have E_b15 := E_b15.keep c16_0
    have ne_b15_b_16 : b15 ≠ b_16 := Nat.ne_of_lt (Nat.lt_of_lt_of_le lt_b15_16 c16_2)
    have g_b_16 : n0 ≤ b_16 := Nat.le_trans Zpre16 c16_2
    have ne_b15_y0_16 : b15 ≠ y0_16 := Nat.ne_of_lt (Nat.lt_of_lt_of_le lt_b15_16 c16_3)
    have g_y0_16 : n0 ≤ y0_16 := Nat.le_trans Zpre16 c16_3
    have ne_b15_y1_16 : b15 ≠ y1_16 := Nat.ne_of_lt (Nat.lt_of_lt_of_le lt_b15_16 c16_4)
    have g_y1_16 : n0 ≤ y1_16 := Nat.le_trans Zpre16 c16_4
    have ne_b15_y2_16 : b15 ≠ y2_16 := Nat.ne_of_lt (Nat.lt_of_lt_of_le lt_b15_16 c16_5)
    have g_y2_16 : n0 ≤ y2_16 := Nat.le_trans Zpre16 c16_5
    refine own_by (T' := T16) (g' := (mkF m 68 #[.val (.int x1), .val (.int x2), .val (.int x3), .val (.int x4), .val (.int x5), .val (.int bd), .val (.int v1), .val (.int v2), .val (.int i1), .val (.int j1), .val (.int k1), .unset] [(.ref b15)])) (fun t k => st16.trans k) ?_
    refine own_by (T' := T16) (g' := (mkF m 70 #[.val (.int x1), .val (.int x2), .val (.int x3), .val (.int x4), .val (.int x5), .val (.int bd), .val (.int v1), .val (.int v2), .val (.int i1), .val (.int j1), .val (.int k1), .val (.ref b15)] [])) (fun t k => XS.astore X16.here hx rfl (hb hby at_68) rfl rfl (l' := #[.val (.int x1), .val (.int x2), .val (.int x3), .val (.int x4), .val (.int x5), .val (.int bd), .val (.int v1), .val (.int v2), .val (.int i1), .val (.int j1), .val (.int k1), .val (.ref b15)]) rfl k) ?_
    refine own_by (T' := T16) (g' := (mkF m 72 #[.val (.int x1), .val (.int x2), .val (.int x3), .val (.int x4), .val (.int x5), .val (.int bd), .val (.int v1), .val (.int v2), .val (.int i1), .val (.int j1), .val (.int k1), .val (.ref b15)] [(.ref b15)])) (fun t k => XS.aload X16.here hx rfl (hb hby at_70) rfl rfl k) ?_
    refine own_by (T' := T16) (g' := (mkF m 74 #[.val (.int x1), .val (.int x2), .val (.int x3), .val (.int x4), .val (.int x5), .val (.int bd), .val (.int v1), .val (.int v2), .val (.int i1), .val (.int j1), .val (.int k1), .val (.ref b15)] [(.int i1), (.ref b15)])) (fun t k => XS.iload X16.here hx rfl (hb hby at_72) rfl k) ?_
    refine own_by (T' := T16) (g' := (mkF m 76 #[.val (.int x1), .val (.int x2), .val (.int x3), .val (.int x4), .val (.int x5), .val (.int bd), .val (.int v1), .val (.int v2), .val (.int i1), .val (.int j1), .val (.int k1), .val (.ref b15)] [(.int v1), (.int i1), (.ref b15)])) (fun t k => XS.iload X16.here hx rfl (hb hby at_74) rfl k) ?_
    obtain ⟨cq17, kq17, q17a, q17b, q17c⟩ := isOf hZ rfl c16_1
    obtain ⟨_, _, ⟨T17, L17, k17, n17⟩, -, X17, ⟨Lc17, hQ17, l17, y17, z17⟩, st17⟩ := X16.virtualBack hx (y := (⟨"com/example/cipherloom/cipherloom/core/Letters", "set", "(II)V"⟩ : MethodName)) (z := (⟨"com/example/cipherloom/cipherloom/core/Letters", "set", "(II)V"⟩ : MethodName)) hown (mvT hZ (hw _ (own_m 18 rfl))) (mvT hZ (hw _ (own_m 19 rfl))) (notFace_of_selects (args := #[]) (mvT hZ (hw _ (own_m 21 rfl)))) (mvT hZ (hw _ (own_m 21 rfl))) (mvT hZ (hw _ (own_m 20 rfl))) (by decide) (backOf (W := 0) (rm3P3 l Z a0 hw [] b15 i1 v1 b_16 y0_16 y1_16 y2_16 kb_16 kc_16 (0 : Int32) (0 : Int32) (0 : Int32) (0 : Int32) (0 : Int32) (0 : Int32) (0 : Int32) (0 : Int32) (0 : Int32) T16.heap n0 Zle c16_6 c16_7 c16_8 c16_9 c16_10 g_y0_16 g_y1_16 g_y2_16 (c16_11) (c16_12) (c16_13) (c16_14) (c16_15) (c16_16) (ne_b15_y0_16) (ne_b15_y1_16) (ne_b15_y2_16) (t1)) hZ (hw _ (own_m 22 rfl)) (hw _ (own_m 4 rfl)) (by decide) (by decide)) q17a q17c (g := (mkF m 76 #[.val (.int x1), .val (.int x2), .val (.int x3), .val (.int x4), .val (.int x5), .val (.int bd), .val (.int v1), .val (.int v2), .val (.int i1), .val (.int j1), .val (.int k1), .val (.ref b15)] [(.int v1), (.int i1), (.ref b15)])) rfl (by rw [hml]; rfl) (Steps.refl _) (argsL := [(.int i1), (.int v1)]) (rest := []) (lenOf pd_2 rfl) rfl (own_le rfl) (hb hby at_76) (fun _ _ => ⟨rfl, rfl, (by decide : 5 + 0 ≤ _), (by decide : 13 + 0 ≤ _)⟩)
    dsimp only [Pt.U, Pt.locs, Pt.cells, Pt.slots] at X17 l17 y17 z17 st17 hQ17
    subst l17 y17 z17
    obtain ⟨rfl, Nq17, c17_0, c17_1, c17_2, c17_3, c17_4⟩ := hQ17
    have N_ := Fr.app N_ Nq17
    have Zle := Nat.le_trans Zle c17_0.1
    have c16_1 := c16_1.keep c17_0
    have c16_6 := c16_6.keep c17_0 (ninS ne_b15_y0_16 (ninS ne_b15_y1_16 (ninS ne_b15_y2_16 nin0)))
    have c16_7 := c16_7.keep c17_0 (ninS c16_11 (ninS c16_12 (ninS c16_13 nin0)))
    refine own_by (T' := T17) (g' := (mkF m 79 #[.val (.int x1), .val (.int x2), .val (.int x3), .val (.int x4), .val (.int x5), .val (.int bd), .val (.int v1), .val (.int v2), .val (.int i1), .val (.int j1), .val (.int k1), .val (.ref b15)] [])) (fun t k => st17.trans k) ?_
    refine own_by (T' := T17) (g' := (mkF m 81 #[.val (.int x1), .val (.int x2), .val (.int x3), .val (.int x4), .val (.int x5), .val (.int bd), .val (.int v1), .val (.int v2), .val (.int i1), .val (.int j1), .val (.int k1), .val (.ref b15)] [(.ref b15)])) (fun t k => XS.aload X17.here hx rfl (hb hby at_79) rfl rfl k) ?_
    refine own_by (T' := T17) (g' := (mkF m 83 #[.val (.int x1), .val (.int x2), .val (.int x3), .val (.int x4), .val (.int x5), .val (.int bd), .val (.int v1), .val (.int v2), .val (.int i1), .val (.int j1), .val (.int k1), .val (.ref b15)] [(.int j1), (.ref b15)])) (fun t k => XS.iload X17.here hx rfl (hb hby at_81) rfl k) ?_
    refine own_by (T' := T17) (g' := (mkF m 85 #[.val (.int x1), .val (.int x2), .val (.int x3), .val (.int x4), .val (.int x5), .val (.int bd), .val (.int v1), .val (.int v2), .val (.int i1), .val (.int j1), .val (.int k1), .val (.ref b15)] [(.int v2), (.int j1), (.ref b15)])) (fun t k => XS.iload X17.here hx rfl (hb hby at_83) rfl k) ?_
    obtain ⟨cq18, kq18, q18a, q18b, q18c⟩ := isOf hZ rfl c16_1
    obtain ⟨_, _, ⟨T18, L18, k18, n18⟩, -, X18, ⟨Lc18, hQ18, l18, y18, z18⟩, st18⟩ := X17.virtualBack hx (y := (⟨"com/example/cipherloom/cipherloom/core/Letters", "set", "(II)V"⟩ : MethodName)) (z := (⟨"com/example/cipherloom/cipherloom/core/Letters", "set", "(II)V"⟩ : MethodName)) hown (mvT hZ (hw _ (own_m 18 rfl))) (mvT hZ (hw _ (own_m 19 rfl))) (notFace_of_selects (args := #[]) (mvT hZ (hw _ (own_m 21 rfl)))) (mvT hZ (hw _ (own_m 21 rfl))) (mvT hZ (hw _ (own_m 20 rfl))) (by decide) (backOf (W := 0) (rm3P3 l Z a0 hw [] b15 j1 v2 b_16 y0_16 y1_16 y2_16 kb_16 kc_16 (own_pk i1 (0 : Int32) (own_e0 v1) (0 : Int32)) (own_pk i1 (1 : Int32) (own_e0 v1) (0 : Int32)) (own_pk i1 (2 : Int32) (own_e0 v1) (0 : Int32)) (own_pk i1 (0 : Int32) (own_e1 v1) (0 : Int32)) (own_pk i1 (1 : Int32) (own_e1 v1) (0 : Int32)) (own_pk i1 (2 : Int32) (own_e1 v1) (0 : Int32)) (own_pk i1 (0 : Int32) (own_e2 v1) (0 : Int32)) (own_pk i1 (1 : Int32) (own_e2 v1) (0 : Int32)) (own_pk i1 (2 : Int32) (own_e2 v1) (0 : Int32)) T17.heap n0 Zle c16_6 c17_1 c17_2 c17_3 c17_4 g_y0_16 g_y1_16 g_y2_16 (c16_11) (c16_12) (c16_13) (c16_14) (c16_15) (c16_16) (ne_b15_y0_16) (ne_b15_y1_16) (ne_b15_y2_16) (t2)) hZ (hw _ (own_m 22 rfl)) (hw _ (own_m 4 rfl)) (by decide) (by decide)) q18a q18c (g := (mkF m 85 #[.val (.int x1), .val (.int x2), .val (.int x3), .val (.int x4), .val (.int x5), .val (.int bd), .val (.int v1), .val (.int v2), .val (.int i1), .val (.int j1), .val (.int k1), .val (.ref b15)] [(.int v2), (.int j1), (.ref b15)])) rfl (by rw [hml]; rfl) (Steps.refl _) (argsL := [(.int j1), (.int v2)]) (rest := []) (lenOf pd_2 rfl) rfl (own_le rfl) (hb hby at_85) (fun _ _ => ⟨rfl, rfl, (by decide : 5 + 0 ≤ _), (by decide : 13 + 0 ≤ _)⟩)
    dsimp only [Pt.U, Pt.locs, Pt.cells, Pt.slots] at X18 l18 y18 z18 st18 hQ18
    subst l18 y18 z18
    obtain ⟨rfl, Nq18, c18_0, c18_1, c18_2, c18_3, c18_4⟩ := hQ18
    have N_ := Fr.app N_ Nq18
    have Zle := Nat.le_trans Zle c18_0.1
    have c16_1 := c16_1.keep c18_0
    have c16_6 := c16_6.keep c18_0 (ninS ne_b15_y0_16 (ninS ne_b15_y1_16 (ninS ne_b15_y2_16 nin0)))
    have c17_1 := c17_1.keep c18_0 (ninS c16_11 (ninS c16_12 (ninS c16_13 nin0)))
    refine own_by (T' := T18) (g' := (mkF m 88 #[.val (.int x1), .val (.int x2), .val (.int x3), .val (.int x4), .val (.int x5), .val (.int bd), .val (.int v1), .val (.int v2), .val (.int i1), .val (.int j1), .val (.int k1), .val (.ref b15)] [])) (fun t k => st18.trans k) ?_
    refine own_by (T' := T18) (g' := (mkF m 90 #[.val (.int x1), .val (.int x2), .val (.int x3), .val (.int x4), .val (.int x5), .val (.int bd), .val (.int v1), .val (.int v2), .val (.int i1), .val (.int j1), .val (.int k1), .val (.ref b15)] [(.ref b15)])) (fun t k => XS.aload X18.here hx rfl (hb hby at_88) rfl rfl k) ?_
    refine own_by (T' := T18) (g' := (mkF m 92 #[.val (.int x1), .val (.int x2), .val (.int x3), .val (.int x4), .val (.int x5), .val (.int bd), .val (.int v1), .val (.int v2), .val (.int i1), .val (.int j1), .val (.int k1), .val (.ref b15)] [(.int i1), (.ref b15)])) (fun t k => XS.iload X18.here hx rfl (hb hby at_90) rfl k) ?_
    obtain ⟨cq19, kq19, q19a, q19b, q19c⟩ := isOf hZ rfl c16_1
    obtain ⟨_, _, ⟨T19, L19, k19, n19⟩, -, X19, ⟨Lc19, hQ19, l19, y19, z19⟩, st19⟩ := X18.virtualBack hx (y := (⟨"com/example/cipherloom/cipherloom/core/Letters", "get", "(I)I"⟩ : MethodName)) (z := (⟨"com/example/cipherloom/cipherloom/core/Letters", "get", "(I)I"⟩ : MethodName)) hown (mvT hZ (hw _ (own_m 23 rfl))) (mvT hZ (hw _ (own_m 24 rfl))) (notFace_of_selects (args := #[]) (mvT hZ (hw _ (own_m 26 rfl)))) (mvT hZ (hw _ (own_m 26 rfl))) (mvT hZ (hw _ (own_m 25 rfl))) (by decide) (backOf (W := 0) (rm4P3 l Z a0 hw [] b15 i1 b_16 y0_16 y1_16 y2_16 kb_16 kc_16 (own_pk j1 (0 : Int32) (own_e0 v2) (own_pk i1 (0 : Int32) (own_e0 v1) (0 : Int32))) (own_pk j1 (1 : Int32) (own_e0 v2) (own_pk i1 (1 : Int32) (own_e0 v1) (0 : Int32))) (own_pk j1 (2 : Int32) (own_e0 v2) (own_pk i1 (2 : Int32) (own_e0 v1) (0 : Int32))) (own_pk j1 (0 : Int32) (own_e1 v2) (own_pk i1 (0 : Int32) (own_e1 v1) (0 : Int32))) (own_pk j1 (1 : Int32) (own_e1 v2) (own_pk i1 (1 : Int32) (own_e1 v1) (0 : Int32))) (own_pk j1 (2 : Int32) (own_e1 v2) (own_pk i1 (2 : Int32) (own_e1 v1) (0 : Int32))) (own_pk j1 (0 : Int32) (own_e2 v2) (own_pk i1 (0 : Int32) (own_e2 v1) (0 : Int32))) (own_pk j1 (1 : Int32) (own_e2 v2) (own_pk i1 (1 : Int32) (own_e2 v1) (0 : Int32))) (own_pk j1 (2 : Int32) (own_e2 v2) (own_pk i1 (2 : Int32) (own_e2 v1) (0 : Int32))) T18.heap n0 Zle c16_6 c18_1 c18_2 c18_3 c18_4 (t1)) hZ (hw _ (own_m 27 rfl)) (hw _ (own_m 4 rfl)) (by decide) (by decide)) q19a q19c (g := (mkF m 92 #[.val (.int x1), .val (.int x2), .val (.int x3), .val (.int x4), .val (.int x5), .val (.int bd), .val (.int v1), .val (.int v2), .val (.int i1), .val (.int j1), .val (.int k1), .val (.ref b15)] [(.int i1), (.ref b15)])) rfl (by rw [hml]; rfl) (Steps.refl _) (argsL := [(.int i1)]) (rest := []) (lenOf pd_3 rfl) rfl (own_le rfl) (hb hby at_92) (fun _ _ => ⟨rfl, rfl, (by decide : 5 + 0 ≤ _), (by decide : 13 + 0 ≤ _)⟩)
    dsimp only [Pt.U, Pt.locs, Pt.cells, Pt.slots] at X19 l19 y19 z19 st19 hQ19
    subst l19 y19 z19
    obtain ⟨rfl, Nq19, e19⟩ := hQ19
    have N_ := Fr.app N_ Nq19
    refine own_by (T' := T19) (g' := (mkF m 95 #[.val (.int x1), .val (.int x2), .val (.int x3), .val (.int x4), .val (.int x5), .val (.int bd), .val (.int v1), .val (.int v2), .val (.int i1), .val (.int j1), .val (.int k1), .val (.ref b15)] [(.int (own_g3 (own_at i1 (own_pk j1 (0 : Int32) (own_e0 v2) (own_pk i1 (0 : Int32) (own_e0 v1) (0 : Int32))) (own_pk j1 (1 : Int32) (own_e0 v2) (own_pk i1 (1 : Int32) (own_e0 v1) (0 : Int32))) (own_pk j1 (2 : Int32) (own_e0 v2) (own_pk i1 (2 : Int32) (own_e0 v1) (0 : Int32)))) (own_at i1 (own_pk j1 (0 : Int32) (own_e1 v2) (own_pk i1 (0 : Int32) (own_e1 v1) (0 : Int32))) (own_pk j1 (1 : Int32) (own_e1 v2) (own_pk i1 (1 : Int32) (own_e1 v1) (0 : Int32))) (own_pk j1 (2 : Int32) (own_e1 v2) (own_pk i1 (2 : Int32) (own_e1 v1) (0 : Int32)))) (own_at i1 (own_pk j1 (0 : Int32) (own_e2 v2) (own_pk i1 (0 : Int32) (own_e2 v1) (0 : Int32))) (own_pk j1 (1 : Int32) (own_e2 v2) (own_pk i1 (1 : Int32) (own_e2 v1) (0 : Int32))) (own_pk j1 (2 : Int32) (own_e2 v2) (own_pk i1 (2 : Int32) (own_e2 v1) (0 : Int32))))))])) (fun t k => st19.trans k) ?_
    refine own_by (T' := T19) (g' := (mkF m 97 #[.val (.int x1), .val (.int x2), .val (.int x3), .val (.int x4), .val (.int x5), .val (.int bd), .val (.int v1), .val (.int v2), .val (.int i1), .val (.int j1), .val (.int k1), .val (.ref b15)] [(.int v1), (.int (own_g3 (own_at i1 (own_pk j1 (0 : Int32) (own_e0 v2) (own_pk i1 (0 : Int32) (own_e0 v1) (0 : Int32))) (own_pk j1 (1 : Int32) (own_e0 v2) (own_pk i1 (1 : Int32) (own_e0 v1) (0 : Int32))) (own_pk j1 (2 : Int32) (own_e0 v2) (own_pk i1 (2 : Int32) (own_e0 v1) (0 : Int32)))) (own_at i1 (own_pk j1 (0 : Int32) (own_e1 v2) (own_pk i1 (0 : Int32) (own_e1 v1) (0 : Int32))) (own_pk j1 (1 : Int32) (own_e1 v2) (own_pk i1 (1 : Int32) (own_e1 v1) (0 : Int32))) (own_pk j1 (2 : Int32) (own_e1 v2) (own_pk i1 (2 : Int32) (own_e1 v1) (0 : Int32)))) (own_at i1 (own_pk j1 (0 : Int32) (own_e2 v2) (own_pk i1 (0 : Int32) (own_e2 v1) (0 : Int32))) (own_pk j1 (1 : Int32) (own_e2 v2) (own_pk i1 (1 : Int32) (own_e2 v1) (0 : Int32))) (own_pk j1 (2 : Int32) (own_e2 v2) (own_pk i1 (2 : Int32) (own_e2 v1) (0 : Int32))))))])) (fun t k => XS.iload X19.here hx rfl (hb hby at_95) rfl k) ?_
    refine own_by (T' := T19) (g' := (mkF m 100 #[.val (.int x1), .val (.int x2), .val (.int x3), .val (.int x4), .val (.int x5), .val (.int bd), .val (.int v1), .val (.int v2), .val (.int i1), .val (.int j1), .val (.int k1), .val (.ref b15)] [])) (fun t k => XS.icmpNo X19.here hx rfl (hb hby at_97) rfl (teq (by rw [(own_pick h6).1]; rw [(own_pick h6).1]; rw [(own_pick h6).1]; exact own_back3 _ hv1.1 (by omega))).2 k) ?_
    refine own_by (T' := T19) (g' := (mkF m 102 #[.val (.int x1), .val (.int x2), .val (.int x3), .val (.int x4), .val (.int x5), .val (.int bd), .val (.int v1), .val (.int v2), .val (.int i1), .val (.int j1), .val (.int k1), .val (.ref b15)] [(.ref b15)])) (fun t k => XS.aload X19.here hx rfl (hb hby at_100) rfl rfl k) ?_
    refine own_by (T' := T19) (g' := (mkF m 104 #[.val (.int x1), .val (.int x2), .val (.int x3), .val (.int x4), .val (.int x5), .val (.int bd), .val (.int v1), .val (.int v2), .val (.int i1), .val (.int j1), .val (.int k1), .val (.ref b15)] [(.int j1), (.ref b15)])) (fun t k => XS.iload X19.here hx rfl (hb hby at_102) rfl k) ?_
    obtain ⟨cq20, kq20, q20a, q20b, q20c⟩ := isOf hZ e19 c16_1
    obtain ⟨_, _, ⟨T20, L20, k20, n20⟩, -, X20, ⟨Lc20, hQ20, l20, y20, z20⟩, st20⟩ := X19.virtualBack hx (y := (⟨"com/example/cipherloom/cipherloom/core/Letters", "get", "(I)I"⟩ : MethodName)) (z := (⟨"com/example/cipherloom/cipherloom/core/Letters", "get", "(I)I"⟩ : MethodName)) hown (mvT hZ (hw _ (own_m 23 rfl))) (mvT hZ (hw _ (own_m 24 rfl))) (notFace_of_selects (args := #[]) (mvT hZ (hw _ (own_m 26 rfl)))) (mvT hZ (hw _ (own_m 26 rfl))) (mvT hZ (hw _ (own_m 25 rfl))) (by decide) (backOf (W := 0) (rm4P3 l Z a0 hw [] b15 j1 b_16 y0_16 y1_16 y2_16 kb_16 kc_16 (own_pk j1 (0 : Int32) (own_e0 v2) (own_pk i1 (0 : Int32) (own_e0 v1) (0 : Int32))) (own_pk j1 (1 : Int32) (own_e0 v2) (own_pk i1 (1 : Int32) (own_e0 v1) (0 : Int32))) (own_pk j1 (2 : Int32) (own_e0 v2) (own_pk i1 (2 : Int32) (own_e0 v1) (0 : Int32))) (own_pk j1 (0 : Int32) (own_e1 v2) (own_pk i1 (0 : Int32) (own_e1 v1) (0 : Int32))) (own_pk j1 (1 : Int32) (own_e1 v2) (own_pk i1 (1 : Int32) (own_e1 v1) (0 : Int32))) (own_pk j1 (2 : Int32) (own_e1 v2) (own_pk i1 (2 : Int32) (own_e1 v1) (0 : Int32))) (own_pk j1 (0 : Int32) (own_e2 v2) (own_pk i1 (0 : Int32) (own_e2 v1) (0 : Int32))) (own_pk j1 (1 : Int32) (own_e2 v2) (own_pk i1 (1 : Int32) (own_e2 v1) (0 : Int32))) (own_pk j1 (2 : Int32) (own_e2 v2) (own_pk i1 (2 : Int32) (own_e2 v1) (0 : Int32))) T18.heap n0 Zle c16_6 c18_1 c18_2 c18_3 c18_4 (t2)) hZ (hw _ (own_m 27 rfl)) (hw _ (own_m 4 rfl)) (by decide) (by decide)) q20a q20c (g := (mkF m 104 #[.val (.int x1), .val (.int x2), .val (.int x3), .val (.int x4), .val (.int x5), .val (.int bd), .val (.int v1), .val (.int v2), .val (.int i1), .val (.int j1), .val (.int k1), .val (.ref b15)] [(.int j1), (.ref b15)])) rfl (by rw [hml]; rfl) (Steps.refl _) (argsL := [(.int j1)]) (rest := []) (lenOf pd_3 rfl) rfl (own_le rfl) (hb hby at_104) (fun _ _ => ⟨rfl, e19, (by decide : 5 + 0 ≤ _), (by decide : 13 + 0 ≤ _)⟩)
    dsimp only [Pt.U, Pt.locs, Pt.cells, Pt.slots] at X20 l20 y20 z20 st20 hQ20
    subst l20 y20 z20
    obtain ⟨rfl, Nq20, e20⟩ := hQ20
    have N_ := Fr.app N_ Nq20
    refine own_by (T' := T20) (g' := (mkF m 107 #[.val (.int x1), .val (.int x2), .val (.int x3), .val (.int x4), .val (.int x5), .val (.int bd), .val (.int v1), .val (.int v2), .val (.int i1), .val (.int j1), .val (.int k1), .val (.ref b15)] [(.int (own_g3 (own_at j1 (own_pk j1 (0 : Int32) (own_e0 v2) (own_pk i1 (0 : Int32) (own_e0 v1) (0 : Int32))) (own_pk j1 (1 : Int32) (own_e0 v2) (own_pk i1 (1 : Int32) (own_e0 v1) (0 : Int32))) (own_pk j1 (2 : Int32) (own_e0 v2) (own_pk i1 (2 : Int32) (own_e0 v1) (0 : Int32)))) (own_at j1 (own_pk j1 (0 : Int32) (own_e1 v2) (own_pk i1 (0 : Int32) (own_e1 v1) (0 : Int32))) (own_pk j1 (1 : Int32) (own_e1 v2) (own_pk i1 (1 : Int32) (own_e1 v1) (0 : Int32))) (own_pk j1 (2 : Int32) (own_e1 v2) (own_pk i1 (2 : Int32) (own_e1 v1) (0 : Int32)))) (own_at j1 (own_pk j1 (0 : Int32) (own_e2 v2) (own_pk i1 (0 : Int32) (own_e2 v1) (0 : Int32))) (own_pk j1 (1 : Int32) (own_e2 v2) (own_pk i1 (1 : Int32) (own_e2 v1) (0 : Int32))) (own_pk j1 (2 : Int32) (own_e2 v2) (own_pk i1 (2 : Int32) (own_e2 v1) (0 : Int32))))))])) (fun t k => st20.trans k) ?_
    refine own_by (T' := T20) (g' := (mkF m 109 #[.val (.int x1), .val (.int x2), .val (.int x3), .val (.int x4), .val (.int x5), .val (.int bd), .val (.int v1), .val (.int v2), .val (.int i1), .val (.int j1), .val (.int k1), .val (.ref b15)] [(.int v2), (.int (own_g3 (own_at j1 (own_pk j1 (0 : Int32) (own_e0 v2) (own_pk i1 (0 : Int32) (own_e0 v1) (0 : Int32))) (own_pk j1 (1 : Int32) (own_e0 v2) (own_pk i1 (1 : Int32) (own_e0 v1) (0 : Int32))) (own_pk j1 (2 : Int32) (own_e0 v2) (own_pk i1 (2 : Int32) (own_e0 v1) (0 : Int32)))) (own_at j1 (own_pk j1 (0 : Int32) (own_e1 v2) (own_pk i1 (0 : Int32) (own_e1 v1) (0 : Int32))) (own_pk j1 (1 : Int32) (own_e1 v2) (own_pk i1 (1 : Int32) (own_e1 v1) (0 : Int32))) (own_pk j1 (2 : Int32) (own_e1 v2) (own_pk i1 (2 : Int32) (own_e1 v1) (0 : Int32)))) (own_at j1 (own_pk j1 (0 : Int32) (own_e2 v2) (own_pk i1 (0 : Int32) (own_e2 v1) (0 : Int32))) (own_pk j1 (1 : Int32) (own_e2 v2) (own_pk i1 (1 : Int32) (own_e2 v1) (0 : Int32))) (own_pk j1 (2 : Int32) (own_e2 v2) (own_pk i1 (2 : Int32) (own_e2 v1) (0 : Int32))))))])) (fun t k => XS.iload X20.here hx rfl (hb hby at_107) rfl k) ?_
    refine own_by (T' := T20) (g' := (mkF m 112 #[.val (.int x1), .val (.int x2), .val (.int x3), .val (.int x4), .val (.int x5), .val (.int bd), .val (.int v1), .val (.int v2), .val (.int i1), .val (.int j1), .val (.int k1), .val (.ref b15)] [])) (fun t k => XS.icmpNo X20.here hx rfl (hb hby at_109) rfl (teq (by rw [(own_pick h6).2.1]; rw [(own_pick h6).2.1]; rw [(own_pick h6).2.1]; exact own_back3 _ hv2.1 (by omega))).2 k) ?_
    refine own_by (T' := T20) (g' := (mkF m 114 #[.val (.int x1), .val (.int x2), .val (.int x3), .val (.int x4), .val (.int x5), .val (.int bd), .val (.int v1), .val (.int v2), .val (.int i1), .val (.int j1), .val (.int k1), .val (.ref b15)] [(.ref b15)])) (fun t k => XS.aload X20.here hx rfl (hb hby at_112) rfl rfl k) ?_
    refine own_by (T' := T20) (g' := (mkF m 116 #[.val (.int x1), .val (.int x2), .val (.int x3), .val (.int x4), .val (.int x5), .val (.int bd), .val (.int v1), .val (.int v2), .val (.int i1), .val (.int j1), .val (.int k1), .val (.ref b15)] [(.int k1), (.ref b15)])) (fun t k => XS.iload X20.here hx rfl (hb hby at_114) rfl k) ?_
    obtain ⟨cq21, kq21, q21a, q21b, q21c⟩ := isOf hZ e20 c16_1
    obtain ⟨_, _, ⟨T21, L21, k21, n21⟩, -, X21, ⟨Lc21, hQ21, l21, y21, z21⟩, st21⟩ := X20.virtualBack hx (y := (⟨"com/example/cipherloom/cipherloom/core/Letters", "get", "(I)I"⟩ : MethodName)) (z := (⟨"com/example/cipherloom/cipherloom/core/Letters", "get", "(I)I"⟩ : MethodName)) hown (mvT hZ (hw _ (own_m 23 rfl))) (mvT hZ (hw _ (own_m 24 rfl))) (notFace_of_selects (args := #[]) (mvT hZ (hw _ (own_m 26 rfl)))) (mvT hZ (hw _ (own_m 26 rfl))) (mvT hZ (hw _ (own_m 25 rfl))) (by decide) (backOf (W := 0) (rm4P3 l Z a0 hw [] b15 k1 b_16 y0_16 y1_16 y2_16 kb_16 kc_16 (own_pk j1 (0 : Int32) (own_e0 v2) (own_pk i1 (0 : Int32) (own_e0 v1) (0 : Int32))) (own_pk j1 (1 : Int32) (own_e0 v2) (own_pk i1 (1 : Int32) (own_e0 v1) (0 : Int32))) (own_pk j1 (2 : Int32) (own_e0 v2) (own_pk i1 (2 : Int32) (own_e0 v1) (0 : Int32))) (own_pk j1 (0 : Int32) (own_e1 v2) (own_pk i1 (0 : Int32) (own_e1 v1) (0 : Int32))) (own_pk j1 (1 : Int32) (own_e1 v2) (own_pk i1 (1 : Int32) (own_e1 v1) (0 : Int32))) (own_pk j1 (2 : Int32) (own_e1 v2) (own_pk i1 (2 : Int32) (own_e1 v1) (0 : Int32))) (own_pk j1 (0 : Int32) (own_e2 v2) (own_pk i1 (0 : Int32) (own_e2 v1) (0 : Int32))) (own_pk j1 (1 : Int32) (own_e2 v2) (own_pk i1 (1 : Int32) (own_e2 v1) (0 : Int32))) (own_pk j1 (2 : Int32) (own_e2 v2) (own_pk i1 (2 : Int32) (own_e2 v1) (0 : Int32))) T18.heap n0 Zle c16_6 c18_1 c18_2 c18_3 c18_4 (t3)) hZ (hw _ (own_m 27 rfl)) (hw _ (own_m 4 rfl)) (by decide) (by decide)) q21a q21c (g := (mkF m 116 #[.val (.int x1), .val (.int x2), .val (.int x3), .val (.int x4), .val (.int x5), .val (.int bd), .val (.int v1), .val (.int v2), .val (.int i1), .val (.int j1), .val (.int k1), .val (.ref b15)] [(.int k1), (.ref b15)])) rfl (by rw [hml]; rfl) (Steps.refl _) (argsL := [(.int k1)]) (rest := []) (lenOf pd_3 rfl) rfl (own_le rfl) (hb hby at_116) (fun _ _ => ⟨rfl, e20, (by decide : 5 + 0 ≤ _), (by decide : 13 + 0 ≤ _)⟩)
    dsimp only [Pt.U, Pt.locs, Pt.cells, Pt.slots] at X21 l21 y21 z21 st21 hQ21
    subst l21 y21 z21
    obtain ⟨rfl, Nq21, e21⟩ := hQ21
    have N_ := Fr.app N_ Nq21
    refine own_by (T' := T21) (g' := (mkF m 119 #[.val (.int x1), .val (.int x2), .val (.int x3), .val (.int x4), .val (.int x5), .val (.int bd), .val (.int v1), .val (.int v2), .val (.int i1), .val (.int j1), .val (.int k1), .val (.ref b15)] [(.int (own_g3 (own_at k1 (own_pk j1 (0 : Int32) (own_e0 v2) (own_pk i1 (0 : Int32) (own_e0 v1) (0 : Int32))) (own_pk j1 (1 : Int32) (own_e0 v2) (own_pk i1 (1 : Int32) (own_e0 v1) (0 : Int32))) (own_pk j1 (2 : Int32) (own_e0 v2) (own_pk i1 (2 : Int32) (own_e0 v1) (0 : Int32)))) (own_at k1 (own_pk j1 (0 : Int32) (own_e1 v2) (own_pk i1 (0 : Int32) (own_e1 v1) (0 : Int32))) (own_pk j1 (1 : Int32) (own_e1 v2) (own_pk i1 (1 : Int32) (own_e1 v1) (0 : Int32))) (own_pk j1 (2 : Int32) (own_e1 v2) (own_pk i1 (2 : Int32) (own_e1 v1) (0 : Int32)))) (own_at k1 (own_pk j1 (0 : Int32) (own_e2 v2) (own_pk i1 (0 : Int32) (own_e2 v1) (0 : Int32))) (own_pk j1 (1 : Int32) (own_e2 v2) (own_pk i1 (1 : Int32) (own_e2 v1) (0 : Int32))) (own_pk j1 (2 : Int32) (own_e2 v2) (own_pk i1 (2 : Int32) (own_e2 v1) (0 : Int32))))))])) (fun t k => st21.trans k) ?_
    refine own_by (T' := T21) (g' := (mkF m 122 #[.val (.int x1), .val (.int x2), .val (.int x3), .val (.int x4), .val (.int x5), .val (.int bd), .val (.int v1), .val (.int v2), .val (.int i1), .val (.int j1), .val (.int k1), .val (.ref b15)] [])) (fun t k => XS.ifNo X21.here hx rfl (hb hby at_119) rfl ((if0 _ _).trans (teq (by rw [(own_pick h6).2.2]; rw [(own_pick h6).2.2]; rw [(own_pick h6).2.2]; exact own_gz3)).2) k) ?_
    refine own_by (T' := T21) (g' := (mkF m 123 #[.val (.int x1), .val (.int x2), .val (.int x3), .val (.int x4), .val (.int x5), .val (.int bd), .val (.int v1), .val (.int v2), .val (.int i1), .val (.int j1), .val (.int k1), .val (.ref b15)] [(.int 1)])) (fun t k => XS.iconst X21.here hx rfl (hb hby at_122) k) ?_
    refine own_by (T' := T21) (g' := (mkF m 127 #[.val (.int x1), .val (.int x2), .val (.int x3), .val (.int x4), .val (.int x5), .val (.int bd), .val (.int v1), .val (.int v2), .val (.int i1), .val (.int j1), .val (.int k1), .val (.ref b15)] [(.int 1)])) (fun t k => XS.goto X21.here hx rfl (pc0 := 123) (pc' := 127) rfl (hb hby at_123) (by decide) (by decide) k) ?_
    exact own_retN X21 hx (t := .boolean) Bd.notSynchronized Bd.returns (by simp) (hb hby at_127) (by decide) (by decide) (by rw [e21]; exact ⟨rfl, N_⟩)

set_option maxRecDepth 65536 in
set_option maxHeartbeats 40000000 in
theorem comes_1 {Post : Tables → Env → Array Value → State → Outcome → State → Prop} (hpost : ∀ tb e args s v u, (limb_1_1.after args s (.returned v) u = true ∧ limb_1_2.after args s (.returned v) u = true ∧ True) → FrameEnd s (.returned v) u (Jvm.fieldLocs frame_1_writes args s ++ Jvm.arrayLocs frame_1_arrays args s ++ Jvm.staticLocs frame_1_statics s) 24 128 → Post tb e args s (.returned v) u) :
    ArmFor flags0 classFile x code maxLocals ret World_1 tables_1 room_1 Calls_1 rest_1 Pre_1 Post := by
  intro l hfl _ _ p e ha hc hk s m args below hf hA hF happ hP
  obtain ⟨hcalls, hrest, hpre⟩ := hP
  obtain ⟨-, -, -, hnamed, -, -, -, hat⟩ := (Spec.applies_iff hf).mp happ
  obtain ⟨hg, hn⟩ := and_e (Cond.before_iff.mp (show (Jvm.Cond.and given_1 narrow_1).before args s = true from hpre))
  obtain ⟨hcount, g0⟩ := and_e hg
  obtain ⟨a0, g1⟩ := and_e g0
  obtain ⟨a1, g2⟩ := and_e g1
  obtain ⟨a2, g3⟩ := and_e g2
  obtain ⟨a3, g4⟩ := and_e g3
  obtain ⟨w0, w1, w2, w3, w4, rfl⟩ : ∃ w0 w1 w2 w3 w4 : Value, args = #[w0, w1, w2, w3, w4] := by
    have hs : args.size = 5 := by simpa [Cond.value, given_1] using hcount
    obtain ⟨L⟩ := args
    match L, hs with
    | [w0, w1, w2, w3, w4], _ => exact ⟨w0, w1, w2, w3, w4, rfl⟩
  have hw := fun d (hd : d ∈ tables_1) => atoms_spec (ws := Jvm.Cond.code x code maxLocals ret :: tables_1) hat d (List.mem_cons_of_mem _ hd)
  have hfit : Fit s := fun {y c} hc i hi => by
    obtain ⟨ha, rfl⟩ := Array.getElem?_eq_some_iff.mp hc
    have q := List.all_eq_true.mp ((Array.all_eq_true_iff_forall_mem.mp hF) _ (Array.getElem_mem ha)) i (List.mem_range.mpr hi)
    simpa [Array.getElem?_eq_getElem hi] using q
  obtain ⟨i0, ei0⟩ := is_v a0
  obtain rfl : w0 = (.int i0) := Option.some.inj ei0
  obtain ⟨i1, ei1⟩ := is_v a1
  obtain rfl : w1 = (.int i1) := Option.some.inj ei1
  obtain ⟨i2, ei2⟩ := is_v a2
  obtain rfl : w2 = (.int i2) := Option.some.inj ei2
  obtain ⟨i3, ei3⟩ := is_v a3
  obtain rfl : w3 = (.int i3) := Option.some.inj ei3
  obtain ⟨i4, ei4⟩ := is_v g4
  obtain rfl : w4 = (.int i4) := Option.some.inj ei4
  obtain ⟨n, o, h1, h2, h3, _, L, rfl, ⟨rfl, N⟩, hq⟩ := rm0 l s _ hw tables_1 i0 i1 i2 i3 i4 s.heap s.heap.size (Nat.le_refl _)  p e ha hc hk s m _ below hf ((Spec.applies_iff_loose hf).mp happ).1 ⟨rfl, State.Warmed39.refl s, rfl⟩ trivial
  refine ⟨n, _, h1, h2, h3, hpost _ _ _ _ _ _ ⟨Cond.after_iff.mpr rfl, Cond.after_iff.mpr (eq_i res_at (Term.int_eval (1)) rfl), trivial⟩ ⟨hq.1, hq.2.1, (hq.2.2.sift fun y hy => Or.inr (N y hy)).mono (by decide) (by decide)⟩⟩
theorem main_1_1 : Claimed_1_1 := comes_1 fun _ _ _ _ _ _ h hF => ⟨h.1, hF⟩
theorem main_1_2 : Claimed_1_2 := comes_1 fun _ _ _ _ _ _ h hF => ⟨h.2.1, hF⟩

end Jvm.Pilot.@@N@@
namespace Jvm.Pilot.@@N@@
open Jvm Jvm.ClassFile Sem Op Lib Jvm.Free Jvm.Stand Jvm.Pilot.@@N@@.Jvm.D
/-! MADE BY PROGRAM (witnessworld.py) out of the Statement's table words and the real class files: 9 classes; the members and pool entries that the words name. The judged class is class 1, her method 1. -/
namespace start1
open Jvm.ClassFile
def u (s : String) : CpInfo := .utf8 (stringToUtf16 s)
/-- a pool by its gaps: so many unusable entries, then the entry; so many at the end -/
def gap : Nat → List CpInfo → List CpInfo
  | 0, r => r
  | n + 1, r => .unusable :: gap n r
def poolList (es : List (Nat × CpInfo)) (last : Nat) : List CpInfo := es.foldr (fun e r => gap e.1 (e.2 :: r)) (gap last [])
def pool (es : List (Nat × CpInfo)) (last : Nat) : Array CpInfo := ⟨poolList es last⟩
def fileOf (pool : Array CpInfo) (this : Nat) (attrs : Array Attribute := #[]) (ms : Array MethodInfo := #[]) (fl : Nat := 33) (sup : Nat := 0) (ifs : Array Nat := #[]) (fds : Array FieldInfo := #[]) : ClassFile where
  minorVersion := 0
  majorVersion := 65
  constantPool := pool
  accessFlags := fl
  thisClass := this
  superClass := sup
  interfaces := ifs
  fields := fds
  methods := ms
  attributes := attrs
def plain (name : String) (sup : Option ClassId) : Class where
  name := name
  kind := .ordinary
  loader := none
  accessFlags := 33
  super := sup
  interfaces := #[]
  cf := none
  fields := #[]
  methods := #[]
  instanceTypes := #[]
  staticTypes := #[]
  resolved := #[]
  callSites := []
  init := .initialized
  statics := none
  mirror := none

def pool0 : Array CpInfo := pool [(5, u "<init>"), (0, u "()V"), (1, .class_ 10), (1, u "java/lang/Object")] 113

def k0c0 : Code := { maxStack := 0, maxLocals := 1, code := object_method_1_code, exceptionTable := #[], attributes := #[] }
def k0m0 : Method := { name := "<init>", desc := "()V", sig := { parameters := [], returnType := none }, accessFlags := 1, code := some k0c0 }
/-- java/lang/Object -/
def k0 : Class := { plain "java/lang/Object" none with
  accessFlags := 33
  interfaces := #[]
  cf := some (fileOf pool0 8 #[] #[{ accessFlags := 1, nameIndex := 5, descriptorIndex := 6, attributes := #[] }] 33 0 #[] #[])
  fields := #[]
  methods := #[k0m0]
  instanceTypes := #[]
  staticTypes := #[]
  resolved := Array.replicate 124 none
  statics := none }

def pool1 : Array CpInfo := pool [(2, .class_ 4), (1, u "java/lang/Object"), (0, u "<init>"), (0, u "()V"), (0, .integer 16777215), (0, .integer 2147483647), (0, .class_ 10), (0, u "com/example/cipherloom/cipherloom/core/Letters"), (0, .long 3), (1, .methodref 9 14), (0, .nameAndType 5 15), (0, u "(JI)V"), (0, .methodref 9 17), (0, .nameAndType 18 19), (0, u "set"), (0, u "(II)V"), (0, .methodref 9 21), (0, .nameAndType 22 23), (0, u "get"), (0, u "(I)I"), (0, .class_ 25), (0, u "com/example/cipherloom/cipherloom/core/LettersGetPinLaw"), (2, u "law"), (0, u "(IIIII)Z")] 3

def k1m0 : Method := { name := "<init>", desc := "()V", sig := { parameters := [], returnType := none }, accessFlags := 1, code := none }
def k1c1 : Code := { maxStack := 5, maxLocals := 12, code := code, exceptionTable := #[], attributes := #[] }
def k1m1 : Method := { name := "law", desc := "(IIIII)Z", sig := { parameters := [.int, .int, .int, .int, .int], returnType := some .boolean }, accessFlags := 9, code := some k1c1 }
/-- com/example/cipherloom/cipherloom/core/LettersGetPinLaw -/
def k1 : Class := { plain "com/example/cipherloom/cipherloom/core/LettersGetPinLaw" (some 0) with
  accessFlags := 49
  interfaces := #[]
  cf := some (fileOf pool1 24 #[] #[{ accessFlags := 1, nameIndex := 5, descriptorIndex := 6, attributes := #[] }, { accessFlags := 9, nameIndex := 28, descriptorIndex := 29, attributes := #[] }] 49 2 #[] #[])
  fields := #[]
  methods := #[k1m0, k1m1]
  instanceTypes := #[]
  staticTypes := #[]
  resolved := Array.replicate 33 none
  statics := none }

def pool2 : Array CpInfo := pool [(3, .methodref 4 5), (0, .class_ 6), (0, .nameAndType 7 8), (0, u "java/lang/Object"), (0, u "<init>"), (0, u "()V"), (0, .class_ 10), (0, u "com/example/cipherloom/cipherloom/core/Letters"), (0, .long 2147483639), (10, .class_ 23), (0, u "[[B"), (0, .fieldref 9 25), (0, .nameAndType 26 23), (0, u "planes"), (17, u "LONGEST_ARRAY"), (0, u "I"), (2, u "(JI)V"), (5, u "get"), (0, u "(I)I"), (0, u "set"), (0, u "(II)V")] 4

def k2c0 : Code := { maxStack := 4, maxLocals := 5, code := prog_45_method_1_code, exceptionTable := #[], attributes := #[] }
def k2m0 : Method := { name := "<init>", desc := "(JI)V", sig := { parameters := [.long, .int], returnType := none }, accessFlags := 0, code := some k2c0 }
def k2c1 : Code := { maxStack := 3, maxLocals := 4, code := prog_45_method_5_code, exceptionTable := #[], attributes := #[] }
def k2m1 : Method := { name := "get", desc := "(I)I", sig := { parameters := [.int], returnType := some .int }, accessFlags := 0, code := some k2c1 }
def k2c2 : Code := { maxStack := 5, maxLocals := 4, code := prog_45_method_6_code, exceptionTable := #[], attributes := #[] }
def k2m2 : Method := { name := "set", desc := "(II)V", sig := { parameters := [.int, .int], returnType := none }, accessFlags := 0, code := some k2c2 }
/-- com/example/cipherloom/cipherloom/core/Letters -/
def k2 : Class := { plain "com/example/cipherloom/cipherloom/core/Letters" (some 0) with
  accessFlags := 48
  interfaces := #[]
  cf := some (fileOf pool2 9 #[] #[{ accessFlags := 0, nameIndex := 7, descriptorIndex := 48, attributes := #[] }, { accessFlags := 0, nameIndex := 54, descriptorIndex := 55, attributes := #[] }, { accessFlags := 0, nameIndex := 56, descriptorIndex := 57, attributes := #[] }] 48 4 #[] #[{ accessFlags := 26, nameIndex := 44, descriptorIndex := 45, attributes := #[] }, { accessFlags := 18, nameIndex := 26, descriptorIndex := 23, attributes := #[] }])
  fields := #[{ name := "LONGEST_ARRAY", type := .int, accessFlags := 26, slot := 0, constantValue := 0 }, { name := "planes", type := (.array (.array .byte)), accessFlags := 18, slot := 0, constantValue := 0 }]
  methods := #[k2m0, k2m1, k2m2]
  instanceTypes := #[(.array (.array .byte))]
  staticTypes := #[.int]
  resolved := Array.replicate 62 none
  statics := none }

def pool3 : Array CpInfo := pool [(1, u "java/lang/Cloneable"), (0, .class_ 1), (0, u "java/lang/Object"), (0, .class_ 3)] 3

/-- java/lang/Cloneable -/
def k3 : Class := { plain "java/lang/Cloneable" (some 0) with
  accessFlags := 1537
  interfaces := #[]
  cf := some (fileOf pool3 2 #[] #[] 1537 4 #[] #[])
  fields := #[]
  methods := #[]
  instanceTypes := #[]
  staticTypes := #[]
  resolved := Array.replicate 8 none
  statics := none }

def pool4 : Array CpInfo := pool [(1, u "java/io/Serializable"), (0, .class_ 1), (0, u "java/lang/Object"), (0, .class_ 3)] 3

/-- java/io/Serializable -/
def k4 : Class := { plain "java/io/Serializable" (some 0) with
  accessFlags := 1537
  interfaces := #[]
  cf := some (fileOf pool4 2 #[] #[] 1537 4 #[] #[])
  fields := #[]
  methods := #[]
  instanceTypes := #[]
  staticTypes := #[]
  resolved := Array.replicate 8 none
  statics := none }

/-- the primitive byte -/
def k5 : Class := { plain "byte" none with kind := .primitive 'B', accessFlags := 0x411 }
/-- [B -/
def k6 : Class := { plain "[B" (some 0) with kind := .array 5 .byte, interfaces := #[3, 4], accessFlags := 1041 }

/-- the primitive int -/
def k7 : Class := { plain "int" none with kind := .primitive 'I', accessFlags := 0x411 }
/-- [I -/
def k8 : Class := { plain "[I" (some 0) with kind := .array 7 .int, interfaces := #[3, 4], accessFlags := 1041 }

/-- [[B -/
def k9 : Class := { plain "[[B" (some 0) with kind := .array 6 (.array .byte), interfaces := #[3, 4], accessFlags := 1041 }

def heap : Heap := #[]
def classes : Array Class := #[k0, k1, k2, k3, k4, k5, k6, k7, k8, k9]
def interned : List (Array UInt16 × Addr) := []
def slotsUsed : Nat := 0
def theMethod : MethodId := ⟨1, 1⟩
def args0 : Array Value := #[.int 5, .int 6, .int 7, .int 8, .int 9]
def aboutOver (below : List Frame) : State where
  vm := { classes := classes, interned := interned.toArray }
  heap := heap
  slotsUsed := slotsUsed
  threads := #[{ frames := .invoking theMethod args0 :: below }]
def below0 : List Frame := [.native { method := ⟨0, 0⟩, args := #[] }]
def about1 : State := aboutOver below0
def p0 : Program := .bare "" "" ""
def e0 : Env := launch0.env 0 0 0
theorem w_frames : about1.frames = Frame.invoking theMethod args0 :: below0 := rfl
set_option maxRecDepth 65536 in
theorem w_args : argsFit about1.vm theMethod args0 = true := by decide +kernel
set_option maxRecDepth 65536 in
theorem w_heap : heapFits about1 = true := by decide +kernel
set_option maxRecDepth 65536 in
theorem w_runnable : about1.curStatus? = some .runnable := by decide +kernel
set_option maxRecDepth 65536 in
theorem w_alone : about1.alone = true := by decide +kernel
set_option maxRecDepth 65536 in
theorem w_named : about1.methodNamed? x = some theMethod := by decide +kernel
set_option maxRecDepth 65536 in
theorem w_hears : about1.hears theMethod below0 = true := by decide +kernel
set_option maxRecDepth 65536 in
theorem w_ripe : about1.ripe theMethod args0 below0 = true := by decide +kernel
theorem w_running : about1.status = .running := rfl
set_option maxRecDepth 65536 in
theorem w_room : about1.hasRoom e0.platform room_1 = true :=
  launch0.hasRoom_least _ room_1 (by decide +kernel) (by decide +kernel) (by decide +kernel) (by decide +kernel) (by decide +kernel) (by decide +kernel)
theorem allAtoms_all (ts : List Jvm.Cond) (a : Array Jvm.Value) (st : Jvm.State) : (allAtoms ts).before a st = ts.all (fun c => c.before a st) := by
  induction ts with
  | nil => rfl
  | cons c t ih =>
    show (Jvm.Cond.and c (allAtoms t)).before a st = _
    rw [Jvm.Cond.before_and, ih, List.all_cons]
def words1 : List Jvm.Cond := Jvm.Cond.code x code maxLocals ret :: tables_1
/-- a 'code' word, met by the world's own term for the bytes: nothing is compared byte by byte -/
theorem code_word {y : MethodName} {bytes : ByteArray} {mx : Nat} {rt : Option FieldType} {a : Array Value} {s : State} {m : MethodId} {meth : Method} {c : Code} (h1 : s.methodNamed? y = some m) (h2 : s.vm.method? m = some meth) (h3 : meth.code = some c) (h4 : c.code = bytes)
    (h5 : (c.maxLocals == mx && c.exceptionTable.isEmpty && decide (c.maxStack ≤ mostOperands) && decide (meth.sig.returnType = rt) && !meth.locks && decide (parseMethodDescriptor y.desc = some meth.sig)) = true) : (Jvm.Cond.code y bytes mx rt).before a s = true := by
  simp only [Bool.and_eq_true, beq_iff_eq, Bool.not_eq_true', decide_eq_true_eq] at h5
  obtain ⟨⟨⟨⟨⟨g1, g2⟩, g3⟩, g4⟩, g5⟩, g6⟩ := h5
  simp [Cond.before, Cond.holds, Cond.value, h1, h2, h3, h4, g1, g2, g3, g4, g5, g6]
def isCode : Jvm.Cond → Bool
  | .code _ _ _ _ => true
  | _ => false
theorem all_split {L : List Jvm.Cond} {P : Jvm.Cond → Bool} (h1 : L.all (fun c => isCode c || P c) = true) (h2 : ∀ c ∈ L.filter isCode, P c = true) : L.all P = true := by
  refine List.all_eq_true.mpr fun c hc => ?_
  have h := List.all_eq_true.mp h1 c hc
  rcases Bool.eq_false_or_eq_true (isCode c) with hi | hi
  · exact h2 c (List.mem_filter.mpr ⟨hc, hi⟩)
  · simpa [hi] using h
set_option maxRecDepth 65536 in
theorem w_c0 : (Jvm.Cond.code x code maxLocals ret).before args0 about1 = true := code_word (m := ⟨1, 1⟩) (meth := k1m1) (c := k1c1) (by decide +kernel) rfl rfl rfl (by decide +kernel)
set_option maxRecDepth 65536 in
theorem w_c1 : (Jvm.Cond.code ({ cls := "com/example/cipherloom/cipherloom/core/Letters", name := "<init>", desc := "(JI)V" } : Jvm.MethodName) prog_45_method_1_code (5 : Nat) (Option.none : Option Jvm.ClassFile.FieldType)).before args0 about1 = true := code_word (m := ⟨2, 0⟩) (meth := k2m0) (c := k2c0) (by decide +kernel) rfl rfl rfl (by decide +kernel)
set_option maxRecDepth 65536 in
theorem w_c2 : (Jvm.Cond.code ({ cls := "java/lang/Object", name := "<init>", desc := "()V" } : Jvm.MethodName) object_method_1_code (1 : Nat) (Option.none : Option Jvm.ClassFile.FieldType)).before args0 about1 = true := code_word (m := ⟨0, 0⟩) (meth := k0m0) (c := k0c0) (by decide +kernel) rfl rfl rfl (by decide +kernel)
set_option maxRecDepth 65536 in
theorem w_c3 : (Jvm.Cond.code ({ cls := "com/example/cipherloom/cipherloom/core/Letters", name := "set", desc := "(II)V" } : Jvm.MethodName) prog_45_method_6_code (4 : Nat) (Option.none : Option Jvm.ClassFile.FieldType)).before args0 about1 = true := code_word (m := ⟨2, 2⟩) (meth := k2m2) (c := k2c2) (by decide +kernel) rfl rfl rfl (by decide +kernel)
set_option maxRecDepth 65536 in
theorem w_c4 : (Jvm.Cond.code ({ cls := "com/example/cipherloom/cipherloom/core/Letters", name := "get", desc := "(I)I" } : Jvm.MethodName) prog_45_method_5_code (4 : Nat) (Option.some Jvm.ClassFile.FieldType.int)).before args0 about1 = true := code_word (m := ⟨2, 1⟩) (meth := k2m1) (c := k2c1) (by decide +kernel) rfl rfl rfl (by decide +kernel)
def codes1 : List Jvm.Cond := [Jvm.Cond.code x code maxLocals ret, Jvm.Cond.code ({ cls := "com/example/cipherloom/cipherloom/core/Letters", name := "<init>", desc := "(JI)V" } : Jvm.MethodName) prog_45_method_1_code (5 : Nat) (Option.none : Option Jvm.ClassFile.FieldType), Jvm.Cond.code ({ cls := "java/lang/Object", name := "<init>", desc := "()V" } : Jvm.MethodName) object_method_1_code (1 : Nat) (Option.none : Option Jvm.ClassFile.FieldType), Jvm.Cond.code ({ cls := "com/example/cipherloom/cipherloom/core/Letters", name := "set", desc := "(II)V" } : Jvm.MethodName) prog_45_method_6_code (4 : Nat) (Option.none : Option Jvm.ClassFile.FieldType), Jvm.Cond.code ({ cls := "com/example/cipherloom/cipherloom/core/Letters", name := "get", desc := "(I)I" } : Jvm.MethodName) prog_45_method_5_code (4 : Nat) (Option.some Jvm.ClassFile.FieldType.int)]
set_option maxRecDepth 65536 in
theorem codes_eq : words1.filter isCode = codes1 := rfl
theorem w_codes : ∀ c ∈ words1.filter isCode, c.before args0 about1 = true := by
  rw [codes_eq]
  intro c hc
  simp only [codes1, List.mem_cons, List.not_mem_nil, or_false] at hc
  rcases hc with rfl | rfl | rfl | rfl | rfl
  · exact w_c0
  · exact w_c1
  · exact w_c2
  · exact w_c3
  · exact w_c4
set_option maxRecDepth 65536 in
theorem w_t1 : (words1.take 24).all (fun c => isCode c || c.before args0 about1) = true := by decide +kernel
set_option maxRecDepth 65536 in
theorem w_t2 : (words1.drop 24).all (fun c => isCode c || c.before args0 about1) = true := by decide +kernel
theorem w_tables : (allAtoms (Jvm.Cond.code x code maxLocals ret :: tables_1)).before args0 about1 = true := by
  rw [allAtoms_all]
  show words1.all (fun c => c.before args0 about1) = true
  refine all_split ?_ w_codes
  rw [← List.take_append_drop 24 words1, List.all_append, w_t1, w_t2]
  rfl
set_option maxRecDepth 65536 in
theorem w_case : (Jvm.Cond.and given_1 narrow_1).before args0 about1 = true := by decide +kernel
theorem w_applies : (headSpec (Jvm.Cond.code x code maxLocals ret :: tables_1) room_1).applies x e0.platform about1 = true :=
  (Spec.applies_iff w_frames).mpr ⟨w_running, w_runnable, w_alone, w_named, w_hears, w_ripe, w_room, w_tables⟩
theorem atStart : AtStart classFile x code maxLocals ret World_1 tables_1 room_1 Calls_1 rest_1 Pre_1 launch0 p0 e0 about1 theMethod args0 below0 :=
  ⟨lists_1, trivial, launch0.admits_env _ _ _, launch0.least_env, fairChoices_fair.cas, fairChoices_fair.clock, w_frames, w_args, w_heap, w_applies, trivial, trivial, w_case⟩
end start1
theorem witness_1 : WitnessClaimed_1 := ⟨start1.p0, start1.e0, start1.about1, start1.theMethod, start1.args0, start1.below0, start1.atStart⟩
end Jvm.Pilot.@@N@@
