import JvmDerived
import JvmDerived.Pilot.@@N@@Statement
import JvmDerived.Pilot.@@N@@Code
set_option linter.unusedVariables false
set_option linter.unusedSimpArgs false
namespace Jvm.RoadKit
open Sem ClassFile Op Lib Jvm.Stand Jvm.Free Jvm.LawKit
section New
variable {p : Program} {l : Launch} {e : Env} {R : Room} {s : State} {m : MethodId} {args : Array Value} {below : List Frame} {meth : Method} {c : Code} {T : State} {locs : List Loc} {cells slots : Nat}
theorem retI (X : Stand p l e R s m args below meth c T locs cells slots) (hx : p.tables.exec = Jvm.exec) {pc : Nat} {Ls : Array Slot} {z : Int32} {rest : List Value} (hret : meth.sig.returnType = some .int) (hd : decode c.code pc = .ok (.ireturn, 1)) {fs : List Frame}
    (hl : ∀ (f : JFrame) (acts : List Action), f.method = m → f.locked = none → f.entered = [] → (doReturn e (T.setTop f) acts (some (.int z))).1 = T.setFrames fs) : Steps p.tables e below (T.setTop (mkF m pc Ls (.int z :: rest))) (T.setFrames fs) := by
  have hm' : T.vm.method? m = some meth := X.method'
  have hn : narrow .int (.int z) = .int z := rfl
  show Steps p.tables e below (T.setTop { method := m, pc := pc, locals := Ls, stack := _ :: rest, locked := none }) _
  jvm_step X.here [X.here.top, hx, hd, hm', hret, hn]
  first | (intro acts; rw [hl _ acts rfl rfl rfl]) | rw [hl _ _ rfl rfl rfl]
  exact Steps.refl _
end New
end Jvm.RoadKit
namespace Jvm.Pilot.@@N@@
open Jvm Jvm.ClassFile Sem Op Lib Jvm.Free Jvm.Stand Jvm.LawKit Jvm.RoadKit Bundle Jvm.Pilot.@@N@@.Jvm.D
theorem own_le {a b : Nat} (h : a = b) : 2 * 0 + a ≤ b := by omega
theorem own_m (i : Nat) {d : Jvm.Cond} (h : tables_1[i]? = some d) : d ∈ tables_1 := List.mem_of_getElem? h
/-- from the state T at the frame g the method comes to its return, with Q of what it returns -/
def own_Goes (tb : Tables) (e : Env) (below : List Frame) (s : State) (Q : Option Value → Heap → List Loc → Prop) (rc rs : Nat) (T : State) (g : JFrame) : Prop :=
  ∃ s₂ o, Steps tb e below (T.setTop g) s₂ ∧ s₂.status = .running ∧ Ended s₂ below o ∧ ∃ v L, o = .returned v ∧ Q v s₂.heap L ∧ FrameEnd s o s₂ L rc rs
theorem own_by {tb : Tables} {e : Env} {below : List Frame} {s : State} {Q : Option Value → Heap → List Loc → Prop} {rc rs : Nat} {T T' : State} {g g' : JFrame} (h : ∀ t, Steps tb e below (T'.setTop g') t → Steps tb e below (T.setTop g) t) (k : own_Goes tb e below s Q rc rs T' g') : own_Goes tb e below s Q rc rs T g := by
  obtain ⟨s₂, o, h1, h2⟩ := k
  exact ⟨s₂, o, h _ h1, h2⟩
section OwnRet
variable {p : Program} {l : Launch} {e : Env} {R : Room} {s : State} {m : MethodId} {args : Array Value} {below : List Frame} {meth : Method} {c : Code} {T : State} {locs : List Loc} {cells slots : Nat} {Q : Option Value → Heap → List Loc → Prop} {rc rs : Nat} {pc : Nat} {Ls : Array Slot} {rest : List Value}
theorem own_retI (X : Stand p l e R s m args below meth c T locs cells slots) (hx : p.tables.exec = Jvm.exec) {z : Int32} (hlk : meth.locks = false) (hret : meth.sig.returnType = some .int) (hd : decode c.code pc = .ok (.ireturn, 1)) (hc : cells ≤ rc) (hs : slots ≤ rs)
    (hQ : Q (some (.int z)) T.heap locs) : own_Goes p.tables e below s Q rc rs T (mkF m pc Ls (.int z :: rest)) := by
  obtain ⟨fs, hr, hrun, hended, hW, hsame⟩ := X.leave (v := some (.int z)) (fun h => by rw [hret] at h; cases h)
  exact ⟨_, _, retI X hx hret hd hr, hrun, hended, _, _, rfl, hQ, ⟨_, rfl⟩, hW, hsame.mono hc hs⟩
theorem own_retN (X : Stand p l e R s m args below meth c T locs cells slots) (hx : p.tables.exec = Jvm.exec) {z : Int32} {t : FieldType} (hlk : meth.locks = false) (hret : meth.sig.returnType = some t) (ht : t = .boolean ∨ t = .byte ∨ t = .char ∨ t = .short) (hd : decode c.code pc = .ok (.ireturn, 1)) (hc : cells ≤ rc) (hs : slots ≤ rs)
    (hQ : Q (some (.int (nar t z))) T.heap locs) : own_Goes p.tables e below s Q rc rs T (mkF m pc Ls (.int z :: rest)) := by
  obtain ⟨fs, hr, hrun, hended, hW, hsame⟩ := X.leave (v := some (.int (nar t z))) (fun h => by rw [hret] at h; cases h)
  exact ⟨_, _, retN X hx hret ht hd hr, hrun, hended, _, _, rfl, hQ, ⟨_, rfl⟩, hW, hsame.mono hc hs⟩
theorem own_retV (X : Stand p l e R s m args below meth c T locs cells slots) (hx : p.tables.exec = Jvm.exec) (hlk : meth.locks = false) (hret : meth.sig.returnType = none) (hd : decode c.code pc = .ok (.return_, 1)) (hc : cells ≤ rc) (hs : slots ≤ rs)
    (hQ : Q none T.heap locs) : own_Goes p.tables e below s Q rc rs T (mkF m pc Ls []) := by
  obtain ⟨fs, hr, hrun, hended, hW, hsame⟩ := X.leave (v := none) (fun _ => rfl)
  exact ⟨_, _, X.returnOut hx hret hd hr, hrun, hended, _, _, rfl, hQ, ⟨_, rfl⟩, hW, hsame.mono hc hs⟩
theorem own_retJ (X : Stand p l e R s m args below meth c T locs cells slots) (hx : p.tables.exec = Jvm.exec) {z : Int64} (hlk : meth.locks = false) (hret : meth.sig.returnType = some .long) (hd : decode c.code pc = .ok (.lreturn, 1)) (hc : cells ≤ rc) (hs : slots ≤ rs)
    (hQ : Q (some (.long z)) T.heap locs) : own_Goes p.tables e below s Q rc rs T (mkF m pc Ls (.long z :: rest)) := by
  obtain ⟨fs, hr, hrun, hended, hW, hsame⟩ := X.leave (v := some (.long z)) (fun h => by rw [hret] at h; cases h)
  exact ⟨_, _, retOut X hx hret rfl (Or.inr (Or.inl ⟨rfl, rfl, _, rfl⟩)) hd hr, hrun, hended, _, _, rfl, hQ, ⟨_, rfl⟩, hW, hsame.mono hc hs⟩
theorem own_retA (X : Stand p l e R s m args below meth c T locs cells slots) (hx : p.tables.exec = Jvm.exec) {w : Value} {t : FieldType} (hlk : meth.locks = false) (hret : meth.sig.returnType = some t) (ht : t.isReference = true) (hw : w.isRef = true) (hn : narrow t w = w) (hd : decode c.code pc = .ok (.areturn, 1)) (hc : cells ≤ rc) (hs : slots ≤ rs)
    (hQ : Q (some w) T.heap locs) : own_Goes p.tables e below s Q rc rs T (mkF m pc Ls (w :: rest)) := by
  obtain ⟨fs, hr, hrun, hended, hW, hsame⟩ := X.leave (v := some w) (fun h => by rw [hret] at h; cases h)
  exact ⟨_, _, retOut X hx hret hn (Or.inr (Or.inr (Or.inr (Or.inr ⟨rfl, ht, hw⟩)))) hd hr, hrun, hended, _, _, rfl, hQ, ⟨_, rfl⟩, hW, hsame.mono hc hs⟩
end OwnRet
theorem own_nsE {Z : State} {h : Heap} {a : Addr} {C : String} (E : Exa Z h a C) : ∃ c : Cell, h[a]? = some c ∧ c.vm.isStatics = false := by
  obtain ⟨c, k, h1, -, -, h4, -⟩ := E
  exact ⟨c, h1, h4⟩
theorem own_nsV {Z : State} {h : Heap} {a : Addr} {k : ClassId} {ty : FieldType} {n : Int32} {vs : List Value} {d : Value} (F : Arv Z h a k ty n vs d) : ∃ c : Cell, h[a]? = some c ∧ c.vm.isStatics = false := by
  obtain ⟨c, A, -⟩ := F
  exact ⟨c, A.1, A.plain⟩
theorem own_staKeep {Z : State} {h h' : Heap} {C n d : String} {v : Value} {ws : List Addr} (S : Sta Z h C n d v) (K : Keep h h' ws) (q : ∀ x ∈ ws, ∃ c : Cell, h[x]? = some c ∧ c.vm.isStatics = false) : Sta Z h' C n d v := by
  obtain ⟨cf, i, k, f, st, cell, h1, h2, h3, h4, h5, h6, h7⟩ := S
  refine ⟨cf, i, k, f, st, cell, h1, h2, h3, h4, K.2.1 st cell h5 (fun hin => ?_), h6, h7⟩
  obtain ⟨c, hc, hs⟩ := q st hin
  rw [h5] at hc
  cases hc
  rw [h6] at hs
  cases hs
theorem own_arrKeep {Z : State} {h h' : Heap} {a : Addr} {c : Cell} {ty : FieldType} {ws : List Addr} (A : Arr Z h a c ty) (K : Keep h h' ws) (q : a ∉ ws) : Arr Z h' a c ty := ⟨K.2.1 a c A.1 q, A.2⟩
theorem own_eq_int {args : Array Value} {s : State} {t : Term} {k : Int32} (h : (Jvm.Cond.eq t (.int k)).value args s none s [] = some true) : t.eval args s none [] s = some (.int k) := by
  obtain ⟨x, y, h1, h2, k1, k2⟩ := cmp_v (Or.inl h)
  cases h2
  obtain ⟨z, rfl⟩ := k2
  have : z = k := by simpa [Jvm.Cond.value, h1, Term.eval] using h
  rw [h1, this]
theorem own_eq_ref {args : Array Value} {s : State} {t u : Term} {b : Addr} (h : (Jvm.Cond.eq t u).value args s none s [] = some true) (hu : u.eval args s none [] s = some (.ref b)) : t.eval args s none [] s = some (.ref b) := by
  obtain ⟨x, y, h1, h2, k1, k2⟩ := cmp_v (Or.inl h)
  cases hu.symm.trans h2
  have hr : x.isRef = true := k2.2
  rcases ref_cases hr with rfl | ⟨z, rfl⟩
  · simp [Jvm.Cond.value, h1, h2] at h
  · have : z = b := by simpa [Jvm.Cond.value, h1, h2] using h
    rw [h1, this]

def own_cap (pp : Int32) : Int32 := if pp = (84 : Int32) then (1 : Int32) else (if pp = (73 : Int32) then (1 : Int32) else (if pp = (65 : Int32) then (1 : Int32) else (if pp = (83 : Int32) then (1 : Int32) else (if pp = (72 : Int32) then (1 : Int32) else (if pp = (87 : Int32) then (1 : Int32) else (if pp = (66 : Int32) then (1 : Int32) else (if pp = (77 : Int32) then (1 : Int32) else (if pp = (67 : Int32) then (1 : Int32) else (0 : Int32)))))))))
def own_exp (pp : Int32) : Int32 := if pp < (128 : Int32) then (if pp = (32 : Int32) then (1800 : Int32) else (if pp = (101 : Int32) then (1000 : Int32) else (if pp = (116 : Int32) then (700 : Int32) else (if pp = (97 : Int32) then (600 : Int32) else (if pp = (111 : Int32) then (600 : Int32) else (if pp = (105 : Int32) then (600 : Int32) else (if pp = (110 : Int32) then (500 : Int32) else (if pp = (115 : Int32) then (500 : Int32) else (if pp = (104 : Int32) then (500 : Int32) else (if pp = (114 : Int32) then (500 : Int32) else (if pp = (100 : Int32) then (330 : Int32) else (if pp = (108 : Int32) then (330 : Int32) else (if pp = (99 : Int32) then (220 : Int32) else (if pp = (117 : Int32) then (220 : Int32) else (if pp = (109 : Int32) then (170 : Int32) else (if pp = (119 : Int32) then (170 : Int32) else (if pp = (102 : Int32) then (170 : Int32) else (if pp = (103 : Int32) then (170 : Int32) else (if pp = (121 : Int32) then (170 : Int32) else (if pp = (112 : Int32) then (170 : Int32) else (if pp = (98 : Int32) then (120 : Int32) else (if pp = (44 : Int32) then (120 : Int32) else (if pp = (46 : Int32) then (120 : Int32) else (if pp = (10 : Int32) then (120 : Int32) else (if pp = (118 : Int32) then (80 : Int32) else (if pp = (107 : Int32) then (60 : Int32) else (if pp = (13 : Int32) then (60 : Int32) else (if (own_cap pp) = (0 : Int32) then (if pp < (48 : Int32) then (if pp = (45 : Int32) then (30 : Int32) else (if pp = (39 : Int32) then (30 : Int32) else (if pp = (34 : Int32) then (30 : Int32) else (if pp = (9 : Int32) then (30 : Int32) else (if pp < (32 : Int32) then (0 : Int32) else (if (126 : Int32) < pp then (0 : Int32) else (10 : Int32))))))) else (if (57 : Int32) < pp then (if pp = (45 : Int32) then (30 : Int32) else (if pp = (39 : Int32) then (30 : Int32) else (if pp = (34 : Int32) then (30 : Int32) else (if pp = (9 : Int32) then (30 : Int32) else (if pp < (32 : Int32) then (0 : Int32) else (if (126 : Int32) < pp then (0 : Int32) else (10 : Int32))))))) else (30 : Int32))) else (30 : Int32))))))))))))))))))))))))))))) else (0 : Int32)
theorem own_size {args : Array Value} {s : State} {t : Term} {ta : Addr} {cl : Cell} {ty : FieldType} (ev : t.eval args s none [] s = some (.ref ta)) (Ar : Arr s s.heap ta cl ty) (h : (Jvm.Cond.eq (.length t) (.int 128)).value args s none s [] = some true) : cl.slots.size = 128 := by
  have hf : s.arrayAt? ta = some cl := Ar.fin (Vm.Alike.refl _)
  by_cases hl : cl.slots.size < 2 ^ 31
  · have h1 := own_eq_int h
    have h2 : (Term.length t).eval args s none [] s = some (.int cl.slots.size.toInt32) := len_f ev hf hl
    rw [h1] at h2
    have h3 : cl.slots.size.toInt32 = 128 := by simpa using h2.symm
    have h4 := len_toInt hl
    rw [h3] at h4
    have : (128 : Int32).toInt = 128 := by decide
    omega
  · have h1 := own_eq_int h
    simp [Term.eval, ev, hf, hl] at h1
theorem own_one {args : Array Value} {s : State} {t : Term} {ta : Addr} {cl : Cell} {ty : FieldType} {j v : Int32} (ev : t.eval args s none [] s = some (.ref ta)) (Ar : Arr s s.heap ta cl ty) (h : (Jvm.Cond.eq (.elem t (.int j)) (.int v)).value args s none s [] = some true) (hj : ¬ j < 0) : cl.slots[j.toNatClampNeg]? = some (.int v) := by
  have hf : s.arrayAt? ta = some cl := Ar.fin (Vm.Alike.refl _)
  rw [← elem_f ev (Term.int_eval j) hf hj]
  exact own_eq_int h
theorem own_eq_intI {args : Array Value} {s : State} {t : Term} {k : Int32} {idx : List Nat} (h : (Jvm.Cond.eq t (.int k)).value args s none s idx = some true) : t.eval args s none idx s = some (.int k) := by
  obtain ⟨x, y, h1, h2, k1, k2⟩ := cmp_v (Or.inl h)
  cases h2
  obtain ⟨z, rfl⟩ := k2
  have : z = k := by simpa [Jvm.Cond.value, h1, Term.eval] using h
  rw [h1, this]
theorem own_or {args : Array Value} {s : State} {idx : List Nat} {a b : Jvm.Cond} (h : (Jvm.Cond.or a b).value args s none s idx = some true) (ha : a.value args s none s idx = some false) : b.value args s none s idx = some true := by
  simpa [Jvm.Cond.value, ha] using h
theorem own_idx {n : Nat} (hn : n < 128) : n.toInt32.toInt = n ∧ ¬ n.toInt32 < 0 ∧ n.toInt32.toNatClampNeg = n := by
  have h1 : n.toInt32.toInt = n := len_toInt (by omega)
  refine ⟨h1, ?_, ?_⟩
  · rw [Int32.lt_iff_toInt_lt, h1]
    have : (0 : Int32).toInt = 0 := by decide
    omega
  · simp [Int32.toNatClampNeg, h1]
theorem own_rng {args : Array Value} {s : State} {C f d : String} {ta : Addr} {cl : Cell} {ty : FieldType} {lo hi v : Int32} (ev : (Term.static C f d).eval args s none [] s = some (.ref ta)) (Ar : Arr s s.heap ta cl ty) (hsz : cl.slots.size = 128)
    (h : (Jvm.Cond.all (.static C f d) (.or (.lt (.index 0) (.int lo)) (.or (.le (.int hi) (.index 0)) (.eq (.elem (.static C f d) (.index 0)) (.int v))))).value args s none s [] = some true) : ∀ n : Nat, n < 128 → ¬ n.toInt32 < lo → n.toInt32 < hi → cl.slots[n]? = some (.int v) := by
  intro n hn h1 h2
  have hf : s.arrayAt? ta = some cl := Ar.fin (Vm.Alike.refl _)
  have q := Cond.all_elim ev hf h n (by omega)
  have hi' : (Term.index 0).eval args s none [n] s = some (.int n.toInt32) := Term.index_eval _
  have ev' : (Term.static C f d).eval args s none [n] s = some (.ref ta) := ev
  obtain ⟨e1, e2, e3⟩ := own_idx hn
  have g1 : (Jvm.Cond.lt (.index 0) (.int lo)).value args s none s [n] = some (decide (n.toInt32 < lo)) := Cond.lt_ints hi' rfl
  have g2 : (Jvm.Cond.le (.int hi) (.index 0)).value args s none s [n] = some (decide (hi ≤ n.toInt32)) := Cond.le_ints rfl hi'
  have q1 : (Jvm.Cond.or (.le (.int hi) (.index 0)) (.eq (.elem (.static C f d) (.index 0)) (.int v))).value args s none s [n] = some true := by
    exact own_or q (g1.trans (by rw [decide_eq_false h1]))
  have q2 : (Jvm.Cond.eq (.elem (.static C f d) (.index 0)) (.int v)).value args s none s [n] = some true := by
    have h2' : ¬ hi ≤ n.toInt32 := by rw [Int32.not_le]; exact h2
    exact own_or q1 (g2.trans (by rw [decide_eq_false h2']))
  have q3 := own_eq_intI q2
  rw [elem_f ev' hi' hf e2, e3] at q3
  exact q3
theorem own_rng0 {args : Array Value} {s : State} {C f d : String} {ta : Addr} {cl : Cell} {ty : FieldType} {hi v : Int32} (ev : (Term.static C f d).eval args s none [] s = some (.ref ta)) (Ar : Arr s s.heap ta cl ty) (hsz : cl.slots.size = 128)
    (h : (Jvm.Cond.all (.static C f d) (.or (.le (.int hi) (.index 0)) (.eq (.elem (.static C f d) (.index 0)) (.int v)))).value args s none s [] = some true) : ∀ n : Nat, n < 128 → n.toInt32 < hi → cl.slots[n]? = some (.int v) := by
  intro n hn h2
  have hf : s.arrayAt? ta = some cl := Ar.fin (Vm.Alike.refl _)
  have q := Cond.all_elim ev hf h n (by omega)
  have hi' : (Term.index 0).eval args s none [n] s = some (.int n.toInt32) := Term.index_eval _
  have ev' : (Term.static C f d).eval args s none [n] s = some (.ref ta) := ev
  obtain ⟨e1, e2, e3⟩ := own_idx hn
  have g2 : (Jvm.Cond.le (.int hi) (.index 0)).value args s none s [n] = some (decide (hi ≤ n.toInt32)) := Cond.le_ints rfl hi'
  have q2 : (Jvm.Cond.eq (.elem (.static C f d) (.index 0)) (.int v)).value args s none s [n] = some true := by
    have h2' : ¬ hi ≤ n.toInt32 := by rw [Int32.not_le]; exact h2
    exact own_or q (g2.trans (by rw [decide_eq_false h2']))
  have q3 := own_eq_intI q2
  rw [elem_f ev' hi' hf e2, e3] at q3
  exact q3
set_option maxRecDepth 65536 in
theorem own_tab {cl : Cell} (q0 : ∀ n : Nat, n < 128 → n.toInt32 < 9 → cl.slots[n]? = some (.int 0)) (q9 : cl.slots[(9 : Int32).toNatClampNeg]? = some (.int 30)) (q10 : cl.slots[(10 : Int32).toNatClampNeg]? = some (.int 120)) (q11 : cl.slots[(11 : Int32).toNatClampNeg]? = some (.int 0)) (q12 : cl.slots[(12 : Int32).toNatClampNeg]? = some (.int 0)) (q13 : cl.slots[(13 : Int32).toNatClampNeg]? = some (.int 60)) (q14 : ∀ n : Nat, n < 128 → ¬ n.toInt32 < 14 → n.toInt32 < 32 → cl.slots[n]? = some (.int 0)) (q32 : cl.slots[(32 : Int32).toNatClampNeg]? = some (.int 1800)) (q33 : cl.slots[(33 : Int32).toNatClampNeg]? = some (.int 10)) (q34 : cl.slots[(34 : Int32).toNatClampNeg]? = some (.int 30)) (q35 : ∀ n : Nat, n < 128 → ¬ n.toInt32 < 35 → n.toInt32 < 39 → cl.slots[n]? = some (.int 10)) (q39 : cl.slots[(39 : Int32).toNatClampNeg]? = some (.int 30)) (q40 : ∀ n : Nat, n < 128 → ¬ n.toInt32 < 40 → n.toInt32 < 44 → cl.slots[n]? = some (.int 10)) (q44 : cl.slots[(44 : Int32).toNatClampNeg]? = some (.int 120)) (q45 : cl.slots[(45 : Int32).toNatClampNeg]? = some (.int 30)) (q46 : cl.slots[(46 : Int32).toNatClampNeg]? = some (.int 120)) (q47 : cl.slots[(47 : Int32).toNatClampNeg]? = some (.int 10)) (q48 : ∀ n : Nat, n < 128 → ¬ n.toInt32 < 48 → n.toInt32 < 58 → cl.slots[n]? = some (.int 30)) (q58 : ∀ n : Nat, n < 128 → ¬ n.toInt32 < 58 → n.toInt32 < 65 → cl.slots[n]? = some (.int 10)) (q65 : cl.slots[(65 : Int32).toNatClampNeg]? = some (.int 30)) (q66 : cl.slots[(66 : Int32).toNatClampNeg]? = some (.int 30)) (q67 : cl.slots[(67 : Int32).toNatClampNeg]? = some (.int 30)) (q68 : ∀ n : Nat, n < 128 → ¬ n.toInt32 < 68 → n.toInt32 < 72 → cl.slots[n]? = some (.int 10)) (q72 : cl.slots[(72 : Int32).toNatClampNeg]? = some (.int 30)) (q73 : cl.slots[(73 : Int32).toNatClampNeg]? = some (.int 30)) (q74 : cl.slots[(74 : Int32).toNatClampNeg]? = some (.int 10)) (q75 : cl.slots[(75 : Int32).toNatClampNeg]? = some (.int 10)) (q76 : cl.slots[(76 : Int32).toNatClampNeg]? = some (.int 10)) (q77 : cl.slots[(77 : Int32).toNatClampNeg]? = some (.int 30)) (q78 : ∀ n : Nat, n < 128 → ¬ n.toInt32 < 78 → n.toInt32 < 83 → cl.slots[n]? = some (.int 10)) (q83 : cl.slots[(83 : Int32).toNatClampNeg]? = some (.int 30)) (q84 : cl.slots[(84 : Int32).toNatClampNeg]? = some (.int 30)) (q85 : cl.slots[(85 : Int32).toNatClampNeg]? = some (.int 10)) (q86 : cl.slots[(86 : Int32).toNatClampNeg]? = some (.int 10)) (q87 : cl.slots[(87 : Int32).toNatClampNeg]? = some (.int 30)) (q88 : ∀ n : Nat, n < 128 → ¬ n.toInt32 < 88 → n.toInt32 < 97 → cl.slots[n]? = some (.int 10)) (q97 : cl.slots[(97 : Int32).toNatClampNeg]? = some (.int 600)) (q98 : cl.slots[(98 : Int32).toNatClampNeg]? = some (.int 120)) (q99 : cl.slots[(99 : Int32).toNatClampNeg]? = some (.int 220)) (q100 : cl.slots[(100 : Int32).toNatClampNeg]? = some (.int 330)) (q101 : cl.slots[(101 : Int32).toNatClampNeg]? = some (.int 1000)) (q102 : cl.slots[(102 : Int32).toNatClampNeg]? = some (.int 170)) (q103 : cl.slots[(103 : Int32).toNatClampNeg]? = some (.int 170)) (q104 : cl.slots[(104 : Int32).toNatClampNeg]? = some (.int 500)) (q105 : cl.slots[(105 : Int32).toNatClampNeg]? = some (.int 600)) (q106 : cl.slots[(106 : Int32).toNatClampNeg]? = some (.int 10)) (q107 : cl.slots[(107 : Int32).toNatClampNeg]? = some (.int 60)) (q108 : cl.slots[(108 : Int32).toNatClampNeg]? = some (.int 330)) (q109 : cl.slots[(109 : Int32).toNatClampNeg]? = some (.int 170)) (q110 : cl.slots[(110 : Int32).toNatClampNeg]? = some (.int 500)) (q111 : cl.slots[(111 : Int32).toNatClampNeg]? = some (.int 600)) (q112 : cl.slots[(112 : Int32).toNatClampNeg]? = some (.int 170)) (q113 : cl.slots[(113 : Int32).toNatClampNeg]? = some (.int 10)) (q114 : cl.slots[(114 : Int32).toNatClampNeg]? = some (.int 500)) (q115 : cl.slots[(115 : Int32).toNatClampNeg]? = some (.int 500)) (q116 : cl.slots[(116 : Int32).toNatClampNeg]? = some (.int 700)) (q117 : cl.slots[(117 : Int32).toNatClampNeg]? = some (.int 220)) (q118 : cl.slots[(118 : Int32).toNatClampNeg]? = some (.int 80)) (q119 : cl.slots[(119 : Int32).toNatClampNeg]? = some (.int 170)) (q120 : cl.slots[(120 : Int32).toNatClampNeg]? = some (.int 10)) (q121 : cl.slots[(121 : Int32).toNatClampNeg]? = some (.int 170)) (q122 : ∀ n : Nat, n < 128 → ¬ n.toInt32 < 122 → n.toInt32 < 127 → cl.slots[n]? = some (.int 10)) (q127 : cl.slots[(127 : Int32).toNatClampNeg]? = some (.int 0)) : ∀ n : Nat, n < 128 → cl.slots[n]? = some (.int (own_exp n.toInt32)) := by
  intro n hn
  have hb : n < 9 ∨ n = 9 ∨ n = 10 ∨ n = 11 ∨ n = 12 ∨ n = 13 ∨ (14 ≤ n ∧ n < 32) ∨ n = 32 ∨ n = 33 ∨ n = 34 ∨ (35 ≤ n ∧ n < 39) ∨ n = 39 ∨ (40 ≤ n ∧ n < 44) ∨ n = 44 ∨ n = 45 ∨ n = 46 ∨ n = 47 ∨ (48 ≤ n ∧ n < 58) ∨ (58 ≤ n ∧ n < 65) ∨ n = 65 ∨ n = 66 ∨ n = 67 ∨ (68 ≤ n ∧ n < 72) ∨ n = 72 ∨ n = 73 ∨ n = 74 ∨ n = 75 ∨ n = 76 ∨ n = 77 ∨ (78 ≤ n ∧ n < 83) ∨ n = 83 ∨ n = 84 ∨ n = 85 ∨ n = 86 ∨ n = 87 ∨ (88 ≤ n ∧ n < 97) ∨ n = 97 ∨ n = 98 ∨ n = 99 ∨ n = 100 ∨ n = 101 ∨ n = 102 ∨ n = 103 ∨ n = 104 ∨ n = 105 ∨ n = 106 ∨ n = 107 ∨ n = 108 ∨ n = 109 ∨ n = 110 ∨ n = 111 ∨ n = 112 ∨ n = 113 ∨ n = 114 ∨ n = 115 ∨ n = 116 ∨ n = 117 ∨ n = 118 ∨ n = 119 ∨ n = 120 ∨ n = 121 ∨ (122 ≤ n ∧ n < 127) ∨ n = 127 := by omega
  rcases hb with h | h | h | h | h | h | h | h | h | h | h | h | h | h | h | h | h | h | h | h | h | h | h | h | h | h | h | h | h | h | h | h | h | h | h | h | h | h | h | h | h | h | h | h | h | h | h | h | h | h | h | h | h | h | h | h | h | h | h | h | h | h | h
  · have u := (by decide +kernel : ∀ m : Fin 128, m.val < 9 → m.val.toInt32 < 9 ∧ own_exp m.val.toInt32 = 0) ⟨n, hn⟩ h
    rw [u.2]; exact q0 n hn u.1
  · subst h; exact q9
  · subst h; exact q10
  · subst h; exact q11
  · subst h; exact q12
  · subst h; exact q13
  · have u := (by decide +kernel : ∀ m : Fin 128, (14 ≤ m.val ∧ m.val < 32) → ¬ m.val.toInt32 < 14 ∧ m.val.toInt32 < 32 ∧ own_exp m.val.toInt32 = 0) ⟨n, hn⟩ h
    rw [u.2.2]; exact q14 n hn u.1 u.2.1
  · subst h; exact q32
  · subst h; exact q33
  · subst h; exact q34
  · have u := (by decide +kernel : ∀ m : Fin 128, (35 ≤ m.val ∧ m.val < 39) → ¬ m.val.toInt32 < 35 ∧ m.val.toInt32 < 39 ∧ own_exp m.val.toInt32 = 10) ⟨n, hn⟩ h
    rw [u.2.2]; exact q35 n hn u.1 u.2.1
  · subst h; exact q39
  · have u := (by decide +kernel : ∀ m : Fin 128, (40 ≤ m.val ∧ m.val < 44) → ¬ m.val.toInt32 < 40 ∧ m.val.toInt32 < 44 ∧ own_exp m.val.toInt32 = 10) ⟨n, hn⟩ h
    rw [u.2.2]; exact q40 n hn u.1 u.2.1
  · subst h; exact q44
  · subst h; exact q45
  · subst h; exact q46
  · subst h; exact q47
  · have u := (by decide +kernel : ∀ m : Fin 128, (48 ≤ m.val ∧ m.val < 58) → ¬ m.val.toInt32 < 48 ∧ m.val.toInt32 < 58 ∧ own_exp m.val.toInt32 = 30) ⟨n, hn⟩ h
    rw [u.2.2]; exact q48 n hn u.1 u.2.1
  · have u := (by decide +kernel : ∀ m : Fin 128, (58 ≤ m.val ∧ m.val < 65) → ¬ m.val.toInt32 < 58 ∧ m.val.toInt32 < 65 ∧ own_exp m.val.toInt32 = 10) ⟨n, hn⟩ h
    rw [u.2.2]; exact q58 n hn u.1 u.2.1
  · subst h; exact q65
  · subst h; exact q66
  · subst h; exact q67
  · have u := (by decide +kernel : ∀ m : Fin 128, (68 ≤ m.val ∧ m.val < 72) → ¬ m.val.toInt32 < 68 ∧ m.val.toInt32 < 72 ∧ own_exp m.val.toInt32 = 10) ⟨n, hn⟩ h
    rw [u.2.2]; exact q68 n hn u.1 u.2.1
  · subst h; exact q72
  · subst h; exact q73
  · subst h; exact q74
  · subst h; exact q75
  · subst h; exact q76
  · subst h; exact q77
  · have u := (by decide +kernel : ∀ m : Fin 128, (78 ≤ m.val ∧ m.val < 83) → ¬ m.val.toInt32 < 78 ∧ m.val.toInt32 < 83 ∧ own_exp m.val.toInt32 = 10) ⟨n, hn⟩ h
    rw [u.2.2]; exact q78 n hn u.1 u.2.1
  · subst h; exact q83
  · subst h; exact q84
  · subst h; exact q85
  · subst h; exact q86
  · subst h; exact q87
  · have u := (by decide +kernel : ∀ m : Fin 128, (88 ≤ m.val ∧ m.val < 97) → ¬ m.val.toInt32 < 88 ∧ m.val.toInt32 < 97 ∧ own_exp m.val.toInt32 = 10) ⟨n, hn⟩ h
    rw [u.2.2]; exact q88 n hn u.1 u.2.1
  · subst h; exact q97
  · subst h; exact q98
  · subst h; exact q99
  · subst h; exact q100
  · subst h; exact q101
  · subst h; exact q102
  · subst h; exact q103
  · subst h; exact q104
  · subst h; exact q105
  · subst h; exact q106
  · subst h; exact q107
  · subst h; exact q108
  · subst h; exact q109
  · subst h; exact q110
  · subst h; exact q111
  · subst h; exact q112
  · subst h; exact q113
  · subst h; exact q114
  · subst h; exact q115
  · subst h; exact q116
  · subst h; exact q117
  · subst h; exact q118
  · subst h; exact q119
  · subst h; exact q120
  · subst h; exact q121
  · have u := (by decide +kernel : ∀ m : Fin 128, (122 ≤ m.val ∧ m.val < 127) → ¬ m.val.toInt32 < 122 ∧ m.val.toInt32 < 127 ∧ own_exp m.val.toInt32 = 10) ⟨n, hn⟩ h
    rw [u.2.2]; exact q122 n hn u.1 u.2.1
  · subst h; exact q127
theorem own_tabJ {cl : Cell} (h : ∀ n : Nat, n < 128 → cl.slots[n]? = some (.int (own_exp n.toInt32))) : ∀ j : Int32, ¬ j < 0 → j < 128 → cl.slots[j.toNatClampNeg]? = some (.int (own_exp j)) := by
  intro j h0 h1
  have b := back32 h0
  have e := h j.toNatClampNeg (by rw [Int32.lt_iff_toInt_lt] at h0 h1; simp only [Int32.toNatClampNeg]; have : (128 : Int32).toInt = 128 := by decide
                                  omega)
  rw [b.1] at e
  exact e
theorem own_inb {cl : Cell} {j : Int32} (hsz : cl.slots.size = 128) (h0 : ¬ j < 0) (h1 : j < 128) : ¬ (j < 0 ∨ cl.slots.size ≤ j.toNatClampNeg) := by
  rw [hsz]
  rintro (q | q)
  · exact h0 q
  · rw [Int32.lt_iff_toInt_lt] at h0 h1
    simp only [Int32.toNatClampNeg] at q
    have : (128 : Int32).toInt = 128 := by decide
    omega
theorem own_cpos (x : Int32) : ¬ x.toUInt32.toUInt16.toUInt32.toInt32 < 0 := by
  have h := c_i2c x
  rw [Int32.lt_iff_toInt_lt]
  have : (0 : Int32).toInt = 0 := by decide
  omega
theorem own_exp_far {j : Int32} (h : ¬ j < (128 : Int32)) : own_exp j = 0 := by
  unfold own_exp
  rw [if_neg h]

theorem pn_com_example_emu_emu_CharFrequencyPerTenThousandPinLaw : plainName "com/example/emu/emu/CharFrequencyPerTenThousandPinLaw" = true := by first | (simp [plainName, overriddenIn]; done) | decide +kernel
theorem ef_3 (m : MethodId) (pp : Int32) : entryFrame m #[(.int pp)] 1 = mkF m 0 #[.val (.int pp)] [] := by first | (simp [entryFrame, mkF, argsToLocals, Value.category]; done) | rfl
theorem d3_0 : decode method_3_code 0 = .ok (.iload_n 0, 1) := by decide +kernel
theorem d3_1 : decode method_3_code 1 = .ok (.bipush 84, 2) := by decide +kernel
theorem d3_3 : decode method_3_code 3 = .ok (.if_icmp .eq 51, 3) := by decide +kernel
theorem d3_54 : decode method_3_code 54 = .ok (.iconst 1, 1) := by decide +kernel
theorem d3_55 : decode method_3_code 55 = .ok (.goto 4, 3) := by decide +kernel
theorem d3_59 : decode method_3_code 59 = .ok (.ireturn, 1) := by decide +kernel
theorem d3_6 : decode method_3_code 6 = .ok (.iload_n 0, 1) := by decide +kernel
theorem d3_7 : decode method_3_code 7 = .ok (.bipush 73, 2) := by decide +kernel
theorem d3_9 : decode method_3_code 9 = .ok (.if_icmp .eq 45, 3) := by decide +kernel
theorem d3_12 : decode method_3_code 12 = .ok (.iload_n 0, 1) := by decide +kernel
theorem d3_13 : decode method_3_code 13 = .ok (.bipush 65, 2) := by decide +kernel
theorem d3_15 : decode method_3_code 15 = .ok (.if_icmp .eq 39, 3) := by decide +kernel
theorem d3_18 : decode method_3_code 18 = .ok (.iload_n 0, 1) := by decide +kernel
theorem d3_19 : decode method_3_code 19 = .ok (.bipush 83, 2) := by decide +kernel
theorem d3_21 : decode method_3_code 21 = .ok (.if_icmp .eq 33, 3) := by decide +kernel
theorem d3_24 : decode method_3_code 24 = .ok (.iload_n 0, 1) := by decide +kernel
theorem d3_25 : decode method_3_code 25 = .ok (.bipush 72, 2) := by decide +kernel
theorem d3_27 : decode method_3_code 27 = .ok (.if_icmp .eq 27, 3) := by decide +kernel
theorem d3_30 : decode method_3_code 30 = .ok (.iload_n 0, 1) := by decide +kernel
theorem d3_31 : decode method_3_code 31 = .ok (.bipush 87, 2) := by decide +kernel
theorem d3_33 : decode method_3_code 33 = .ok (.if_icmp .eq 21, 3) := by decide +kernel
theorem d3_36 : decode method_3_code 36 = .ok (.iload_n 0, 1) := by decide +kernel
theorem d3_37 : decode method_3_code 37 = .ok (.bipush 66, 2) := by decide +kernel
theorem d3_39 : decode method_3_code 39 = .ok (.if_icmp .eq 15, 3) := by decide +kernel
theorem d3_42 : decode method_3_code 42 = .ok (.iload_n 0, 1) := by decide +kernel
theorem d3_43 : decode method_3_code 43 = .ok (.bipush 77, 2) := by decide +kernel
theorem d3_45 : decode method_3_code 45 = .ok (.if_icmp .eq 9, 3) := by decide +kernel
theorem d3_48 : decode method_3_code 48 = .ok (.iload_n 0, 1) := by decide +kernel
theorem d3_49 : decode method_3_code 49 = .ok (.bipush 67, 2) := by decide +kernel
theorem d3_51 : decode method_3_code 51 = .ok (.if_icmp .ne 7, 3) := by decide +kernel
theorem d3_58 : decode method_3_code 58 = .ok (.iconst 0, 1) := by decide +kernel
def Q3 (Z : State) (pp : Int32) (h0 : Heap) (n0 : Nat) (v : Option Value) (h : Heap) (L : List Loc) : Prop := v = some (.int (own_cap pp)) ∧ Fr n0 L ∧ h = h0
set_option maxRecDepth 65536 in
set_option maxHeartbeats 40000000 in
theorem rm3 (l : Launch) (Z : State) (a0 : Array Value) (hw : ∀ d ∈ tables_1, d.before a0 Z = true) (ws : List Jvm.Cond) (pp : Int32) (h0 : Heap) (n0 : Nat) (Zle : n0 ≤ h0.size) :
    MetFree l (⟨"com/example/emu/emu/CharFrequencyPerTenThousandPinLaw", "isCapitalListed", "(C)Z"⟩ : MethodName) (head1 (Jvm.Cond.code (⟨"com/example/emu/emu/CharFrequencyPerTenThousandPinLaw", "isCapitalListed", "(C)Z"⟩ : MethodName) method_3_code 1 (some .boolean) :: ws) ({ frames := 0, cells := 0, slots := 0, locals := 0 } : Room)) (fun a U => a = #[(.int pp)] ∧ Z.Warmed39 U.vm ∧ U.heap = h0) (fun _ _ _ _ _ => True) (fun _ U o U' => ∃ v L, o = .returned v ∧ Q3 Z pp h0 n0 v U'.heap L ∧ FrameEnd U o U' L ({ frames := 0, cells := 0, slots := 0, locals := 0 } : Room).cells ({ frames := 0, cells := 0, slots := 0, locals := 0 } : Room).slots) := by
  refine MetFree.of_bodySF (plainFor_of_name pn_com_example_emu_emu_CharFrequencyPerTenThousandPinLaw) hisR ?_
  intro p e s m args below meth c s₁ Bd hml0 hP hK
  obtain ⟨rfl, hZ, hh⟩ := hP
  have hx := Bd.exec
  have hby := Bd.bytes
  have hml : c.maxLocals = 1 := hml0
  have hown : s.vm.findClass "com/example/emu/emu/CharFrequencyPerTenThousandPinLaw" = some m.cls := findClass_of_methodNamed Bd.named
  have hnm := (name_of_methodNamed Bd.named Bd.method).1
  have X0 : Stand p l e ({ frames := 0, cells := 0, slots := 0, locals := 0 } : Room) s m #[(.int pp)] below meth c s₁ [] 0 0 := Stand.of_body Bd
  have e0 : s₁.heap = h0 := by rw [← hh, Bd.state]; rfl
  have N_ := Fr.nil n0
  show own_Goes p.tables e below s (Q3 Z pp h0 n0) ({ frames := 0, cells := 0, slots := 0, locals := 0 } : Room).cells ({ frames := 0, cells := 0, slots := 0, locals := 0 } : Room).slots s₁ (entryFrame m #[(.int pp)] 1)
  refine own_by (T' := s₁) (g' := (mkF m 0 #[.val (.int pp)] [])) (fun t k => castTop (ef_3 m pp) k) ?_
  refine own_by (T' := s₁) (g' := (mkF m 1 #[.val (.int pp)] [(.int pp)])) (fun t k => XS.iloadN X0.here hx rfl (hb hby d3_0) rfl k) ?_
  refine own_by (T' := s₁) (g' := (mkF m 3 #[.val (.int pp)] [(.int 84), (.int pp)])) (fun t k => XS.bipush X0.here hx rfl (hb hby d3_1) k) ?_
  by_cases hc3_1 : pp = (84 : Int32)
  · refine own_by (T' := s₁) (g' := (mkF m 54 #[.val (.int pp)] [])) (fun t k => XS.icmpYes X0.here hx rfl (pc0 := 3) (pc' := 54) rfl (hb hby d3_3) rfl (teq hc3_1).1 (by decide) (by decide) k) ?_
    refine own_by (T' := s₁) (g' := (mkF m 55 #[.val (.int pp)] [(.int 1)])) (fun t k => XS.iconst X0.here hx rfl (hb hby d3_54) k) ?_
    refine own_by (T' := s₁) (g' := (mkF m 59 #[.val (.int pp)] [(.int 1)])) (fun t k => XS.goto X0.here hx rfl (pc0 := 55) (pc' := 59) rfl (hb hby d3_55) (by decide) (by decide) k) ?_
    exact own_retN X0 hx (t := .boolean) Bd.notSynchronized Bd.returns (by simp) (hb hby d3_59) (by decide) (by decide) (by rw [e0]; exact ⟨by unfold own_cap; rw [if_pos hc3_1]; rfl, N_, rfl⟩)
  · refine own_by (T' := s₁) (g' := (mkF m 6 #[.val (.int pp)] [])) (fun t k => XS.icmpNo X0.here hx rfl (hb hby d3_3) rfl (feq hc3_1).1 k) ?_
    refine own_by (T' := s₁) (g' := (mkF m 7 #[.val (.int pp)] [(.int pp)])) (fun t k => XS.iloadN X0.here hx rfl (hb hby d3_6) rfl k) ?_
    refine own_by (T' := s₁) (g' := (mkF m 9 #[.val (.int pp)] [(.int 73), (.int pp)])) (fun t k => XS.bipush X0.here hx rfl (hb hby d3_7) k) ?_
    by_cases hc9_2 : pp = (73 : Int32)
    · refine own_by (T' := s₁) (g' := (mkF m 54 #[.val (.int pp)] [])) (fun t k => XS.icmpYes X0.here hx rfl (pc0 := 9) (pc' := 54) rfl (hb hby d3_9) rfl (teq hc9_2).1 (by decide) (by decide) k) ?_
      refine own_by (T' := s₁) (g' := (mkF m 55 #[.val (.int pp)] [(.int 1)])) (fun t k => XS.iconst X0.here hx rfl (hb hby d3_54) k) ?_
      refine own_by (T' := s₁) (g' := (mkF m 59 #[.val (.int pp)] [(.int 1)])) (fun t k => XS.goto X0.here hx rfl (pc0 := 55) (pc' := 59) rfl (hb hby d3_55) (by decide) (by decide) k) ?_
      exact own_retN X0 hx (t := .boolean) Bd.notSynchronized Bd.returns (by simp) (hb hby d3_59) (by decide) (by decide) (by rw [e0]; exact ⟨by unfold own_cap; rw [if_neg hc3_1, if_pos hc9_2]; rfl, N_, rfl⟩)
    · refine own_by (T' := s₁) (g' := (mkF m 12 #[.val (.int pp)] [])) (fun t k => XS.icmpNo X0.here hx rfl (hb hby d3_9) rfl (feq hc9_2).1 k) ?_
      refine own_by (T' := s₁) (g' := (mkF m 13 #[.val (.int pp)] [(.int pp)])) (fun t k => XS.iloadN X0.here hx rfl (hb hby d3_12) rfl k) ?_
      refine own_by (T' := s₁) (g' := (mkF m 15 #[.val (.int pp)] [(.int 65), (.int pp)])) (fun t k => XS.bipush X0.here hx rfl (hb hby d3_13) k) ?_
      by_cases hc15_3 : pp = (65 : Int32)
      · refine own_by (T' := s₁) (g' := (mkF m 54 #[.val (.int pp)] [])) (fun t k => XS.icmpYes X0.here hx rfl (pc0 := 15) (pc' := 54) rfl (hb hby d3_15) rfl (teq hc15_3).1 (by decide) (by decide) k) ?_
        refine own_by (T' := s₁) (g' := (mkF m 55 #[.val (.int pp)] [(.int 1)])) (fun t k => XS.iconst X0.here hx rfl (hb hby d3_54) k) ?_
        refine own_by (T' := s₁) (g' := (mkF m 59 #[.val (.int pp)] [(.int 1)])) (fun t k => XS.goto X0.here hx rfl (pc0 := 55) (pc' := 59) rfl (hb hby d3_55) (by decide) (by decide) k) ?_
        exact own_retN X0 hx (t := .boolean) Bd.notSynchronized Bd.returns (by simp) (hb hby d3_59) (by decide) (by decide) (by rw [e0]; exact ⟨by unfold own_cap; rw [if_neg hc3_1, if_neg hc9_2, if_pos hc15_3]; rfl, N_, rfl⟩)
      · refine own_by (T' := s₁) (g' := (mkF m 18 #[.val (.int pp)] [])) (fun t k => XS.icmpNo X0.here hx rfl (hb hby d3_15) rfl (feq hc15_3).1 k) ?_
        refine own_by (T' := s₁) (g' := (mkF m 19 #[.val (.int pp)] [(.int pp)])) (fun t k => XS.iloadN X0.here hx rfl (hb hby d3_18) rfl k) ?_
        refine own_by (T' := s₁) (g' := (mkF m 21 #[.val (.int pp)] [(.int 83), (.int pp)])) (fun t k => XS.bipush X0.here hx rfl (hb hby d3_19) k) ?_
        by_cases hc21_4 : pp = (83 : Int32)
        · refine own_by (T' := s₁) (g' := (mkF m 54 #[.val (.int pp)] [])) (fun t k => XS.icmpYes X0.here hx rfl (pc0 := 21) (pc' := 54) rfl (hb hby d3_21) rfl (teq hc21_4).1 (by decide) (by decide) k) ?_
          refine own_by (T' := s₁) (g' := (mkF m 55 #[.val (.int pp)] [(.int 1)])) (fun t k => XS.iconst X0.here hx rfl (hb hby d3_54) k) ?_
          refine own_by (T' := s₁) (g' := (mkF m 59 #[.val (.int pp)] [(.int 1)])) (fun t k => XS.goto X0.here hx rfl (pc0 := 55) (pc' := 59) rfl (hb hby d3_55) (by decide) (by decide) k) ?_
          exact own_retN X0 hx (t := .boolean) Bd.notSynchronized Bd.returns (by simp) (hb hby d3_59) (by decide) (by decide) (by rw [e0]; exact ⟨by unfold own_cap; rw [if_neg hc3_1, if_neg hc9_2, if_neg hc15_3, if_pos hc21_4]; rfl, N_, rfl⟩)
        · refine own_by (T' := s₁) (g' := (mkF m 24 #[.val (.int pp)] [])) (fun t k => XS.icmpNo X0.here hx rfl (hb hby d3_21) rfl (feq hc21_4).1 k) ?_
          refine own_by (T' := s₁) (g' := (mkF m 25 #[.val (.int pp)] [(.int pp)])) (fun t k => XS.iloadN X0.here hx rfl (hb hby d3_24) rfl k) ?_
          refine own_by (T' := s₁) (g' := (mkF m 27 #[.val (.int pp)] [(.int 72), (.int pp)])) (fun t k => XS.bipush X0.here hx rfl (hb hby d3_25) k) ?_
          by_cases hc27_5 : pp = (72 : Int32)
          · refine own_by (T' := s₁) (g' := (mkF m 54 #[.val (.int pp)] [])) (fun t k => XS.icmpYes X0.here hx rfl (pc0 := 27) (pc' := 54) rfl (hb hby d3_27) rfl (teq hc27_5).1 (by decide) (by decide) k) ?_
            refine own_by (T' := s₁) (g' := (mkF m 55 #[.val (.int pp)] [(.int 1)])) (fun t k => XS.iconst X0.here hx rfl (hb hby d3_54) k) ?_
            refine own_by (T' := s₁) (g' := (mkF m 59 #[.val (.int pp)] [(.int 1)])) (fun t k => XS.goto X0.here hx rfl (pc0 := 55) (pc' := 59) rfl (hb hby d3_55) (by decide) (by decide) k) ?_
            exact own_retN X0 hx (t := .boolean) Bd.notSynchronized Bd.returns (by simp) (hb hby d3_59) (by decide) (by decide) (by rw [e0]; exact ⟨by unfold own_cap; rw [if_neg hc3_1, if_neg hc9_2, if_neg hc15_3, if_neg hc21_4, if_pos hc27_5]; rfl, N_, rfl⟩)
          · refine own_by (T' := s₁) (g' := (mkF m 30 #[.val (.int pp)] [])) (fun t k => XS.icmpNo X0.here hx rfl (hb hby d3_27) rfl (feq hc27_5).1 k) ?_
            refine own_by (T' := s₁) (g' := (mkF m 31 #[.val (.int pp)] [(.int pp)])) (fun t k => XS.iloadN X0.here hx rfl (hb hby d3_30) rfl k) ?_
            refine own_by (T' := s₁) (g' := (mkF m 33 #[.val (.int pp)] [(.int 87), (.int pp)])) (fun t k => XS.bipush X0.here hx rfl (hb hby d3_31) k) ?_
            by_cases hc33_6 : pp = (87 : Int32)
            · refine own_by (T' := s₁) (g' := (mkF m 54 #[.val (.int pp)] [])) (fun t k => XS.icmpYes X0.here hx rfl (pc0 := 33) (pc' := 54) rfl (hb hby d3_33) rfl (teq hc33_6).1 (by decide) (by decide) k) ?_
              refine own_by (T' := s₁) (g' := (mkF m 55 #[.val (.int pp)] [(.int 1)])) (fun t k => XS.iconst X0.here hx rfl (hb hby d3_54) k) ?_
              refine own_by (T' := s₁) (g' := (mkF m 59 #[.val (.int pp)] [(.int 1)])) (fun t k => XS.goto X0.here hx rfl (pc0 := 55) (pc' := 59) rfl (hb hby d3_55) (by decide) (by decide) k) ?_
              exact own_retN X0 hx (t := .boolean) Bd.notSynchronized Bd.returns (by simp) (hb hby d3_59) (by decide) (by decide) (by rw [e0]; exact ⟨by unfold own_cap; rw [if_neg hc3_1, if_neg hc9_2, if_neg hc15_3, if_neg hc21_4, if_neg hc27_5, if_pos hc33_6]; rfl, N_, rfl⟩)
            · refine own_by (T' := s₁) (g' := (mkF m 36 #[.val (.int pp)] [])) (fun t k => XS.icmpNo X0.here hx rfl (hb hby d3_33) rfl (feq hc33_6).1 k) ?_
              refine own_by (T' := s₁) (g' := (mkF m 37 #[.val (.int pp)] [(.int pp)])) (fun t k => XS.iloadN X0.here hx rfl (hb hby d3_36) rfl k) ?_
              refine own_by (T' := s₁) (g' := (mkF m 39 #[.val (.int pp)] [(.int 66), (.int pp)])) (fun t k => XS.bipush X0.here hx rfl (hb hby d3_37) k) ?_
              by_cases hc39_7 : pp = (66 : Int32)
              · refine own_by (T' := s₁) (g' := (mkF m 54 #[.val (.int pp)] [])) (fun t k => XS.icmpYes X0.here hx rfl (pc0 := 39) (pc' := 54) rfl (hb hby d3_39) rfl (teq hc39_7).1 (by decide) (by decide) k) ?_
                refine own_by (T' := s₁) (g' := (mkF m 55 #[.val (.int pp)] [(.int 1)])) (fun t k => XS.iconst X0.here hx rfl (hb hby d3_54) k) ?_
                refine own_by (T' := s₁) (g' := (mkF m 59 #[.val (.int pp)] [(.int 1)])) (fun t k => XS.goto X0.here hx rfl (pc0 := 55) (pc' := 59) rfl (hb hby d3_55) (by decide) (by decide) k) ?_
                exact own_retN X0 hx (t := .boolean) Bd.notSynchronized Bd.returns (by simp) (hb hby d3_59) (by decide) (by decide) (by rw [e0]; exact ⟨by unfold own_cap; rw [if_neg hc3_1, if_neg hc9_2, if_neg hc15_3, if_neg hc21_4, if_neg hc27_5, if_neg hc33_6, if_pos hc39_7]; rfl, N_, rfl⟩)
              · refine own_by (T' := s₁) (g' := (mkF m 42 #[.val (.int pp)] [])) (fun t k => XS.icmpNo X0.here hx rfl (hb hby d3_39) rfl (feq hc39_7).1 k) ?_
                refine own_by (T' := s₁) (g' := (mkF m 43 #[.val (.int pp)] [(.int pp)])) (fun t k => XS.iloadN X0.here hx rfl (hb hby d3_42) rfl k) ?_
                refine own_by (T' := s₁) (g' := (mkF m 45 #[.val (.int pp)] [(.int 77), (.int pp)])) (fun t k => XS.bipush X0.here hx rfl (hb hby d3_43) k) ?_
                by_cases hc45_8 : pp = (77 : Int32)
                · refine own_by (T' := s₁) (g' := (mkF m 54 #[.val (.int pp)] [])) (fun t k => XS.icmpYes X0.here hx rfl (pc0 := 45) (pc' := 54) rfl (hb hby d3_45) rfl (teq hc45_8).1 (by decide) (by decide) k) ?_
                  refine own_by (T' := s₁) (g' := (mkF m 55 #[.val (.int pp)] [(.int 1)])) (fun t k => XS.iconst X0.here hx rfl (hb hby d3_54) k) ?_
                  refine own_by (T' := s₁) (g' := (mkF m 59 #[.val (.int pp)] [(.int 1)])) (fun t k => XS.goto X0.here hx rfl (pc0 := 55) (pc' := 59) rfl (hb hby d3_55) (by decide) (by decide) k) ?_
                  exact own_retN X0 hx (t := .boolean) Bd.notSynchronized Bd.returns (by simp) (hb hby d3_59) (by decide) (by decide) (by rw [e0]; exact ⟨by unfold own_cap; rw [if_neg hc3_1, if_neg hc9_2, if_neg hc15_3, if_neg hc21_4, if_neg hc27_5, if_neg hc33_6, if_neg hc39_7, if_pos hc45_8]; rfl, N_, rfl⟩)
                · refine own_by (T' := s₁) (g' := (mkF m 48 #[.val (.int pp)] [])) (fun t k => XS.icmpNo X0.here hx rfl (hb hby d3_45) rfl (feq hc45_8).1 k) ?_
                  refine own_by (T' := s₁) (g' := (mkF m 49 #[.val (.int pp)] [(.int pp)])) (fun t k => XS.iloadN X0.here hx rfl (hb hby d3_48) rfl k) ?_
                  refine own_by (T' := s₁) (g' := (mkF m 51 #[.val (.int pp)] [(.int 67), (.int pp)])) (fun t k => XS.bipush X0.here hx rfl (hb hby d3_49) k) ?_
                  by_cases hc51_9 : pp = (67 : Int32)
                  · refine own_by (T' := s₁) (g' := (mkF m 54 #[.val (.int pp)] [])) (fun t k => XS.icmpNo X0.here hx rfl (hb hby d3_51) rfl (teq hc51_9).2 k) ?_
                    refine own_by (T' := s₁) (g' := (mkF m 55 #[.val (.int pp)] [(.int 1)])) (fun t k => XS.iconst X0.here hx rfl (hb hby d3_54) k) ?_
                    refine own_by (T' := s₁) (g' := (mkF m 59 #[.val (.int pp)] [(.int 1)])) (fun t k => XS.goto X0.here hx rfl (pc0 := 55) (pc' := 59) rfl (hb hby d3_55) (by decide) (by decide) k) ?_
                    exact own_retN X0 hx (t := .boolean) Bd.notSynchronized Bd.returns (by simp) (hb hby d3_59) (by decide) (by decide) (by rw [e0]; exact ⟨by unfold own_cap; rw [if_neg hc3_1, if_neg hc9_2, if_neg hc15_3, if_neg hc21_4, if_neg hc27_5, if_neg hc33_6, if_neg hc39_7, if_neg hc45_8, if_pos hc51_9]; rfl, N_, rfl⟩)
                  · refine own_by (T' := s₁) (g' := (mkF m 58 #[.val (.int pp)] [])) (fun t k => XS.icmpYes X0.here hx rfl (pc0 := 51) (pc' := 58) rfl (hb hby d3_51) rfl (feq hc51_9).2 (by decide) (by decide) k) ?_
                    refine own_by (T' := s₁) (g' := (mkF m 59 #[.val (.int pp)] [(.int 0)])) (fun t k => XS.iconst X0.here hx rfl (hb hby d3_58) k) ?_
                    exact own_retN X0 hx (t := .boolean) Bd.notSynchronized Bd.returns (by simp) (hb hby d3_59) (by decide) (by decide) (by rw [e0]; exact ⟨by unfold own_cap; rw [if_neg hc3_1, if_neg hc9_2, if_neg hc15_3, if_neg hc21_4, if_neg hc27_5, if_neg hc33_6, if_neg hc39_7, if_neg hc45_8, if_neg hc51_9]; rfl, N_, rfl⟩)

theorem ef_2 (m : MethodId) (pp : Int32) : entryFrame m #[(.int pp)] 1 = mkF m 0 #[.val (.int pp)] [] := by first | (simp [entryFrame, mkF, argsToLocals, Value.category]; done) | rfl
theorem d2_0 : decode method_4_code 0 = .ok (.iload_n 0, 1) := by decide +kernel
theorem d2_1 : decode method_4_code 1 = .ok (.sipush 128, 3) := by decide +kernel
theorem d2_4 : decode method_4_code 4 = .ok (.if_icmp .lt 5, 3) := by decide +kernel
theorem d2_9 : decode method_4_code 9 = .ok (.iload_n 0, 1) := by decide +kernel
theorem d2_10 : decode method_4_code 10 = .ok (.bipush 32, 2) := by decide +kernel
theorem d2_12 : decode method_4_code 12 = .ok (.if_icmp .ne 7, 3) := by decide +kernel
theorem d2_15 : decode method_4_code 15 = .ok (.sipush 1800, 3) := by decide +kernel
theorem d2_18 : decode method_4_code 18 = .ok (.ireturn, 1) := by decide +kernel
theorem d2_19 : decode method_4_code 19 = .ok (.iload_n 0, 1) := by decide +kernel
theorem d2_20 : decode method_4_code 20 = .ok (.bipush 101, 2) := by decide +kernel
theorem d2_22 : decode method_4_code 22 = .ok (.if_icmp .ne 7, 3) := by decide +kernel
theorem d2_25 : decode method_4_code 25 = .ok (.sipush 1000, 3) := by decide +kernel
theorem d2_28 : decode method_4_code 28 = .ok (.ireturn, 1) := by decide +kernel
theorem d2_29 : decode method_4_code 29 = .ok (.iload_n 0, 1) := by decide +kernel
theorem d2_30 : decode method_4_code 30 = .ok (.bipush 116, 2) := by decide +kernel
theorem d2_32 : decode method_4_code 32 = .ok (.if_icmp .ne 7, 3) := by decide +kernel
theorem d2_35 : decode method_4_code 35 = .ok (.sipush 700, 3) := by decide +kernel
theorem d2_38 : decode method_4_code 38 = .ok (.ireturn, 1) := by decide +kernel
theorem d2_39 : decode method_4_code 39 = .ok (.iload_n 0, 1) := by decide +kernel
theorem d2_40 : decode method_4_code 40 = .ok (.bipush 97, 2) := by decide +kernel
theorem d2_42 : decode method_4_code 42 = .ok (.if_icmp .eq 15, 3) := by decide +kernel
theorem d2_57 : decode method_4_code 57 = .ok (.sipush 600, 3) := by decide +kernel
theorem d2_60 : decode method_4_code 60 = .ok (.ireturn, 1) := by decide +kernel
theorem d2_45 : decode method_4_code 45 = .ok (.iload_n 0, 1) := by decide +kernel
theorem d2_46 : decode method_4_code 46 = .ok (.bipush 111, 2) := by decide +kernel
theorem d2_48 : decode method_4_code 48 = .ok (.if_icmp .eq 9, 3) := by decide +kernel
theorem d2_51 : decode method_4_code 51 = .ok (.iload_n 0, 1) := by decide +kernel
theorem d2_52 : decode method_4_code 52 = .ok (.bipush 105, 2) := by decide +kernel
theorem d2_54 : decode method_4_code 54 = .ok (.if_icmp .ne 7, 3) := by decide +kernel
theorem d2_61 : decode method_4_code 61 = .ok (.iload_n 0, 1) := by decide +kernel
theorem d2_62 : decode method_4_code 62 = .ok (.bipush 110, 2) := by decide +kernel
theorem d2_64 : decode method_4_code 64 = .ok (.if_icmp .eq 21, 3) := by decide +kernel
theorem d2_85 : decode method_4_code 85 = .ok (.sipush 500, 3) := by decide +kernel
theorem d2_88 : decode method_4_code 88 = .ok (.ireturn, 1) := by decide +kernel
theorem d2_67 : decode method_4_code 67 = .ok (.iload_n 0, 1) := by decide +kernel
theorem d2_68 : decode method_4_code 68 = .ok (.bipush 115, 2) := by decide +kernel
theorem d2_70 : decode method_4_code 70 = .ok (.if_icmp .eq 15, 3) := by decide +kernel
theorem d2_73 : decode method_4_code 73 = .ok (.iload_n 0, 1) := by decide +kernel
theorem d2_74 : decode method_4_code 74 = .ok (.bipush 104, 2) := by decide +kernel
theorem d2_76 : decode method_4_code 76 = .ok (.if_icmp .eq 9, 3) := by decide +kernel
theorem d2_79 : decode method_4_code 79 = .ok (.iload_n 0, 1) := by decide +kernel
theorem d2_80 : decode method_4_code 80 = .ok (.bipush 114, 2) := by decide +kernel
theorem d2_82 : decode method_4_code 82 = .ok (.if_icmp .ne 7, 3) := by decide +kernel
theorem d2_89 : decode method_4_code 89 = .ok (.iload_n 0, 1) := by decide +kernel
theorem d2_90 : decode method_4_code 90 = .ok (.bipush 100, 2) := by decide +kernel
theorem d2_92 : decode method_4_code 92 = .ok (.if_icmp .eq 9, 3) := by decide +kernel
theorem d2_101 : decode method_4_code 101 = .ok (.sipush 330, 3) := by decide +kernel
theorem d2_104 : decode method_4_code 104 = .ok (.ireturn, 1) := by decide +kernel
theorem d2_95 : decode method_4_code 95 = .ok (.iload_n 0, 1) := by decide +kernel
theorem d2_96 : decode method_4_code 96 = .ok (.bipush 108, 2) := by decide +kernel
theorem d2_98 : decode method_4_code 98 = .ok (.if_icmp .ne 7, 3) := by decide +kernel
theorem d2_105 : decode method_4_code 105 = .ok (.iload_n 0, 1) := by decide +kernel
theorem d2_106 : decode method_4_code 106 = .ok (.bipush 99, 2) := by decide +kernel
theorem d2_108 : decode method_4_code 108 = .ok (.if_icmp .eq 9, 3) := by decide +kernel
theorem d2_117 : decode method_4_code 117 = .ok (.sipush 220, 3) := by decide +kernel
theorem d2_120 : decode method_4_code 120 = .ok (.ireturn, 1) := by decide +kernel
theorem d2_111 : decode method_4_code 111 = .ok (.iload_n 0, 1) := by decide +kernel
theorem d2_112 : decode method_4_code 112 = .ok (.bipush 117, 2) := by decide +kernel
theorem d2_114 : decode method_4_code 114 = .ok (.if_icmp .ne 7, 3) := by decide +kernel
theorem d2_121 : decode method_4_code 121 = .ok (.iload_n 0, 1) := by decide +kernel
theorem d2_122 : decode method_4_code 122 = .ok (.bipush 109, 2) := by decide +kernel
theorem d2_124 : decode method_4_code 124 = .ok (.if_icmp .eq 33, 3) := by decide +kernel
theorem d2_157 : decode method_4_code 157 = .ok (.sipush 170, 3) := by decide +kernel
theorem d2_160 : decode method_4_code 160 = .ok (.ireturn, 1) := by decide +kernel
theorem d2_127 : decode method_4_code 127 = .ok (.iload_n 0, 1) := by decide +kernel
theorem d2_128 : decode method_4_code 128 = .ok (.bipush 119, 2) := by decide +kernel
theorem d2_130 : decode method_4_code 130 = .ok (.if_icmp .eq 27, 3) := by decide +kernel
theorem d2_133 : decode method_4_code 133 = .ok (.iload_n 0, 1) := by decide +kernel
theorem d2_134 : decode method_4_code 134 = .ok (.bipush 102, 2) := by decide +kernel
theorem d2_136 : decode method_4_code 136 = .ok (.if_icmp .eq 21, 3) := by decide +kernel
theorem d2_139 : decode method_4_code 139 = .ok (.iload_n 0, 1) := by decide +kernel
theorem d2_140 : decode method_4_code 140 = .ok (.bipush 103, 2) := by decide +kernel
theorem d2_142 : decode method_4_code 142 = .ok (.if_icmp .eq 15, 3) := by decide +kernel
theorem d2_145 : decode method_4_code 145 = .ok (.iload_n 0, 1) := by decide +kernel
theorem d2_146 : decode method_4_code 146 = .ok (.bipush 121, 2) := by decide +kernel
theorem d2_148 : decode method_4_code 148 = .ok (.if_icmp .eq 9, 3) := by decide +kernel
theorem d2_151 : decode method_4_code 151 = .ok (.iload_n 0, 1) := by decide +kernel
theorem d2_152 : decode method_4_code 152 = .ok (.bipush 112, 2) := by decide +kernel
theorem d2_154 : decode method_4_code 154 = .ok (.if_icmp .ne 7, 3) := by decide +kernel
theorem d2_161 : decode method_4_code 161 = .ok (.iload_n 0, 1) := by decide +kernel
theorem d2_162 : decode method_4_code 162 = .ok (.bipush 98, 2) := by decide +kernel
theorem d2_164 : decode method_4_code 164 = .ok (.if_icmp .eq 21, 3) := by decide +kernel
theorem d2_185 : decode method_4_code 185 = .ok (.bipush 120, 2) := by decide +kernel
theorem d2_187 : decode method_4_code 187 = .ok (.ireturn, 1) := by decide +kernel
theorem d2_167 : decode method_4_code 167 = .ok (.iload_n 0, 1) := by decide +kernel
theorem d2_168 : decode method_4_code 168 = .ok (.bipush 44, 2) := by decide +kernel
theorem d2_170 : decode method_4_code 170 = .ok (.if_icmp .eq 15, 3) := by decide +kernel
theorem d2_173 : decode method_4_code 173 = .ok (.iload_n 0, 1) := by decide +kernel
theorem d2_174 : decode method_4_code 174 = .ok (.bipush 46, 2) := by decide +kernel
theorem d2_176 : decode method_4_code 176 = .ok (.if_icmp .eq 9, 3) := by decide +kernel
theorem d2_179 : decode method_4_code 179 = .ok (.iload_n 0, 1) := by decide +kernel
theorem d2_180 : decode method_4_code 180 = .ok (.bipush 10, 2) := by decide +kernel
theorem d2_182 : decode method_4_code 182 = .ok (.if_icmp .ne 6, 3) := by decide +kernel
theorem d2_188 : decode method_4_code 188 = .ok (.iload_n 0, 1) := by decide +kernel
theorem d2_189 : decode method_4_code 189 = .ok (.bipush 118, 2) := by decide +kernel
theorem d2_191 : decode method_4_code 191 = .ok (.if_icmp .ne 6, 3) := by decide +kernel
theorem d2_194 : decode method_4_code 194 = .ok (.bipush 80, 2) := by decide +kernel
theorem d2_196 : decode method_4_code 196 = .ok (.ireturn, 1) := by decide +kernel
theorem d2_197 : decode method_4_code 197 = .ok (.iload_n 0, 1) := by decide +kernel
theorem d2_198 : decode method_4_code 198 = .ok (.bipush 107, 2) := by decide +kernel
theorem d2_200 : decode method_4_code 200 = .ok (.if_icmp .eq 9, 3) := by decide +kernel
theorem d2_209 : decode method_4_code 209 = .ok (.bipush 60, 2) := by decide +kernel
theorem d2_211 : decode method_4_code 211 = .ok (.ireturn, 1) := by decide +kernel
theorem d2_203 : decode method_4_code 203 = .ok (.iload_n 0, 1) := by decide +kernel
theorem d2_204 : decode method_4_code 204 = .ok (.bipush 13, 2) := by decide +kernel
theorem d2_206 : decode method_4_code 206 = .ok (.if_icmp .ne 6, 3) := by decide +kernel
theorem d2_212 : decode method_4_code 212 = .ok (.iload_n 0, 1) := by decide +kernel
theorem d2_213 : decode method_4_code 213 = .ok (.invokestatic 19, 3) := by decide +kernel
theorem pd_1 : parseMethodDescriptor "(C)Z" = some ⟨[.char], some .boolean⟩ := by decide +kernel
theorem d2_216 : decode method_4_code 216 = .ok (.ifCond .ne 39, 3) := by decide +kernel
theorem d2_219 : decode method_4_code 219 = .ok (.iload_n 0, 1) := by decide +kernel
theorem d2_220 : decode method_4_code 220 = .ok (.bipush 48, 2) := by decide +kernel
theorem d2_222 : decode method_4_code 222 = .ok (.if_icmp .lt 9, 3) := by decide +kernel
theorem d2_231 : decode method_4_code 231 = .ok (.iload_n 0, 1) := by decide +kernel
theorem d2_232 : decode method_4_code 232 = .ok (.bipush 45, 2) := by decide +kernel
theorem d2_234 : decode method_4_code 234 = .ok (.if_icmp .eq 21, 3) := by decide +kernel
theorem d2_255 : decode method_4_code 255 = .ok (.bipush 30, 2) := by decide +kernel
theorem d2_257 : decode method_4_code 257 = .ok (.ireturn, 1) := by decide +kernel
theorem d2_237 : decode method_4_code 237 = .ok (.iload_n 0, 1) := by decide +kernel
theorem d2_238 : decode method_4_code 238 = .ok (.bipush 39, 2) := by decide +kernel
theorem d2_240 : decode method_4_code 240 = .ok (.if_icmp .eq 15, 3) := by decide +kernel
theorem d2_243 : decode method_4_code 243 = .ok (.iload_n 0, 1) := by decide +kernel
theorem d2_244 : decode method_4_code 244 = .ok (.bipush 34, 2) := by decide +kernel
theorem d2_246 : decode method_4_code 246 = .ok (.if_icmp .eq 9, 3) := by decide +kernel
theorem d2_249 : decode method_4_code 249 = .ok (.iload_n 0, 1) := by decide +kernel
theorem d2_250 : decode method_4_code 250 = .ok (.bipush 9, 2) := by decide +kernel
theorem d2_252 : decode method_4_code 252 = .ok (.if_icmp .ne 6, 3) := by decide +kernel
theorem d2_258 : decode method_4_code 258 = .ok (.iload_n 0, 1) := by decide +kernel
theorem d2_259 : decode method_4_code 259 = .ok (.bipush 32, 2) := by decide +kernel
theorem d2_261 : decode method_4_code 261 = .ok (.if_icmp .lt 12, 3) := by decide +kernel
theorem d2_273 : decode method_4_code 273 = .ok (.iconst 0, 1) := by decide +kernel
theorem d2_274 : decode method_4_code 274 = .ok (.ireturn, 1) := by decide +kernel
theorem d2_264 : decode method_4_code 264 = .ok (.iload_n 0, 1) := by decide +kernel
theorem d2_265 : decode method_4_code 265 = .ok (.bipush 126, 2) := by decide +kernel
theorem d2_267 : decode method_4_code 267 = .ok (.if_icmp .gt 6, 3) := by decide +kernel
theorem d2_270 : decode method_4_code 270 = .ok (.bipush 10, 2) := by decide +kernel
theorem d2_272 : decode method_4_code 272 = .ok (.ireturn, 1) := by decide +kernel
theorem d2_225 : decode method_4_code 225 = .ok (.iload_n 0, 1) := by decide +kernel
theorem d2_226 : decode method_4_code 226 = .ok (.bipush 57, 2) := by decide +kernel
theorem d2_228 : decode method_4_code 228 = .ok (.if_icmp .le 27, 3) := by decide +kernel
theorem d2_7 : decode method_4_code 7 = .ok (.iconst 0, 1) := by decide +kernel
theorem d2_8 : decode method_4_code 8 = .ok (.ireturn, 1) := by decide +kernel
def Q2 (Z : State) (pp : Int32) (h0 : Heap) (n0 : Nat) (v : Option Value) (h : Heap) (L : List Loc) : Prop := v = some (.int (own_exp pp)) ∧ Fr n0 L ∧ h = h0
set_option maxRecDepth 65536 in
set_option maxHeartbeats 40000000 in
theorem rm2 (l : Launch) (Z : State) (a0 : Array Value) (hw : ∀ d ∈ tables_1, d.before a0 Z = true) (ws : List Jvm.Cond) (pp : Int32) (h0 : Heap) (n0 : Nat) (Zle : n0 ≤ h0.size) :
    MetFree l (⟨"com/example/emu/emu/CharFrequencyPerTenThousandPinLaw", "expected", "(C)I"⟩ : MethodName) (head1 (Jvm.Cond.code (⟨"com/example/emu/emu/CharFrequencyPerTenThousandPinLaw", "expected", "(C)I"⟩ : MethodName) method_4_code 1 (some .int) :: ws) ({ frames := 1, cells := 0, slots := 0, locals := 12 } : Room)) (fun a U => a = #[(.int pp)] ∧ Z.Warmed39 U.vm ∧ U.heap = h0) (fun _ _ _ _ _ => True) (fun _ U o U' => ∃ v L, o = .returned v ∧ Q2 Z pp h0 n0 v U'.heap L ∧ FrameEnd U o U' L ({ frames := 1, cells := 0, slots := 0, locals := 12 } : Room).cells ({ frames := 1, cells := 0, slots := 0, locals := 12 } : Room).slots) := by
  refine MetFree.of_bodySF (plainFor_of_name pn_com_example_emu_emu_CharFrequencyPerTenThousandPinLaw) hisR ?_
  intro p e s m args below meth c s₁ Bd hml0 hP hK
  obtain ⟨rfl, hZ, hh⟩ := hP
  have hx := Bd.exec
  have hby := Bd.bytes
  have hml : c.maxLocals = 1 := hml0
  have hown : s.vm.findClass "com/example/emu/emu/CharFrequencyPerTenThousandPinLaw" = some m.cls := findClass_of_methodNamed Bd.named
  have hnm := (name_of_methodNamed Bd.named Bd.method).1
  have X0 : Stand p l e ({ frames := 1, cells := 0, slots := 0, locals := 12 } : Room) s m #[(.int pp)] below meth c s₁ [] 0 0 := Stand.of_body Bd
  have e0 : s₁.heap = h0 := by rw [← hh, Bd.state]; rfl
  have N_ := Fr.nil n0
  show own_Goes p.tables e below s (Q2 Z pp h0 n0) ({ frames := 1, cells := 0, slots := 0, locals := 12 } : Room).cells ({ frames := 1, cells := 0, slots := 0, locals := 12 } : Room).slots s₁ (entryFrame m #[(.int pp)] 1)
  refine own_by (T' := s₁) (g' := (mkF m 0 #[.val (.int pp)] [])) (fun t k => castTop (ef_2 m pp) k) ?_
  refine own_by (T' := s₁) (g' := (mkF m 1 #[.val (.int pp)] [(.int pp)])) (fun t k => XS.iloadN X0.here hx rfl (hb hby d2_0) rfl k) ?_
  refine own_by (T' := s₁) (g' := (mkF m 4 #[.val (.int pp)] [(.int 128), (.int pp)])) (fun t k => XS.sipush X0.here hx rfl (hb hby d2_1) k) ?_
  by_cases hc4_1 : pp < (128 : Int32)
  · refine own_by (T' := s₁) (g' := (mkF m 9 #[.val (.int pp)] [])) (fun t k => XS.icmpYes X0.here hx rfl (pc0 := 4) (pc' := 9) rfl (hb hby d2_4) rfl (tlt hc4_1).1 (by decide) (by decide) k) ?_
    refine own_by (T' := s₁) (g' := (mkF m 10 #[.val (.int pp)] [(.int pp)])) (fun t k => XS.iloadN X0.here hx rfl (hb hby d2_9) rfl k) ?_
    refine own_by (T' := s₁) (g' := (mkF m 12 #[.val (.int pp)] [(.int 32), (.int pp)])) (fun t k => XS.bipush X0.here hx rfl (hb hby d2_10) k) ?_
    by_cases hc12_2 : pp = (32 : Int32)
    · refine own_by (T' := s₁) (g' := (mkF m 15 #[.val (.int pp)] [])) (fun t k => XS.icmpNo X0.here hx rfl (hb hby d2_12) rfl (teq hc12_2).2 k) ?_
      refine own_by (T' := s₁) (g' := (mkF m 18 #[.val (.int pp)] [(.int 1800)])) (fun t k => XS.sipush X0.here hx rfl (hb hby d2_15) k) ?_
      exact own_retI X0 hx Bd.notSynchronized Bd.returns (hb hby d2_18) (by decide) (by decide) (by rw [e0]; exact ⟨by unfold own_exp; rw [if_pos hc4_1, if_pos hc12_2], N_, rfl⟩)
    · refine own_by (T' := s₁) (g' := (mkF m 19 #[.val (.int pp)] [])) (fun t k => XS.icmpYes X0.here hx rfl (pc0 := 12) (pc' := 19) rfl (hb hby d2_12) rfl (feq hc12_2).2 (by decide) (by decide) k) ?_
      refine own_by (T' := s₁) (g' := (mkF m 20 #[.val (.int pp)] [(.int pp)])) (fun t k => XS.iloadN X0.here hx rfl (hb hby d2_19) rfl k) ?_
      refine own_by (T' := s₁) (g' := (mkF m 22 #[.val (.int pp)] [(.int 101), (.int pp)])) (fun t k => XS.bipush X0.here hx rfl (hb hby d2_20) k) ?_
      by_cases hc22_3 : pp = (101 : Int32)
      · refine own_by (T' := s₁) (g' := (mkF m 25 #[.val (.int pp)] [])) (fun t k => XS.icmpNo X0.here hx rfl (hb hby d2_22) rfl (teq hc22_3).2 k) ?_
        refine own_by (T' := s₁) (g' := (mkF m 28 #[.val (.int pp)] [(.int 1000)])) (fun t k => XS.sipush X0.here hx rfl (hb hby d2_25) k) ?_
        exact own_retI X0 hx Bd.notSynchronized Bd.returns (hb hby d2_28) (by decide) (by decide) (by rw [e0]; exact ⟨by unfold own_exp; rw [if_pos hc4_1, if_neg hc12_2, if_pos hc22_3], N_, rfl⟩)
      · refine own_by (T' := s₁) (g' := (mkF m 29 #[.val (.int pp)] [])) (fun t k => XS.icmpYes X0.here hx rfl (pc0 := 22) (pc' := 29) rfl (hb hby d2_22) rfl (feq hc22_3).2 (by decide) (by decide) k) ?_
        refine own_by (T' := s₁) (g' := (mkF m 30 #[.val (.int pp)] [(.int pp)])) (fun t k => XS.iloadN X0.here hx rfl (hb hby d2_29) rfl k) ?_
        refine own_by (T' := s₁) (g' := (mkF m 32 #[.val (.int pp)] [(.int 116), (.int pp)])) (fun t k => XS.bipush X0.here hx rfl (hb hby d2_30) k) ?_
        by_cases hc32_4 : pp = (116 : Int32)
        · refine own_by (T' := s₁) (g' := (mkF m 35 #[.val (.int pp)] [])) (fun t k => XS.icmpNo X0.here hx rfl (hb hby d2_32) rfl (teq hc32_4).2 k) ?_
          refine own_by (T' := s₁) (g' := (mkF m 38 #[.val (.int pp)] [(.int 700)])) (fun t k => XS.sipush X0.here hx rfl (hb hby d2_35) k) ?_
          exact own_retI X0 hx Bd.notSynchronized Bd.returns (hb hby d2_38) (by decide) (by decide) (by rw [e0]; exact ⟨by unfold own_exp; rw [if_pos hc4_1, if_neg hc12_2, if_neg hc22_3, if_pos hc32_4], N_, rfl⟩)
        · refine own_by (T' := s₁) (g' := (mkF m 39 #[.val (.int pp)] [])) (fun t k => XS.icmpYes X0.here hx rfl (pc0 := 32) (pc' := 39) rfl (hb hby d2_32) rfl (feq hc32_4).2 (by decide) (by decide) k) ?_
          refine own_by (T' := s₁) (g' := (mkF m 40 #[.val (.int pp)] [(.int pp)])) (fun t k => XS.iloadN X0.here hx rfl (hb hby d2_39) rfl k) ?_
          refine own_by (T' := s₁) (g' := (mkF m 42 #[.val (.int pp)] [(.int 97), (.int pp)])) (fun t k => XS.bipush X0.here hx rfl (hb hby d2_40) k) ?_
          by_cases hc42_5 : pp = (97 : Int32)
          · refine own_by (T' := s₁) (g' := (mkF m 57 #[.val (.int pp)] [])) (fun t k => XS.icmpYes X0.here hx rfl (pc0 := 42) (pc' := 57) rfl (hb hby d2_42) rfl (teq hc42_5).1 (by decide) (by decide) k) ?_
            refine own_by (T' := s₁) (g' := (mkF m 60 #[.val (.int pp)] [(.int 600)])) (fun t k => XS.sipush X0.here hx rfl (hb hby d2_57) k) ?_
            exact own_retI X0 hx Bd.notSynchronized Bd.returns (hb hby d2_60) (by decide) (by decide) (by rw [e0]; exact ⟨by unfold own_exp; rw [if_pos hc4_1, if_neg hc12_2, if_neg hc22_3, if_neg hc32_4, if_pos hc42_5], N_, rfl⟩)
          · refine own_by (T' := s₁) (g' := (mkF m 45 #[.val (.int pp)] [])) (fun t k => XS.icmpNo X0.here hx rfl (hb hby d2_42) rfl (feq hc42_5).1 k) ?_
            refine own_by (T' := s₁) (g' := (mkF m 46 #[.val (.int pp)] [(.int pp)])) (fun t k => XS.iloadN X0.here hx rfl (hb hby d2_45) rfl k) ?_
            refine own_by (T' := s₁) (g' := (mkF m 48 #[.val (.int pp)] [(.int 111), (.int pp)])) (fun t k => XS.bipush X0.here hx rfl (hb hby d2_46) k) ?_
            by_cases hc48_6 : pp = (111 : Int32)
            · refine own_by (T' := s₁) (g' := (mkF m 57 #[.val (.int pp)] [])) (fun t k => XS.icmpYes X0.here hx rfl (pc0 := 48) (pc' := 57) rfl (hb hby d2_48) rfl (teq hc48_6).1 (by decide) (by decide) k) ?_
              refine own_by (T' := s₁) (g' := (mkF m 60 #[.val (.int pp)] [(.int 600)])) (fun t k => XS.sipush X0.here hx rfl (hb hby d2_57) k) ?_
              exact own_retI X0 hx Bd.notSynchronized Bd.returns (hb hby d2_60) (by decide) (by decide) (by rw [e0]; exact ⟨by unfold own_exp; rw [if_pos hc4_1, if_neg hc12_2, if_neg hc22_3, if_neg hc32_4, if_neg hc42_5, if_pos hc48_6], N_, rfl⟩)
            · refine own_by (T' := s₁) (g' := (mkF m 51 #[.val (.int pp)] [])) (fun t k => XS.icmpNo X0.here hx rfl (hb hby d2_48) rfl (feq hc48_6).1 k) ?_
              refine own_by (T' := s₁) (g' := (mkF m 52 #[.val (.int pp)] [(.int pp)])) (fun t k => XS.iloadN X0.here hx rfl (hb hby d2_51) rfl k) ?_
              refine own_by (T' := s₁) (g' := (mkF m 54 #[.val (.int pp)] [(.int 105), (.int pp)])) (fun t k => XS.bipush X0.here hx rfl (hb hby d2_52) k) ?_
              by_cases hc54_7 : pp = (105 : Int32)
              · refine own_by (T' := s₁) (g' := (mkF m 57 #[.val (.int pp)] [])) (fun t k => XS.icmpNo X0.here hx rfl (hb hby d2_54) rfl (teq hc54_7).2 k) ?_
                refine own_by (T' := s₁) (g' := (mkF m 60 #[.val (.int pp)] [(.int 600)])) (fun t k => XS.sipush X0.here hx rfl (hb hby d2_57) k) ?_
                exact own_retI X0 hx Bd.notSynchronized Bd.returns (hb hby d2_60) (by decide) (by decide) (by rw [e0]; exact ⟨by unfold own_exp; rw [if_pos hc4_1, if_neg hc12_2, if_neg hc22_3, if_neg hc32_4, if_neg hc42_5, if_neg hc48_6, if_pos hc54_7], N_, rfl⟩)
              · refine own_by (T' := s₁) (g' := (mkF m 61 #[.val (.int pp)] [])) (fun t k => XS.icmpYes X0.here hx rfl (pc0 := 54) (pc' := 61) rfl (hb hby d2_54) rfl (feq hc54_7).2 (by decide) (by decide) k) ?_
                refine own_by (T' := s₁) (g' := (mkF m 62 #[.val (.int pp)] [(.int pp)])) (fun t k => XS.iloadN X0.here hx rfl (hb hby d2_61) rfl k) ?_
                refine own_by (T' := s₁) (g' := (mkF m 64 #[.val (.int pp)] [(.int 110), (.int pp)])) (fun t k => XS.bipush X0.here hx rfl (hb hby d2_62) k) ?_
                by_cases hc64_8 : pp = (110 : Int32)
                · refine own_by (T' := s₁) (g' := (mkF m 85 #[.val (.int pp)] [])) (fun t k => XS.icmpYes X0.here hx rfl (pc0 := 64) (pc' := 85) rfl (hb hby d2_64) rfl (teq hc64_8).1 (by decide) (by decide) k) ?_
                  refine own_by (T' := s₁) (g' := (mkF m 88 #[.val (.int pp)] [(.int 500)])) (fun t k => XS.sipush X0.here hx rfl (hb hby d2_85) k) ?_
                  exact own_retI X0 hx Bd.notSynchronized Bd.returns (hb hby d2_88) (by decide) (by decide) (by rw [e0]; exact ⟨by unfold own_exp; rw [if_pos hc4_1, if_neg hc12_2, if_neg hc22_3, if_neg hc32_4, if_neg hc42_5, if_neg hc48_6, if_neg hc54_7, if_pos hc64_8], N_, rfl⟩)
                · refine own_by (T' := s₁) (g' := (mkF m 67 #[.val (.int pp)] [])) (fun t k => XS.icmpNo X0.here hx rfl (hb hby d2_64) rfl (feq hc64_8).1 k) ?_
                  refine own_by (T' := s₁) (g' := (mkF m 68 #[.val (.int pp)] [(.int pp)])) (fun t k => XS.iloadN X0.here hx rfl (hb hby d2_67) rfl k) ?_
                  refine own_by (T' := s₁) (g' := (mkF m 70 #[.val (.int pp)] [(.int 115), (.int pp)])) (fun t k => XS.bipush X0.here hx rfl (hb hby d2_68) k) ?_
                  by_cases hc70_9 : pp = (115 : Int32)
                  · refine own_by (T' := s₁) (g' := (mkF m 85 #[.val (.int pp)] [])) (fun t k => XS.icmpYes X0.here hx rfl (pc0 := 70) (pc' := 85) rfl (hb hby d2_70) rfl (teq hc70_9).1 (by decide) (by decide) k) ?_
                    refine own_by (T' := s₁) (g' := (mkF m 88 #[.val (.int pp)] [(.int 500)])) (fun t k => XS.sipush X0.here hx rfl (hb hby d2_85) k) ?_
                    exact own_retI X0 hx Bd.notSynchronized Bd.returns (hb hby d2_88) (by decide) (by decide) (by rw [e0]; exact ⟨by unfold own_exp; rw [if_pos hc4_1, if_neg hc12_2, if_neg hc22_3, if_neg hc32_4, if_neg hc42_5, if_neg hc48_6, if_neg hc54_7, if_neg hc64_8, if_pos hc70_9], N_, rfl⟩)
                  · refine own_by (T' := s₁) (g' := (mkF m 73 #[.val (.int pp)] [])) (fun t k => XS.icmpNo X0.here hx rfl (hb hby d2_70) rfl (feq hc70_9).1 k) ?_
                    refine own_by (T' := s₁) (g' := (mkF m 74 #[.val (.int pp)] [(.int pp)])) (fun t k => XS.iloadN X0.here hx rfl (hb hby d2_73) rfl k) ?_
                    refine own_by (T' := s₁) (g' := (mkF m 76 #[.val (.int pp)] [(.int 104), (.int pp)])) (fun t k => XS.bipush X0.here hx rfl (hb hby d2_74) k) ?_
                    by_cases hc76_10 : pp = (104 : Int32)
                    · refine own_by (T' := s₁) (g' := (mkF m 85 #[.val (.int pp)] [])) (fun t k => XS.icmpYes X0.here hx rfl (pc0 := 76) (pc' := 85) rfl (hb hby d2_76) rfl (teq hc76_10).1 (by decide) (by decide) k) ?_
                      refine own_by (T' := s₁) (g' := (mkF m 88 #[.val (.int pp)] [(.int 500)])) (fun t k => XS.sipush X0.here hx rfl (hb hby d2_85) k) ?_
                      exact own_retI X0 hx Bd.notSynchronized Bd.returns (hb hby d2_88) (by decide) (by decide) (by rw [e0]; exact ⟨by unfold own_exp; rw [if_pos hc4_1, if_neg hc12_2, if_neg hc22_3, if_neg hc32_4, if_neg hc42_5, if_neg hc48_6, if_neg hc54_7, if_neg hc64_8, if_neg hc70_9, if_pos hc76_10], N_, rfl⟩)
                    · refine own_by (T' := s₁) (g' := (mkF m 79 #[.val (.int pp)] [])) (fun t k => XS.icmpNo X0.here hx rfl (hb hby d2_76) rfl (feq hc76_10).1 k) ?_
                      refine own_by (T' := s₁) (g' := (mkF m 80 #[.val (.int pp)] [(.int pp)])) (fun t k => XS.iloadN X0.here hx rfl (hb hby d2_79) rfl k) ?_
                      refine own_by (T' := s₁) (g' := (mkF m 82 #[.val (.int pp)] [(.int 114), (.int pp)])) (fun t k => XS.bipush X0.here hx rfl (hb hby d2_80) k) ?_
                      by_cases hc82_11 : pp = (114 : Int32)
                      · refine own_by (T' := s₁) (g' := (mkF m 85 #[.val (.int pp)] [])) (fun t k => XS.icmpNo X0.here hx rfl (hb hby d2_82) rfl (teq hc82_11).2 k) ?_
                        refine own_by (T' := s₁) (g' := (mkF m 88 #[.val (.int pp)] [(.int 500)])) (fun t k => XS.sipush X0.here hx rfl (hb hby d2_85) k) ?_
                        exact own_retI X0 hx Bd.notSynchronized Bd.returns (hb hby d2_88) (by decide) (by decide) (by rw [e0]; exact ⟨by unfold own_exp; rw [if_pos hc4_1, if_neg hc12_2, if_neg hc22_3, if_neg hc32_4, if_neg hc42_5, if_neg hc48_6, if_neg hc54_7, if_neg hc64_8, if_neg hc70_9, if_neg hc76_10, if_pos hc82_11], N_, rfl⟩)
                      · refine own_by (T' := s₁) (g' := (mkF m 89 #[.val (.int pp)] [])) (fun t k => XS.icmpYes X0.here hx rfl (pc0 := 82) (pc' := 89) rfl (hb hby d2_82) rfl (feq hc82_11).2 (by decide) (by decide) k) ?_
                        refine own_by (T' := s₁) (g' := (mkF m 90 #[.val (.int pp)] [(.int pp)])) (fun t k => XS.iloadN X0.here hx rfl (hb hby d2_89) rfl k) ?_
                        refine own_by (T' := s₁) (g' := (mkF m 92 #[.val (.int pp)] [(.int 100), (.int pp)])) (fun t k => XS.bipush X0.here hx rfl (hb hby d2_90) k) ?_
                        by_cases hc92_12 : pp = (100 : Int32)
                        · refine own_by (T' := s₁) (g' := (mkF m 101 #[.val (.int pp)] [])) (fun t k => XS.icmpYes X0.here hx rfl (pc0 := 92) (pc' := 101) rfl (hb hby d2_92) rfl (teq hc92_12).1 (by decide) (by decide) k) ?_
                          refine own_by (T' := s₁) (g' := (mkF m 104 #[.val (.int pp)] [(.int 330)])) (fun t k => XS.sipush X0.here hx rfl (hb hby d2_101) k) ?_
                          exact own_retI X0 hx Bd.notSynchronized Bd.returns (hb hby d2_104) (by decide) (by decide) (by rw [e0]; exact ⟨by unfold own_exp; rw [if_pos hc4_1, if_neg hc12_2, if_neg hc22_3, if_neg hc32_4, if_neg hc42_5, if_neg hc48_6, if_neg hc54_7, if_neg hc64_8, if_neg hc70_9, if_neg hc76_10, if_neg hc82_11, if_pos hc92_12], N_, rfl⟩)
                        · refine own_by (T' := s₁) (g' := (mkF m 95 #[.val (.int pp)] [])) (fun t k => XS.icmpNo X0.here hx rfl (hb hby d2_92) rfl (feq hc92_12).1 k) ?_
                          refine own_by (T' := s₁) (g' := (mkF m 96 #[.val (.int pp)] [(.int pp)])) (fun t k => XS.iloadN X0.here hx rfl (hb hby d2_95) rfl k) ?_
                          refine own_by (T' := s₁) (g' := (mkF m 98 #[.val (.int pp)] [(.int 108), (.int pp)])) (fun t k => XS.bipush X0.here hx rfl (hb hby d2_96) k) ?_
                          by_cases hc98_13 : pp = (108 : Int32)
                          · refine own_by (T' := s₁) (g' := (mkF m 101 #[.val (.int pp)] [])) (fun t k => XS.icmpNo X0.here hx rfl (hb hby d2_98) rfl (teq hc98_13).2 k) ?_
                            refine own_by (T' := s₁) (g' := (mkF m 104 #[.val (.int pp)] [(.int 330)])) (fun t k => XS.sipush X0.here hx rfl (hb hby d2_101) k) ?_
                            exact own_retI X0 hx Bd.notSynchronized Bd.returns (hb hby d2_104) (by decide) (by decide) (by rw [e0]; exact ⟨by unfold own_exp; rw [if_pos hc4_1, if_neg hc12_2, if_neg hc22_3, if_neg hc32_4, if_neg hc42_5, if_neg hc48_6, if_neg hc54_7, if_neg hc64_8, if_neg hc70_9, if_neg hc76_10, if_neg hc82_11, if_neg hc92_12, if_pos hc98_13], N_, rfl⟩)
                          · refine own_by (T' := s₁) (g' := (mkF m 105 #[.val (.int pp)] [])) (fun t k => XS.icmpYes X0.here hx rfl (pc0 := 98) (pc' := 105) rfl (hb hby d2_98) rfl (feq hc98_13).2 (by decide) (by decide) k) ?_
                            refine own_by (T' := s₁) (g' := (mkF m 106 #[.val (.int pp)] [(.int pp)])) (fun t k => XS.iloadN X0.here hx rfl (hb hby d2_105) rfl k) ?_
                            refine own_by (T' := s₁) (g' := (mkF m 108 #[.val (.int pp)] [(.int 99), (.int pp)])) (fun t k => XS.bipush X0.here hx rfl (hb hby d2_106) k) ?_
                            by_cases hc108_14 : pp = (99 : Int32)
                            · refine own_by (T' := s₁) (g' := (mkF m 117 #[.val (.int pp)] [])) (fun t k => XS.icmpYes X0.here hx rfl (pc0 := 108) (pc' := 117) rfl (hb hby d2_108) rfl (teq hc108_14).1 (by decide) (by decide) k) ?_
                              refine own_by (T' := s₁) (g' := (mkF m 120 #[.val (.int pp)] [(.int 220)])) (fun t k => XS.sipush X0.here hx rfl (hb hby d2_117) k) ?_
                              exact own_retI X0 hx Bd.notSynchronized Bd.returns (hb hby d2_120) (by decide) (by decide) (by rw [e0]; exact ⟨by unfold own_exp; rw [if_pos hc4_1, if_neg hc12_2, if_neg hc22_3, if_neg hc32_4, if_neg hc42_5, if_neg hc48_6, if_neg hc54_7, if_neg hc64_8, if_neg hc70_9, if_neg hc76_10, if_neg hc82_11, if_neg hc92_12, if_neg hc98_13, if_pos hc108_14], N_, rfl⟩)
                            · refine own_by (T' := s₁) (g' := (mkF m 111 #[.val (.int pp)] [])) (fun t k => XS.icmpNo X0.here hx rfl (hb hby d2_108) rfl (feq hc108_14).1 k) ?_
                              refine own_by (T' := s₁) (g' := (mkF m 112 #[.val (.int pp)] [(.int pp)])) (fun t k => XS.iloadN X0.here hx rfl (hb hby d2_111) rfl k) ?_
                              refine own_by (T' := s₁) (g' := (mkF m 114 #[.val (.int pp)] [(.int 117), (.int pp)])) (fun t k => XS.bipush X0.here hx rfl (hb hby d2_112) k) ?_
                              by_cases hc114_15 : pp = (117 : Int32)
                              · refine own_by (T' := s₁) (g' := (mkF m 117 #[.val (.int pp)] [])) (fun t k => XS.icmpNo X0.here hx rfl (hb hby d2_114) rfl (teq hc114_15).2 k) ?_
                                refine own_by (T' := s₁) (g' := (mkF m 120 #[.val (.int pp)] [(.int 220)])) (fun t k => XS.sipush X0.here hx rfl (hb hby d2_117) k) ?_
                                exact own_retI X0 hx Bd.notSynchronized Bd.returns (hb hby d2_120) (by decide) (by decide) (by rw [e0]; exact ⟨by unfold own_exp; rw [if_pos hc4_1, if_neg hc12_2, if_neg hc22_3, if_neg hc32_4, if_neg hc42_5, if_neg hc48_6, if_neg hc54_7, if_neg hc64_8, if_neg hc70_9, if_neg hc76_10, if_neg hc82_11, if_neg hc92_12, if_neg hc98_13, if_neg hc108_14, if_pos hc114_15], N_, rfl⟩)
                              · refine own_by (T' := s₁) (g' := (mkF m 121 #[.val (.int pp)] [])) (fun t k => XS.icmpYes X0.here hx rfl (pc0 := 114) (pc' := 121) rfl (hb hby d2_114) rfl (feq hc114_15).2 (by decide) (by decide) k) ?_
                                refine own_by (T' := s₁) (g' := (mkF m 122 #[.val (.int pp)] [(.int pp)])) (fun t k => XS.iloadN X0.here hx rfl (hb hby d2_121) rfl k) ?_
                                refine own_by (T' := s₁) (g' := (mkF m 124 #[.val (.int pp)] [(.int 109), (.int pp)])) (fun t k => XS.bipush X0.here hx rfl (hb hby d2_122) k) ?_
                                by_cases hc124_16 : pp = (109 : Int32)
                                · refine own_by (T' := s₁) (g' := (mkF m 157 #[.val (.int pp)] [])) (fun t k => XS.icmpYes X0.here hx rfl (pc0 := 124) (pc' := 157) rfl (hb hby d2_124) rfl (teq hc124_16).1 (by decide) (by decide) k) ?_
                                  refine own_by (T' := s₁) (g' := (mkF m 160 #[.val (.int pp)] [(.int 170)])) (fun t k => XS.sipush X0.here hx rfl (hb hby d2_157) k) ?_
                                  exact own_retI X0 hx Bd.notSynchronized Bd.returns (hb hby d2_160) (by decide) (by decide) (by rw [e0]; exact ⟨by unfold own_exp; rw [if_pos hc4_1, if_neg hc12_2, if_neg hc22_3, if_neg hc32_4, if_neg hc42_5, if_neg hc48_6, if_neg hc54_7, if_neg hc64_8, if_neg hc70_9, if_neg hc76_10, if_neg hc82_11, if_neg hc92_12, if_neg hc98_13, if_neg hc108_14, if_neg hc114_15, if_pos hc124_16], N_, rfl⟩)
                                · refine own_by (T' := s₁) (g' := (mkF m 127 #[.val (.int pp)] [])) (fun t k => XS.icmpNo X0.here hx rfl (hb hby d2_124) rfl (feq hc124_16).1 k) ?_
                                  refine own_by (T' := s₁) (g' := (mkF m 128 #[.val (.int pp)] [(.int pp)])) (fun t k => XS.iloadN X0.here hx rfl (hb hby d2_127) rfl k) ?_
                                  refine own_by (T' := s₁) (g' := (mkF m 130 #[.val (.int pp)] [(.int 119), (.int pp)])) (fun t k => XS.bipush X0.here hx rfl (hb hby d2_128) k) ?_
                                  by_cases hc130_17 : pp = (119 : Int32)
                                  · refine own_by (T' := s₁) (g' := (mkF m 157 #[.val (.int pp)] [])) (fun t k => XS.icmpYes X0.here hx rfl (pc0 := 130) (pc' := 157) rfl (hb hby d2_130) rfl (teq hc130_17).1 (by decide) (by decide) k) ?_
                                    refine own_by (T' := s₁) (g' := (mkF m 160 #[.val (.int pp)] [(.int 170)])) (fun t k => XS.sipush X0.here hx rfl (hb hby d2_157) k) ?_
                                    exact own_retI X0 hx Bd.notSynchronized Bd.returns (hb hby d2_160) (by decide) (by decide) (by rw [e0]; exact ⟨by unfold own_exp; rw [if_pos hc4_1, if_neg hc12_2, if_neg hc22_3, if_neg hc32_4, if_neg hc42_5, if_neg hc48_6, if_neg hc54_7, if_neg hc64_8, if_neg hc70_9, if_neg hc76_10, if_neg hc82_11, if_neg hc92_12, if_neg hc98_13, if_neg hc108_14, if_neg hc114_15, if_neg hc124_16, if_pos hc130_17], N_, rfl⟩)
                                  · refine own_by (T' := s₁) (g' := (mkF m 133 #[.val (.int pp)] [])) (fun t k => XS.icmpNo X0.here hx rfl (hb hby d2_130) rfl (feq hc130_17).1 k) ?_
                                    refine own_by (T' := s₁) (g' := (mkF m 134 #[.val (.int pp)] [(.int pp)])) (fun t k => XS.iloadN X0.here hx rfl (hb hby d2_133) rfl k) ?_
                                    refine own_by (T' := s₁) (g' := (mkF m 136 #[.val (.int pp)] [(.int 102), (.int pp)])) (fun t k => XS.bipush X0.here hx rfl (hb hby d2_134) k) ?_
                                    by_cases hc136_18 : pp = (102 : Int32)
                                    · refine own_by (T' := s₁) (g' := (mkF m 157 #[.val (.int pp)] [])) (fun t k => XS.icmpYes X0.here hx rfl (pc0 := 136) (pc' := 157) rfl (hb hby d2_136) rfl (teq hc136_18).1 (by decide) (by decide) k) ?_
                                      refine own_by (T' := s₁) (g' := (mkF m 160 #[.val (.int pp)] [(.int 170)])) (fun t k => XS.sipush X0.here hx rfl (hb hby d2_157) k) ?_
                                      exact own_retI X0 hx Bd.notSynchronized Bd.returns (hb hby d2_160) (by decide) (by decide) (by rw [e0]; exact ⟨by unfold own_exp; rw [if_pos hc4_1, if_neg hc12_2, if_neg hc22_3, if_neg hc32_4, if_neg hc42_5, if_neg hc48_6, if_neg hc54_7, if_neg hc64_8, if_neg hc70_9, if_neg hc76_10, if_neg hc82_11, if_neg hc92_12, if_neg hc98_13, if_neg hc108_14, if_neg hc114_15, if_neg hc124_16, if_neg hc130_17, if_pos hc136_18], N_, rfl⟩)
                                    · refine own_by (T' := s₁) (g' := (mkF m 139 #[.val (.int pp)] [])) (fun t k => XS.icmpNo X0.here hx rfl (hb hby d2_136) rfl (feq hc136_18).1 k) ?_
                                      refine own_by (T' := s₁) (g' := (mkF m 140 #[.val (.int pp)] [(.int pp)])) (fun t k => XS.iloadN X0.here hx rfl (hb hby d2_139) rfl k) ?_
                                      refine own_by (T' := s₁) (g' := (mkF m 142 #[.val (.int pp)] [(.int 103), (.int pp)])) (fun t k => XS.bipush X0.here hx rfl (hb hby d2_140) k) ?_
                                      by_cases hc142_19 : pp = (103 : Int32)
                                      · refine own_by (T' := s₁) (g' := (mkF m 157 #[.val (.int pp)] [])) (fun t k => XS.icmpYes X0.here hx rfl (pc0 := 142) (pc' := 157) rfl (hb hby d2_142) rfl (teq hc142_19).1 (by decide) (by decide) k) ?_
                                        refine own_by (T' := s₁) (g' := (mkF m 160 #[.val (.int pp)] [(.int 170)])) (fun t k => XS.sipush X0.here hx rfl (hb hby d2_157) k) ?_
                                        exact own_retI X0 hx Bd.notSynchronized Bd.returns (hb hby d2_160) (by decide) (by decide) (by rw [e0]; exact ⟨by unfold own_exp; rw [if_pos hc4_1, if_neg hc12_2, if_neg hc22_3, if_neg hc32_4, if_neg hc42_5, if_neg hc48_6, if_neg hc54_7, if_neg hc64_8, if_neg hc70_9, if_neg hc76_10, if_neg hc82_11, if_neg hc92_12, if_neg hc98_13, if_neg hc108_14, if_neg hc114_15, if_neg hc124_16, if_neg hc130_17, if_neg hc136_18, if_pos hc142_19], N_, rfl⟩)
                                      · refine own_by (T' := s₁) (g' := (mkF m 145 #[.val (.int pp)] [])) (fun t k => XS.icmpNo X0.here hx rfl (hb hby d2_142) rfl (feq hc142_19).1 k) ?_
                                        refine own_by (T' := s₁) (g' := (mkF m 146 #[.val (.int pp)] [(.int pp)])) (fun t k => XS.iloadN X0.here hx rfl (hb hby d2_145) rfl k) ?_
                                        refine own_by (T' := s₁) (g' := (mkF m 148 #[.val (.int pp)] [(.int 121), (.int pp)])) (fun t k => XS.bipush X0.here hx rfl (hb hby d2_146) k) ?_
                                        by_cases hc148_20 : pp = (121 : Int32)
                                        · refine own_by (T' := s₁) (g' := (mkF m 157 #[.val (.int pp)] [])) (fun t k => XS.icmpYes X0.here hx rfl (pc0 := 148) (pc' := 157) rfl (hb hby d2_148) rfl (teq hc148_20).1 (by decide) (by decide) k) ?_
                                          refine own_by (T' := s₁) (g' := (mkF m 160 #[.val (.int pp)] [(.int 170)])) (fun t k => XS.sipush X0.here hx rfl (hb hby d2_157) k) ?_
                                          exact own_retI X0 hx Bd.notSynchronized Bd.returns (hb hby d2_160) (by decide) (by decide) (by rw [e0]; exact ⟨by unfold own_exp; rw [if_pos hc4_1, if_neg hc12_2, if_neg hc22_3, if_neg hc32_4, if_neg hc42_5, if_neg hc48_6, if_neg hc54_7, if_neg hc64_8, if_neg hc70_9, if_neg hc76_10, if_neg hc82_11, if_neg hc92_12, if_neg hc98_13, if_neg hc108_14, if_neg hc114_15, if_neg hc124_16, if_neg hc130_17, if_neg hc136_18, if_neg hc142_19, if_pos hc148_20], N_, rfl⟩)
                                        · refine own_by (T' := s₁) (g' := (mkF m 151 #[.val (.int pp)] [])) (fun t k => XS.icmpNo X0.here hx rfl (hb hby d2_148) rfl (feq hc148_20).1 k) ?_
                                          refine own_by (T' := s₁) (g' := (mkF m 152 #[.val (.int pp)] [(.int pp)])) (fun t k => XS.iloadN X0.here hx rfl (hb hby d2_151) rfl k) ?_
                                          refine own_by (T' := s₁) (g' := (mkF m 154 #[.val (.int pp)] [(.int 112), (.int pp)])) (fun t k => XS.bipush X0.here hx rfl (hb hby d2_152) k) ?_
                                          by_cases hc154_21 : pp = (112 : Int32)
                                          · refine own_by (T' := s₁) (g' := (mkF m 157 #[.val (.int pp)] [])) (fun t k => XS.icmpNo X0.here hx rfl (hb hby d2_154) rfl (teq hc154_21).2 k) ?_
                                            refine own_by (T' := s₁) (g' := (mkF m 160 #[.val (.int pp)] [(.int 170)])) (fun t k => XS.sipush X0.here hx rfl (hb hby d2_157) k) ?_
                                            exact own_retI X0 hx Bd.notSynchronized Bd.returns (hb hby d2_160) (by decide) (by decide) (by rw [e0]; exact ⟨by unfold own_exp; rw [if_pos hc4_1, if_neg hc12_2, if_neg hc22_3, if_neg hc32_4, if_neg hc42_5, if_neg hc48_6, if_neg hc54_7, if_neg hc64_8, if_neg hc70_9, if_neg hc76_10, if_neg hc82_11, if_neg hc92_12, if_neg hc98_13, if_neg hc108_14, if_neg hc114_15, if_neg hc124_16, if_neg hc130_17, if_neg hc136_18, if_neg hc142_19, if_neg hc148_20, if_pos hc154_21], N_, rfl⟩)
                                          · refine own_by (T' := s₁) (g' := (mkF m 161 #[.val (.int pp)] [])) (fun t k => XS.icmpYes X0.here hx rfl (pc0 := 154) (pc' := 161) rfl (hb hby d2_154) rfl (feq hc154_21).2 (by decide) (by decide) k) ?_
                                            refine own_by (T' := s₁) (g' := (mkF m 162 #[.val (.int pp)] [(.int pp)])) (fun t k => XS.iloadN X0.here hx rfl (hb hby d2_161) rfl k) ?_
                                            refine own_by (T' := s₁) (g' := (mkF m 164 #[.val (.int pp)] [(.int 98), (.int pp)])) (fun t k => XS.bipush X0.here hx rfl (hb hby d2_162) k) ?_
                                            by_cases hc164_22 : pp = (98 : Int32)
                                            · refine own_by (T' := s₁) (g' := (mkF m 185 #[.val (.int pp)] [])) (fun t k => XS.icmpYes X0.here hx rfl (pc0 := 164) (pc' := 185) rfl (hb hby d2_164) rfl (teq hc164_22).1 (by decide) (by decide) k) ?_
                                              refine own_by (T' := s₁) (g' := (mkF m 187 #[.val (.int pp)] [(.int 120)])) (fun t k => XS.bipush X0.here hx rfl (hb hby d2_185) k) ?_
                                              exact own_retI X0 hx Bd.notSynchronized Bd.returns (hb hby d2_187) (by decide) (by decide) (by rw [e0]; exact ⟨by unfold own_exp; rw [if_pos hc4_1, if_neg hc12_2, if_neg hc22_3, if_neg hc32_4, if_neg hc42_5, if_neg hc48_6, if_neg hc54_7, if_neg hc64_8, if_neg hc70_9, if_neg hc76_10, if_neg hc82_11, if_neg hc92_12, if_neg hc98_13, if_neg hc108_14, if_neg hc114_15, if_neg hc124_16, if_neg hc130_17, if_neg hc136_18, if_neg hc142_19, if_neg hc148_20, if_neg hc154_21, if_pos hc164_22], N_, rfl⟩)
                                            · refine own_by (T' := s₁) (g' := (mkF m 167 #[.val (.int pp)] [])) (fun t k => XS.icmpNo X0.here hx rfl (hb hby d2_164) rfl (feq hc164_22).1 k) ?_
                                              refine own_by (T' := s₁) (g' := (mkF m 168 #[.val (.int pp)] [(.int pp)])) (fun t k => XS.iloadN X0.here hx rfl (hb hby d2_167) rfl k) ?_
                                              refine own_by (T' := s₁) (g' := (mkF m 170 #[.val (.int pp)] [(.int 44), (.int pp)])) (fun t k => XS.bipush X0.here hx rfl (hb hby d2_168) k) ?_
                                              by_cases hc170_23 : pp = (44 : Int32)
                                              · refine own_by (T' := s₁) (g' := (mkF m 185 #[.val (.int pp)] [])) (fun t k => XS.icmpYes X0.here hx rfl (pc0 := 170) (pc' := 185) rfl (hb hby d2_170) rfl (teq hc170_23).1 (by decide) (by decide) k) ?_
                                                refine own_by (T' := s₁) (g' := (mkF m 187 #[.val (.int pp)] [(.int 120)])) (fun t k => XS.bipush X0.here hx rfl (hb hby d2_185) k) ?_
                                                exact own_retI X0 hx Bd.notSynchronized Bd.returns (hb hby d2_187) (by decide) (by decide) (by rw [e0]; exact ⟨by unfold own_exp; rw [if_pos hc4_1, if_neg hc12_2, if_neg hc22_3, if_neg hc32_4, if_neg hc42_5, if_neg hc48_6, if_neg hc54_7, if_neg hc64_8, if_neg hc70_9, if_neg hc76_10, if_neg hc82_11, if_neg hc92_12, if_neg hc98_13, if_neg hc108_14, if_neg hc114_15, if_neg hc124_16, if_neg hc130_17, if_neg hc136_18, if_neg hc142_19, if_neg hc148_20, if_neg hc154_21, if_neg hc164_22, if_pos hc170_23], N_, rfl⟩)
                                              · refine own_by (T' := s₁) (g' := (mkF m 173 #[.val (.int pp)] [])) (fun t k => XS.icmpNo X0.here hx rfl (hb hby d2_170) rfl (feq hc170_23).1 k) ?_
                                                refine own_by (T' := s₁) (g' := (mkF m 174 #[.val (.int pp)] [(.int pp)])) (fun t k => XS.iloadN X0.here hx rfl (hb hby d2_173) rfl k) ?_
                                                refine own_by (T' := s₁) (g' := (mkF m 176 #[.val (.int pp)] [(.int 46), (.int pp)])) (fun t k => XS.bipush X0.here hx rfl (hb hby d2_174) k) ?_
                                                by_cases hc176_24 : pp = (46 : Int32)
                                                · refine own_by (T' := s₁) (g' := (mkF m 185 #[.val (.int pp)] [])) (fun t k => XS.icmpYes X0.here hx rfl (pc0 := 176) (pc' := 185) rfl (hb hby d2_176) rfl (teq hc176_24).1 (by decide) (by decide) k) ?_
                                                  refine own_by (T' := s₁) (g' := (mkF m 187 #[.val (.int pp)] [(.int 120)])) (fun t k => XS.bipush X0.here hx rfl (hb hby d2_185) k) ?_
                                                  exact own_retI X0 hx Bd.notSynchronized Bd.returns (hb hby d2_187) (by decide) (by decide) (by rw [e0]; exact ⟨by unfold own_exp; rw [if_pos hc4_1, if_neg hc12_2, if_neg hc22_3, if_neg hc32_4, if_neg hc42_5, if_neg hc48_6, if_neg hc54_7, if_neg hc64_8, if_neg hc70_9, if_neg hc76_10, if_neg hc82_11, if_neg hc92_12, if_neg hc98_13, if_neg hc108_14, if_neg hc114_15, if_neg hc124_16, if_neg hc130_17, if_neg hc136_18, if_neg hc142_19, if_neg hc148_20, if_neg hc154_21, if_neg hc164_22, if_neg hc170_23, if_pos hc176_24], N_, rfl⟩)
                                                · refine own_by (T' := s₁) (g' := (mkF m 179 #[.val (.int pp)] [])) (fun t k => XS.icmpNo X0.here hx rfl (hb hby d2_176) rfl (feq hc176_24).1 k) ?_
                                                  refine own_by (T' := s₁) (g' := (mkF m 180 #[.val (.int pp)] [(.int pp)])) (fun t k => XS.iloadN X0.here hx rfl (hb hby d2_179) rfl k) ?_
                                                  refine own_by (T' := s₁) (g' := (mkF m 182 #[.val (.int pp)] [(.int 10), (.int pp)])) (fun t k => XS.bipush X0.here hx rfl (hb hby d2_180) k) ?_
                                                  by_cases hc182_25 : pp = (10 : Int32)
                                                  · refine own_by (T' := s₁) (g' := (mkF m 185 #[.val (.int pp)] [])) (fun t k => XS.icmpNo X0.here hx rfl (hb hby d2_182) rfl (teq hc182_25).2 k) ?_
                                                    refine own_by (T' := s₁) (g' := (mkF m 187 #[.val (.int pp)] [(.int 120)])) (fun t k => XS.bipush X0.here hx rfl (hb hby d2_185) k) ?_
                                                    exact own_retI X0 hx Bd.notSynchronized Bd.returns (hb hby d2_187) (by decide) (by decide) (by rw [e0]; exact ⟨by unfold own_exp; rw [if_pos hc4_1, if_neg hc12_2, if_neg hc22_3, if_neg hc32_4, if_neg hc42_5, if_neg hc48_6, if_neg hc54_7, if_neg hc64_8, if_neg hc70_9, if_neg hc76_10, if_neg hc82_11, if_neg hc92_12, if_neg hc98_13, if_neg hc108_14, if_neg hc114_15, if_neg hc124_16, if_neg hc130_17, if_neg hc136_18, if_neg hc142_19, if_neg hc148_20, if_neg hc154_21, if_neg hc164_22, if_neg hc170_23, if_neg hc176_24, if_pos hc182_25], N_, rfl⟩)
                                                  · refine own_by (T' := s₁) (g' := (mkF m 188 #[.val (.int pp)] [])) (fun t k => XS.icmpYes X0.here hx rfl (pc0 := 182) (pc' := 188) rfl (hb hby d2_182) rfl (feq hc182_25).2 (by decide) (by decide) k) ?_
                                                    refine own_by (T' := s₁) (g' := (mkF m 189 #[.val (.int pp)] [(.int pp)])) (fun t k => XS.iloadN X0.here hx rfl (hb hby d2_188) rfl k) ?_
                                                    refine own_by (T' := s₁) (g' := (mkF m 191 #[.val (.int pp)] [(.int 118), (.int pp)])) (fun t k => XS.bipush X0.here hx rfl (hb hby d2_189) k) ?_
                                                    by_cases hc191_26 : pp = (118 : Int32)
                                                    · refine own_by (T' := s₁) (g' := (mkF m 194 #[.val (.int pp)] [])) (fun t k => XS.icmpNo X0.here hx rfl (hb hby d2_191) rfl (teq hc191_26).2 k) ?_
                                                      refine own_by (T' := s₁) (g' := (mkF m 196 #[.val (.int pp)] [(.int 80)])) (fun t k => XS.bipush X0.here hx rfl (hb hby d2_194) k) ?_
                                                      exact own_retI X0 hx Bd.notSynchronized Bd.returns (hb hby d2_196) (by decide) (by decide) (by rw [e0]; exact ⟨by unfold own_exp; rw [if_pos hc4_1, if_neg hc12_2, if_neg hc22_3, if_neg hc32_4, if_neg hc42_5, if_neg hc48_6, if_neg hc54_7, if_neg hc64_8, if_neg hc70_9, if_neg hc76_10, if_neg hc82_11, if_neg hc92_12, if_neg hc98_13, if_neg hc108_14, if_neg hc114_15, if_neg hc124_16, if_neg hc130_17, if_neg hc136_18, if_neg hc142_19, if_neg hc148_20, if_neg hc154_21, if_neg hc164_22, if_neg hc170_23, if_neg hc176_24, if_neg hc182_25, if_pos hc191_26], N_, rfl⟩)
                                                    · refine own_by (T' := s₁) (g' := (mkF m 197 #[.val (.int pp)] [])) (fun t k => XS.icmpYes X0.here hx rfl (pc0 := 191) (pc' := 197) rfl (hb hby d2_191) rfl (feq hc191_26).2 (by decide) (by decide) k) ?_
                                                      refine own_by (T' := s₁) (g' := (mkF m 198 #[.val (.int pp)] [(.int pp)])) (fun t k => XS.iloadN X0.here hx rfl (hb hby d2_197) rfl k) ?_
                                                      refine own_by (T' := s₁) (g' := (mkF m 200 #[.val (.int pp)] [(.int 107), (.int pp)])) (fun t k => XS.bipush X0.here hx rfl (hb hby d2_198) k) ?_
                                                      by_cases hc200_27 : pp = (107 : Int32)
                                                      · refine own_by (T' := s₁) (g' := (mkF m 209 #[.val (.int pp)] [])) (fun t k => XS.icmpYes X0.here hx rfl (pc0 := 200) (pc' := 209) rfl (hb hby d2_200) rfl (teq hc200_27).1 (by decide) (by decide) k) ?_
                                                        refine own_by (T' := s₁) (g' := (mkF m 211 #[.val (.int pp)] [(.int 60)])) (fun t k => XS.bipush X0.here hx rfl (hb hby d2_209) k) ?_
                                                        exact own_retI X0 hx Bd.notSynchronized Bd.returns (hb hby d2_211) (by decide) (by decide) (by rw [e0]; exact ⟨by unfold own_exp; rw [if_pos hc4_1, if_neg hc12_2, if_neg hc22_3, if_neg hc32_4, if_neg hc42_5, if_neg hc48_6, if_neg hc54_7, if_neg hc64_8, if_neg hc70_9, if_neg hc76_10, if_neg hc82_11, if_neg hc92_12, if_neg hc98_13, if_neg hc108_14, if_neg hc114_15, if_neg hc124_16, if_neg hc130_17, if_neg hc136_18, if_neg hc142_19, if_neg hc148_20, if_neg hc154_21, if_neg hc164_22, if_neg hc170_23, if_neg hc176_24, if_neg hc182_25, if_neg hc191_26, if_pos hc200_27], N_, rfl⟩)
                                                      · refine own_by (T' := s₁) (g' := (mkF m 203 #[.val (.int pp)] [])) (fun t k => XS.icmpNo X0.here hx rfl (hb hby d2_200) rfl (feq hc200_27).1 k) ?_
                                                        refine own_by (T' := s₁) (g' := (mkF m 204 #[.val (.int pp)] [(.int pp)])) (fun t k => XS.iloadN X0.here hx rfl (hb hby d2_203) rfl k) ?_
                                                        refine own_by (T' := s₁) (g' := (mkF m 206 #[.val (.int pp)] [(.int 13), (.int pp)])) (fun t k => XS.bipush X0.here hx rfl (hb hby d2_204) k) ?_
                                                        by_cases hc206_28 : pp = (13 : Int32)
                                                        · refine own_by (T' := s₁) (g' := (mkF m 209 #[.val (.int pp)] [])) (fun t k => XS.icmpNo X0.here hx rfl (hb hby d2_206) rfl (teq hc206_28).2 k) ?_
                                                          refine own_by (T' := s₁) (g' := (mkF m 211 #[.val (.int pp)] [(.int 60)])) (fun t k => XS.bipush X0.here hx rfl (hb hby d2_209) k) ?_
                                                          exact own_retI X0 hx Bd.notSynchronized Bd.returns (hb hby d2_211) (by decide) (by decide) (by rw [e0]; exact ⟨by unfold own_exp; rw [if_pos hc4_1, if_neg hc12_2, if_neg hc22_3, if_neg hc32_4, if_neg hc42_5, if_neg hc48_6, if_neg hc54_7, if_neg hc64_8, if_neg hc70_9, if_neg hc76_10, if_neg hc82_11, if_neg hc92_12, if_neg hc98_13, if_neg hc108_14, if_neg hc114_15, if_neg hc124_16, if_neg hc130_17, if_neg hc136_18, if_neg hc142_19, if_neg hc148_20, if_neg hc154_21, if_neg hc164_22, if_neg hc170_23, if_neg hc176_24, if_neg hc182_25, if_neg hc191_26, if_neg hc200_27, if_pos hc206_28], N_, rfl⟩)
                                                        · refine own_by (T' := s₁) (g' := (mkF m 212 #[.val (.int pp)] [])) (fun t k => XS.icmpYes X0.here hx rfl (pc0 := 206) (pc' := 212) rfl (hb hby d2_206) rfl (feq hc206_28).2 (by decide) (by decide) k) ?_
                                                          refine own_by (T' := s₁) (g' := (mkF m 213 #[.val (.int pp)] [(.int pp)])) (fun t k => XS.iloadN X0.here hx rfl (hb hby d2_212) rfl k) ?_
                                                          obtain ⟨_, _, ⟨T29, L29, k29, n29⟩, -, X29, ⟨Lc29, hQ29, l29, y29, z29⟩, st29⟩ := Jvm.LawKit.callS X0 hx (y := (⟨"com/example/emu/emu/CharFrequencyPerTenThousandPinLaw", "isCapitalListed", "(C)Z"⟩ : MethodName)) hown (mvT hZ (hw _ (own_m 10 rfl))) (mvT hZ (hw _ (own_m 11 rfl))) (mvT hZ (hw _ (own_m 8 rfl))) (mvT hZ (hw _ (own_m 12 rfl))) (by decide) (backOf (W := 0) (rm3 l Z a0 hw [] pp h0 n0 Zle ) hZ (hw _ (own_m 12 rfl)) (hw _ (own_m 8 rfl)) (by decide) (by decide)) (g := (mkF m 213 #[.val (.int pp)] [(.int pp)])) rfl (by rw [hml]; rfl) (argsL := [(.int pp)]) (rest := []) (lenOf pd_1 rfl) rfl (own_le rfl) (hb hby d2_213) (fun _ _ => ⟨rfl, e0, (by decide : 0 + 0 ≤ _), (by decide : 0 + 0 ≤ _)⟩)
                                                          dsimp only [Pt.U, Pt.locs, Pt.cells, Pt.slots] at X29 l29 y29 z29 st29 hQ29
                                                          subst l29 y29 z29
                                                          obtain ⟨rfl, Nq29, e29⟩ := hQ29
                                                          have N_ := Fr.app N_ Nq29
                                                          refine own_by (T' := T29) (g' := (mkF m 216 #[.val (.int pp)] [(.int (own_cap pp))])) (fun t k => st29 _ k) ?_
                                                          by_cases hc216_30 : (own_cap pp) = (0 : Int32)
                                                          · refine own_by (T' := T29) (g' := (mkF m 219 #[.val (.int pp)] [])) (fun t k => XS.ifNo X29.here hx rfl (hb hby d2_216) rfl ((if0 _ _).trans (teq hc216_30).2) k) ?_
                                                            refine own_by (T' := T29) (g' := (mkF m 220 #[.val (.int pp)] [(.int pp)])) (fun t k => XS.iloadN X29.here hx rfl (hb hby d2_219) rfl k) ?_
                                                            refine own_by (T' := T29) (g' := (mkF m 222 #[.val (.int pp)] [(.int 48), (.int pp)])) (fun t k => XS.bipush X29.here hx rfl (hb hby d2_220) k) ?_
                                                            by_cases hc222_31 : pp < (48 : Int32)
                                                            · refine own_by (T' := T29) (g' := (mkF m 231 #[.val (.int pp)] [])) (fun t k => XS.icmpYes X29.here hx rfl (pc0 := 222) (pc' := 231) rfl (hb hby d2_222) rfl (tlt hc222_31).1 (by decide) (by decide) k) ?_
                                                              refine own_by (T' := T29) (g' := (mkF m 232 #[.val (.int pp)] [(.int pp)])) (fun t k => XS.iloadN X29.here hx rfl (hb hby d2_231) rfl k) ?_
                                                              refine own_by (T' := T29) (g' := (mkF m 234 #[.val (.int pp)] [(.int 45), (.int pp)])) (fun t k => XS.bipush X29.here hx rfl (hb hby d2_232) k) ?_
                                                              by_cases hc234_32 : pp = (45 : Int32)
                                                              · refine own_by (T' := T29) (g' := (mkF m 255 #[.val (.int pp)] [])) (fun t k => XS.icmpYes X29.here hx rfl (pc0 := 234) (pc' := 255) rfl (hb hby d2_234) rfl (teq hc234_32).1 (by decide) (by decide) k) ?_
                                                                refine own_by (T' := T29) (g' := (mkF m 257 #[.val (.int pp)] [(.int 30)])) (fun t k => XS.bipush X29.here hx rfl (hb hby d2_255) k) ?_
                                                                exact own_retI X29 hx Bd.notSynchronized Bd.returns (hb hby d2_257) (by decide) (by decide) (by rw [e29]; exact ⟨by unfold own_exp; rw [if_pos hc4_1, if_neg hc12_2, if_neg hc22_3, if_neg hc32_4, if_neg hc42_5, if_neg hc48_6, if_neg hc54_7, if_neg hc64_8, if_neg hc70_9, if_neg hc76_10, if_neg hc82_11, if_neg hc92_12, if_neg hc98_13, if_neg hc108_14, if_neg hc114_15, if_neg hc124_16, if_neg hc130_17, if_neg hc136_18, if_neg hc142_19, if_neg hc148_20, if_neg hc154_21, if_neg hc164_22, if_neg hc170_23, if_neg hc176_24, if_neg hc182_25, if_neg hc191_26, if_neg hc200_27, if_neg hc206_28, if_pos hc216_30, if_pos hc222_31, if_pos hc234_32], N_, rfl⟩)
                                                              · refine own_by (T' := T29) (g' := (mkF m 237 #[.val (.int pp)] [])) (fun t k => XS.icmpNo X29.here hx rfl (hb hby d2_234) rfl (feq hc234_32).1 k) ?_
                                                                refine own_by (T' := T29) (g' := (mkF m 238 #[.val (.int pp)] [(.int pp)])) (fun t k => XS.iloadN X29.here hx rfl (hb hby d2_237) rfl k) ?_
                                                                refine own_by (T' := T29) (g' := (mkF m 240 #[.val (.int pp)] [(.int 39), (.int pp)])) (fun t k => XS.bipush X29.here hx rfl (hb hby d2_238) k) ?_
                                                                by_cases hc240_33 : pp = (39 : Int32)
                                                                · refine own_by (T' := T29) (g' := (mkF m 255 #[.val (.int pp)] [])) (fun t k => XS.icmpYes X29.here hx rfl (pc0 := 240) (pc' := 255) rfl (hb hby d2_240) rfl (teq hc240_33).1 (by decide) (by decide) k) ?_
                                                                  refine own_by (T' := T29) (g' := (mkF m 257 #[.val (.int pp)] [(.int 30)])) (fun t k => XS.bipush X29.here hx rfl (hb hby d2_255) k) ?_
                                                                  exact own_retI X29 hx Bd.notSynchronized Bd.returns (hb hby d2_257) (by decide) (by decide) (by rw [e29]; exact ⟨by unfold own_exp; rw [if_pos hc4_1, if_neg hc12_2, if_neg hc22_3, if_neg hc32_4, if_neg hc42_5, if_neg hc48_6, if_neg hc54_7, if_neg hc64_8, if_neg hc70_9, if_neg hc76_10, if_neg hc82_11, if_neg hc92_12, if_neg hc98_13, if_neg hc108_14, if_neg hc114_15, if_neg hc124_16, if_neg hc130_17, if_neg hc136_18, if_neg hc142_19, if_neg hc148_20, if_neg hc154_21, if_neg hc164_22, if_neg hc170_23, if_neg hc176_24, if_neg hc182_25, if_neg hc191_26, if_neg hc200_27, if_neg hc206_28, if_pos hc216_30, if_pos hc222_31, if_neg hc234_32, if_pos hc240_33], N_, rfl⟩)
                                                                · refine own_by (T' := T29) (g' := (mkF m 243 #[.val (.int pp)] [])) (fun t k => XS.icmpNo X29.here hx rfl (hb hby d2_240) rfl (feq hc240_33).1 k) ?_
                                                                  refine own_by (T' := T29) (g' := (mkF m 244 #[.val (.int pp)] [(.int pp)])) (fun t k => XS.iloadN X29.here hx rfl (hb hby d2_243) rfl k) ?_
                                                                  refine own_by (T' := T29) (g' := (mkF m 246 #[.val (.int pp)] [(.int 34), (.int pp)])) (fun t k => XS.bipush X29.here hx rfl (hb hby d2_244) k) ?_
                                                                  by_cases hc246_34 : pp = (34 : Int32)
                                                                  · refine own_by (T' := T29) (g' := (mkF m 255 #[.val (.int pp)] [])) (fun t k => XS.icmpYes X29.here hx rfl (pc0 := 246) (pc' := 255) rfl (hb hby d2_246) rfl (teq hc246_34).1 (by decide) (by decide) k) ?_
                                                                    refine own_by (T' := T29) (g' := (mkF m 257 #[.val (.int pp)] [(.int 30)])) (fun t k => XS.bipush X29.here hx rfl (hb hby d2_255) k) ?_
                                                                    exact own_retI X29 hx Bd.notSynchronized Bd.returns (hb hby d2_257) (by decide) (by decide) (by rw [e29]; exact ⟨by unfold own_exp; rw [if_pos hc4_1, if_neg hc12_2, if_neg hc22_3, if_neg hc32_4, if_neg hc42_5, if_neg hc48_6, if_neg hc54_7, if_neg hc64_8, if_neg hc70_9, if_neg hc76_10, if_neg hc82_11, if_neg hc92_12, if_neg hc98_13, if_neg hc108_14, if_neg hc114_15, if_neg hc124_16, if_neg hc130_17, if_neg hc136_18, if_neg hc142_19, if_neg hc148_20, if_neg hc154_21, if_neg hc164_22, if_neg hc170_23, if_neg hc176_24, if_neg hc182_25, if_neg hc191_26, if_neg hc200_27, if_neg hc206_28, if_pos hc216_30, if_pos hc222_31, if_neg hc234_32, if_neg hc240_33, if_pos hc246_34], N_, rfl⟩)
                                                                  · refine own_by (T' := T29) (g' := (mkF m 249 #[.val (.int pp)] [])) (fun t k => XS.icmpNo X29.here hx rfl (hb hby d2_246) rfl (feq hc246_34).1 k) ?_
                                                                    refine own_by (T' := T29) (g' := (mkF m 250 #[.val (.int pp)] [(.int pp)])) (fun t k => XS.iloadN X29.here hx rfl (hb hby d2_249) rfl k) ?_
                                                                    refine own_by (T' := T29) (g' := (mkF m 252 #[.val (.int pp)] [(.int 9), (.int pp)])) (fun t k => XS.bipush X29.here hx rfl (hb hby d2_250) k) ?_
                                                                    by_cases hc252_35 : pp = (9 : Int32)
                                                                    · refine own_by (T' := T29) (g' := (mkF m 255 #[.val (.int pp)] [])) (fun t k => XS.icmpNo X29.here hx rfl (hb hby d2_252) rfl (teq hc252_35).2 k) ?_
                                                                      refine own_by (T' := T29) (g' := (mkF m 257 #[.val (.int pp)] [(.int 30)])) (fun t k => XS.bipush X29.here hx rfl (hb hby d2_255) k) ?_
                                                                      exact own_retI X29 hx Bd.notSynchronized Bd.returns (hb hby d2_257) (by decide) (by decide) (by rw [e29]; exact ⟨by unfold own_exp; rw [if_pos hc4_1, if_neg hc12_2, if_neg hc22_3, if_neg hc32_4, if_neg hc42_5, if_neg hc48_6, if_neg hc54_7, if_neg hc64_8, if_neg hc70_9, if_neg hc76_10, if_neg hc82_11, if_neg hc92_12, if_neg hc98_13, if_neg hc108_14, if_neg hc114_15, if_neg hc124_16, if_neg hc130_17, if_neg hc136_18, if_neg hc142_19, if_neg hc148_20, if_neg hc154_21, if_neg hc164_22, if_neg hc170_23, if_neg hc176_24, if_neg hc182_25, if_neg hc191_26, if_neg hc200_27, if_neg hc206_28, if_pos hc216_30, if_pos hc222_31, if_neg hc234_32, if_neg hc240_33, if_neg hc246_34, if_pos hc252_35], N_, rfl⟩)
                                                                    · refine own_by (T' := T29) (g' := (mkF m 258 #[.val (.int pp)] [])) (fun t k => XS.icmpYes X29.here hx rfl (pc0 := 252) (pc' := 258) rfl (hb hby d2_252) rfl (feq hc252_35).2 (by decide) (by decide) k) ?_
                                                                      refine own_by (T' := T29) (g' := (mkF m 259 #[.val (.int pp)] [(.int pp)])) (fun t k => XS.iloadN X29.here hx rfl (hb hby d2_258) rfl k) ?_
                                                                      refine own_by (T' := T29) (g' := (mkF m 261 #[.val (.int pp)] [(.int 32), (.int pp)])) (fun t k => XS.bipush X29.here hx rfl (hb hby d2_259) k) ?_
                                                                      by_cases hc261_36 : pp < (32 : Int32)
                                                                      · refine own_by (T' := T29) (g' := (mkF m 273 #[.val (.int pp)] [])) (fun t k => XS.icmpYes X29.here hx rfl (pc0 := 261) (pc' := 273) rfl (hb hby d2_261) rfl (tlt hc261_36).1 (by decide) (by decide) k) ?_
                                                                        refine own_by (T' := T29) (g' := (mkF m 274 #[.val (.int pp)] [(.int 0)])) (fun t k => XS.iconst X29.here hx rfl (hb hby d2_273) k) ?_
                                                                        exact own_retI X29 hx Bd.notSynchronized Bd.returns (hb hby d2_274) (by decide) (by decide) (by rw [e29]; exact ⟨by unfold own_exp; rw [if_pos hc4_1, if_neg hc12_2, if_neg hc22_3, if_neg hc32_4, if_neg hc42_5, if_neg hc48_6, if_neg hc54_7, if_neg hc64_8, if_neg hc70_9, if_neg hc76_10, if_neg hc82_11, if_neg hc92_12, if_neg hc98_13, if_neg hc108_14, if_neg hc114_15, if_neg hc124_16, if_neg hc130_17, if_neg hc136_18, if_neg hc142_19, if_neg hc148_20, if_neg hc154_21, if_neg hc164_22, if_neg hc170_23, if_neg hc176_24, if_neg hc182_25, if_neg hc191_26, if_neg hc200_27, if_neg hc206_28, if_pos hc216_30, if_pos hc222_31, if_neg hc234_32, if_neg hc240_33, if_neg hc246_34, if_neg hc252_35, if_pos hc261_36], N_, rfl⟩)
                                                                      · refine own_by (T' := T29) (g' := (mkF m 264 #[.val (.int pp)] [])) (fun t k => XS.icmpNo X29.here hx rfl (hb hby d2_261) rfl (flt hc261_36).1 k) ?_
                                                                        refine own_by (T' := T29) (g' := (mkF m 265 #[.val (.int pp)] [(.int pp)])) (fun t k => XS.iloadN X29.here hx rfl (hb hby d2_264) rfl k) ?_
                                                                        refine own_by (T' := T29) (g' := (mkF m 267 #[.val (.int pp)] [(.int 126), (.int pp)])) (fun t k => XS.bipush X29.here hx rfl (hb hby d2_265) k) ?_
                                                                        by_cases hc267_37 : (126 : Int32) < pp
                                                                        · refine own_by (T' := T29) (g' := (mkF m 273 #[.val (.int pp)] [])) (fun t k => XS.icmpYes X29.here hx rfl (pc0 := 267) (pc' := 273) rfl (hb hby d2_267) rfl (tlt hc267_37).2.2.1 (by decide) (by decide) k) ?_
                                                                          refine own_by (T' := T29) (g' := (mkF m 274 #[.val (.int pp)] [(.int 0)])) (fun t k => XS.iconst X29.here hx rfl (hb hby d2_273) k) ?_
                                                                          exact own_retI X29 hx Bd.notSynchronized Bd.returns (hb hby d2_274) (by decide) (by decide) (by rw [e29]; exact ⟨by unfold own_exp; rw [if_pos hc4_1, if_neg hc12_2, if_neg hc22_3, if_neg hc32_4, if_neg hc42_5, if_neg hc48_6, if_neg hc54_7, if_neg hc64_8, if_neg hc70_9, if_neg hc76_10, if_neg hc82_11, if_neg hc92_12, if_neg hc98_13, if_neg hc108_14, if_neg hc114_15, if_neg hc124_16, if_neg hc130_17, if_neg hc136_18, if_neg hc142_19, if_neg hc148_20, if_neg hc154_21, if_neg hc164_22, if_neg hc170_23, if_neg hc176_24, if_neg hc182_25, if_neg hc191_26, if_neg hc200_27, if_neg hc206_28, if_pos hc216_30, if_pos hc222_31, if_neg hc234_32, if_neg hc240_33, if_neg hc246_34, if_neg hc252_35, if_neg hc261_36, if_pos hc267_37], N_, rfl⟩)
                                                                        · refine own_by (T' := T29) (g' := (mkF m 270 #[.val (.int pp)] [])) (fun t k => XS.icmpNo X29.here hx rfl (hb hby d2_267) rfl (flt hc267_37).2.2.1 k) ?_
                                                                          refine own_by (T' := T29) (g' := (mkF m 272 #[.val (.int pp)] [(.int 10)])) (fun t k => XS.bipush X29.here hx rfl (hb hby d2_270) k) ?_
                                                                          exact own_retI X29 hx Bd.notSynchronized Bd.returns (hb hby d2_272) (by decide) (by decide) (by rw [e29]; exact ⟨by unfold own_exp; rw [if_pos hc4_1, if_neg hc12_2, if_neg hc22_3, if_neg hc32_4, if_neg hc42_5, if_neg hc48_6, if_neg hc54_7, if_neg hc64_8, if_neg hc70_9, if_neg hc76_10, if_neg hc82_11, if_neg hc92_12, if_neg hc98_13, if_neg hc108_14, if_neg hc114_15, if_neg hc124_16, if_neg hc130_17, if_neg hc136_18, if_neg hc142_19, if_neg hc148_20, if_neg hc154_21, if_neg hc164_22, if_neg hc170_23, if_neg hc176_24, if_neg hc182_25, if_neg hc191_26, if_neg hc200_27, if_neg hc206_28, if_pos hc216_30, if_pos hc222_31, if_neg hc234_32, if_neg hc240_33, if_neg hc246_34, if_neg hc252_35, if_neg hc261_36, if_neg hc267_37], N_, rfl⟩)
                                                            · refine own_by (T' := T29) (g' := (mkF m 225 #[.val (.int pp)] [])) (fun t k => XS.icmpNo X29.here hx rfl (hb hby d2_222) rfl (flt hc222_31).1 k) ?_
                                                              refine own_by (T' := T29) (g' := (mkF m 226 #[.val (.int pp)] [(.int pp)])) (fun t k => XS.iloadN X29.here hx rfl (hb hby d2_225) rfl k) ?_
                                                              refine own_by (T' := T29) (g' := (mkF m 228 #[.val (.int pp)] [(.int 57), (.int pp)])) (fun t k => XS.bipush X29.here hx rfl (hb hby d2_226) k) ?_
                                                              by_cases hc228_38 : (57 : Int32) < pp
                                                              · refine own_by (T' := T29) (g' := (mkF m 231 #[.val (.int pp)] [])) (fun t k => XS.icmpNo X29.here hx rfl (hb hby d2_228) rfl (tlt hc228_38).2.2.2 k) ?_
                                                                refine own_by (T' := T29) (g' := (mkF m 232 #[.val (.int pp)] [(.int pp)])) (fun t k => XS.iloadN X29.here hx rfl (hb hby d2_231) rfl k) ?_
                                                                refine own_by (T' := T29) (g' := (mkF m 234 #[.val (.int pp)] [(.int 45), (.int pp)])) (fun t k => XS.bipush X29.here hx rfl (hb hby d2_232) k) ?_
                                                                by_cases hc234_39 : pp = (45 : Int32)
                                                                · refine own_by (T' := T29) (g' := (mkF m 255 #[.val (.int pp)] [])) (fun t k => XS.icmpYes X29.here hx rfl (pc0 := 234) (pc' := 255) rfl (hb hby d2_234) rfl (teq hc234_39).1 (by decide) (by decide) k) ?_
                                                                  refine own_by (T' := T29) (g' := (mkF m 257 #[.val (.int pp)] [(.int 30)])) (fun t k => XS.bipush X29.here hx rfl (hb hby d2_255) k) ?_
                                                                  exact own_retI X29 hx Bd.notSynchronized Bd.returns (hb hby d2_257) (by decide) (by decide) (by rw [e29]; exact ⟨by unfold own_exp; rw [if_pos hc4_1, if_neg hc12_2, if_neg hc22_3, if_neg hc32_4, if_neg hc42_5, if_neg hc48_6, if_neg hc54_7, if_neg hc64_8, if_neg hc70_9, if_neg hc76_10, if_neg hc82_11, if_neg hc92_12, if_neg hc98_13, if_neg hc108_14, if_neg hc114_15, if_neg hc124_16, if_neg hc130_17, if_neg hc136_18, if_neg hc142_19, if_neg hc148_20, if_neg hc154_21, if_neg hc164_22, if_neg hc170_23, if_neg hc176_24, if_neg hc182_25, if_neg hc191_26, if_neg hc200_27, if_neg hc206_28, if_pos hc216_30, if_neg hc222_31, if_pos hc228_38, if_pos hc234_39], N_, rfl⟩)
                                                                · refine own_by (T' := T29) (g' := (mkF m 237 #[.val (.int pp)] [])) (fun t k => XS.icmpNo X29.here hx rfl (hb hby d2_234) rfl (feq hc234_39).1 k) ?_
                                                                  refine own_by (T' := T29) (g' := (mkF m 238 #[.val (.int pp)] [(.int pp)])) (fun t k => XS.iloadN X29.here hx rfl (hb hby d2_237) rfl k) ?_
                                                                  refine own_by (T' := T29) (g' := (mkF m 240 #[.val (.int pp)] [(.int 39), (.int pp)])) (fun t k => XS.bipush X29.here hx rfl (hb hby d2_238) k) ?_
                                                                  by_cases hc240_40 : pp = (39 : Int32)
                                                                  · refine own_by (T' := T29) (g' := (mkF m 255 #[.val (.int pp)] [])) (fun t k => XS.icmpYes X29.here hx rfl (pc0 := 240) (pc' := 255) rfl (hb hby d2_240) rfl (teq hc240_40).1 (by decide) (by decide) k) ?_
                                                                    refine own_by (T' := T29) (g' := (mkF m 257 #[.val (.int pp)] [(.int 30)])) (fun t k => XS.bipush X29.here hx rfl (hb hby d2_255) k) ?_
                                                                    exact own_retI X29 hx Bd.notSynchronized Bd.returns (hb hby d2_257) (by decide) (by decide) (by rw [e29]; exact ⟨by unfold own_exp; rw [if_pos hc4_1, if_neg hc12_2, if_neg hc22_3, if_neg hc32_4, if_neg hc42_5, if_neg hc48_6, if_neg hc54_7, if_neg hc64_8, if_neg hc70_9, if_neg hc76_10, if_neg hc82_11, if_neg hc92_12, if_neg hc98_13, if_neg hc108_14, if_neg hc114_15, if_neg hc124_16, if_neg hc130_17, if_neg hc136_18, if_neg hc142_19, if_neg hc148_20, if_neg hc154_21, if_neg hc164_22, if_neg hc170_23, if_neg hc176_24, if_neg hc182_25, if_neg hc191_26, if_neg hc200_27, if_neg hc206_28, if_pos hc216_30, if_neg hc222_31, if_pos hc228_38, if_neg hc234_39, if_pos hc240_40], N_, rfl⟩)
                                                                  · refine own_by (T' := T29) (g' := (mkF m 243 #[.val (.int pp)] [])) (fun t k => XS.icmpNo X29.here hx rfl (hb hby d2_240) rfl (feq hc240_40).1 k) ?_
                                                                    refine own_by (T' := T29) (g' := (mkF m 244 #[.val (.int pp)] [(.int pp)])) (fun t k => XS.iloadN X29.here hx rfl (hb hby d2_243) rfl k) ?_
                                                                    refine own_by (T' := T29) (g' := (mkF m 246 #[.val (.int pp)] [(.int 34), (.int pp)])) (fun t k => XS.bipush X29.here hx rfl (hb hby d2_244) k) ?_
                                                                    by_cases hc246_41 : pp = (34 : Int32)
                                                                    · refine own_by (T' := T29) (g' := (mkF m 255 #[.val (.int pp)] [])) (fun t k => XS.icmpYes X29.here hx rfl (pc0 := 246) (pc' := 255) rfl (hb hby d2_246) rfl (teq hc246_41).1 (by decide) (by decide) k) ?_
                                                                      refine own_by (T' := T29) (g' := (mkF m 257 #[.val (.int pp)] [(.int 30)])) (fun t k => XS.bipush X29.here hx rfl (hb hby d2_255) k) ?_
                                                                      exact own_retI X29 hx Bd.notSynchronized Bd.returns (hb hby d2_257) (by decide) (by decide) (by rw [e29]; exact ⟨by unfold own_exp; rw [if_pos hc4_1, if_neg hc12_2, if_neg hc22_3, if_neg hc32_4, if_neg hc42_5, if_neg hc48_6, if_neg hc54_7, if_neg hc64_8, if_neg hc70_9, if_neg hc76_10, if_neg hc82_11, if_neg hc92_12, if_neg hc98_13, if_neg hc108_14, if_neg hc114_15, if_neg hc124_16, if_neg hc130_17, if_neg hc136_18, if_neg hc142_19, if_neg hc148_20, if_neg hc154_21, if_neg hc164_22, if_neg hc170_23, if_neg hc176_24, if_neg hc182_25, if_neg hc191_26, if_neg hc200_27, if_neg hc206_28, if_pos hc216_30, if_neg hc222_31, if_pos hc228_38, if_neg hc234_39, if_neg hc240_40, if_pos hc246_41], N_, rfl⟩)
                                                                    · refine own_by (T' := T29) (g' := (mkF m 249 #[.val (.int pp)] [])) (fun t k => XS.icmpNo X29.here hx rfl (hb hby d2_246) rfl (feq hc246_41).1 k) ?_
                                                                      refine own_by (T' := T29) (g' := (mkF m 250 #[.val (.int pp)] [(.int pp)])) (fun t k => XS.iloadN X29.here hx rfl (hb hby d2_249) rfl k) ?_
                                                                      refine own_by (T' := T29) (g' := (mkF m 252 #[.val (.int pp)] [(.int 9), (.int pp)])) (fun t k => XS.bipush X29.here hx rfl (hb hby d2_250) k) ?_
                                                                      by_cases hc252_42 : pp = (9 : Int32)
                                                                      · refine own_by (T' := T29) (g' := (mkF m 255 #[.val (.int pp)] [])) (fun t k => XS.icmpNo X29.here hx rfl (hb hby d2_252) rfl (teq hc252_42).2 k) ?_
                                                                        refine own_by (T' := T29) (g' := (mkF m 257 #[.val (.int pp)] [(.int 30)])) (fun t k => XS.bipush X29.here hx rfl (hb hby d2_255) k) ?_
                                                                        exact own_retI X29 hx Bd.notSynchronized Bd.returns (hb hby d2_257) (by decide) (by decide) (by rw [e29]; exact ⟨by unfold own_exp; rw [if_pos hc4_1, if_neg hc12_2, if_neg hc22_3, if_neg hc32_4, if_neg hc42_5, if_neg hc48_6, if_neg hc54_7, if_neg hc64_8, if_neg hc70_9, if_neg hc76_10, if_neg hc82_11, if_neg hc92_12, if_neg hc98_13, if_neg hc108_14, if_neg hc114_15, if_neg hc124_16, if_neg hc130_17, if_neg hc136_18, if_neg hc142_19, if_neg hc148_20, if_neg hc154_21, if_neg hc164_22, if_neg hc170_23, if_neg hc176_24, if_neg hc182_25, if_neg hc191_26, if_neg hc200_27, if_neg hc206_28, if_pos hc216_30, if_neg hc222_31, if_pos hc228_38, if_neg hc234_39, if_neg hc240_40, if_neg hc246_41, if_pos hc252_42], N_, rfl⟩)
                                                                      · refine own_by (T' := T29) (g' := (mkF m 258 #[.val (.int pp)] [])) (fun t k => XS.icmpYes X29.here hx rfl (pc0 := 252) (pc' := 258) rfl (hb hby d2_252) rfl (feq hc252_42).2 (by decide) (by decide) k) ?_
                                                                        refine own_by (T' := T29) (g' := (mkF m 259 #[.val (.int pp)] [(.int pp)])) (fun t k => XS.iloadN X29.here hx rfl (hb hby d2_258) rfl k) ?_
                                                                        refine own_by (T' := T29) (g' := (mkF m 261 #[.val (.int pp)] [(.int 32), (.int pp)])) (fun t k => XS.bipush X29.here hx rfl (hb hby d2_259) k) ?_
                                                                        by_cases hc261_43 : pp < (32 : Int32)
                                                                        · refine own_by (T' := T29) (g' := (mkF m 273 #[.val (.int pp)] [])) (fun t k => XS.icmpYes X29.here hx rfl (pc0 := 261) (pc' := 273) rfl (hb hby d2_261) rfl (tlt hc261_43).1 (by decide) (by decide) k) ?_
                                                                          refine own_by (T' := T29) (g' := (mkF m 274 #[.val (.int pp)] [(.int 0)])) (fun t k => XS.iconst X29.here hx rfl (hb hby d2_273) k) ?_
                                                                          exact own_retI X29 hx Bd.notSynchronized Bd.returns (hb hby d2_274) (by decide) (by decide) (by rw [e29]; exact ⟨by unfold own_exp; rw [if_pos hc4_1, if_neg hc12_2, if_neg hc22_3, if_neg hc32_4, if_neg hc42_5, if_neg hc48_6, if_neg hc54_7, if_neg hc64_8, if_neg hc70_9, if_neg hc76_10, if_neg hc82_11, if_neg hc92_12, if_neg hc98_13, if_neg hc108_14, if_neg hc114_15, if_neg hc124_16, if_neg hc130_17, if_neg hc136_18, if_neg hc142_19, if_neg hc148_20, if_neg hc154_21, if_neg hc164_22, if_neg hc170_23, if_neg hc176_24, if_neg hc182_25, if_neg hc191_26, if_neg hc200_27, if_neg hc206_28, if_pos hc216_30, if_neg hc222_31, if_pos hc228_38, if_neg hc234_39, if_neg hc240_40, if_neg hc246_41, if_neg hc252_42, if_pos hc261_43], N_, rfl⟩)
                                                                        · refine own_by (T' := T29) (g' := (mkF m 264 #[.val (.int pp)] [])) (fun t k => XS.icmpNo X29.here hx rfl (hb hby d2_261) rfl (flt hc261_43).1 k) ?_
                                                                          refine own_by (T' := T29) (g' := (mkF m 265 #[.val (.int pp)] [(.int pp)])) (fun t k => XS.iloadN X29.here hx rfl (hb hby d2_264) rfl k) ?_
                                                                          refine own_by (T' := T29) (g' := (mkF m 267 #[.val (.int pp)] [(.int 126), (.int pp)])) (fun t k => XS.bipush X29.here hx rfl (hb hby d2_265) k) ?_
                                                                          by_cases hc267_44 : (126 : Int32) < pp
                                                                          · refine own_by (T' := T29) (g' := (mkF m 273 #[.val (.int pp)] [])) (fun t k => XS.icmpYes X29.here hx rfl (pc0 := 267) (pc' := 273) rfl (hb hby d2_267) rfl (tlt hc267_44).2.2.1 (by decide) (by decide) k) ?_
                                                                            refine own_by (T' := T29) (g' := (mkF m 274 #[.val (.int pp)] [(.int 0)])) (fun t k => XS.iconst X29.here hx rfl (hb hby d2_273) k) ?_
                                                                            exact own_retI X29 hx Bd.notSynchronized Bd.returns (hb hby d2_274) (by decide) (by decide) (by rw [e29]; exact ⟨by unfold own_exp; rw [if_pos hc4_1, if_neg hc12_2, if_neg hc22_3, if_neg hc32_4, if_neg hc42_5, if_neg hc48_6, if_neg hc54_7, if_neg hc64_8, if_neg hc70_9, if_neg hc76_10, if_neg hc82_11, if_neg hc92_12, if_neg hc98_13, if_neg hc108_14, if_neg hc114_15, if_neg hc124_16, if_neg hc130_17, if_neg hc136_18, if_neg hc142_19, if_neg hc148_20, if_neg hc154_21, if_neg hc164_22, if_neg hc170_23, if_neg hc176_24, if_neg hc182_25, if_neg hc191_26, if_neg hc200_27, if_neg hc206_28, if_pos hc216_30, if_neg hc222_31, if_pos hc228_38, if_neg hc234_39, if_neg hc240_40, if_neg hc246_41, if_neg hc252_42, if_neg hc261_43, if_pos hc267_44], N_, rfl⟩)
                                                                          · refine own_by (T' := T29) (g' := (mkF m 270 #[.val (.int pp)] [])) (fun t k => XS.icmpNo X29.here hx rfl (hb hby d2_267) rfl (flt hc267_44).2.2.1 k) ?_
                                                                            refine own_by (T' := T29) (g' := (mkF m 272 #[.val (.int pp)] [(.int 10)])) (fun t k => XS.bipush X29.here hx rfl (hb hby d2_270) k) ?_
                                                                            exact own_retI X29 hx Bd.notSynchronized Bd.returns (hb hby d2_272) (by decide) (by decide) (by rw [e29]; exact ⟨by unfold own_exp; rw [if_pos hc4_1, if_neg hc12_2, if_neg hc22_3, if_neg hc32_4, if_neg hc42_5, if_neg hc48_6, if_neg hc54_7, if_neg hc64_8, if_neg hc70_9, if_neg hc76_10, if_neg hc82_11, if_neg hc92_12, if_neg hc98_13, if_neg hc108_14, if_neg hc114_15, if_neg hc124_16, if_neg hc130_17, if_neg hc136_18, if_neg hc142_19, if_neg hc148_20, if_neg hc154_21, if_neg hc164_22, if_neg hc170_23, if_neg hc176_24, if_neg hc182_25, if_neg hc191_26, if_neg hc200_27, if_neg hc206_28, if_pos hc216_30, if_neg hc222_31, if_pos hc228_38, if_neg hc234_39, if_neg hc240_40, if_neg hc246_41, if_neg hc252_42, if_neg hc261_43, if_neg hc267_44], N_, rfl⟩)
                                                              · refine own_by (T' := T29) (g' := (mkF m 255 #[.val (.int pp)] [])) (fun t k => XS.icmpYes X29.here hx rfl (pc0 := 228) (pc' := 255) rfl (hb hby d2_228) rfl (flt hc228_38).2.2.2 (by decide) (by decide) k) ?_
                                                                refine own_by (T' := T29) (g' := (mkF m 257 #[.val (.int pp)] [(.int 30)])) (fun t k => XS.bipush X29.here hx rfl (hb hby d2_255) k) ?_
                                                                exact own_retI X29 hx Bd.notSynchronized Bd.returns (hb hby d2_257) (by decide) (by decide) (by rw [e29]; exact ⟨by unfold own_exp; rw [if_pos hc4_1, if_neg hc12_2, if_neg hc22_3, if_neg hc32_4, if_neg hc42_5, if_neg hc48_6, if_neg hc54_7, if_neg hc64_8, if_neg hc70_9, if_neg hc76_10, if_neg hc82_11, if_neg hc92_12, if_neg hc98_13, if_neg hc108_14, if_neg hc114_15, if_neg hc124_16, if_neg hc130_17, if_neg hc136_18, if_neg hc142_19, if_neg hc148_20, if_neg hc154_21, if_neg hc164_22, if_neg hc170_23, if_neg hc176_24, if_neg hc182_25, if_neg hc191_26, if_neg hc200_27, if_neg hc206_28, if_pos hc216_30, if_neg hc222_31, if_neg hc228_38], N_, rfl⟩)
                                                          · refine own_by (T' := T29) (g' := (mkF m 255 #[.val (.int pp)] [])) (fun t k => XS.ifYes X29.here hx rfl (pc0 := 216) (pc' := 255) rfl (hb hby d2_216) rfl ((if0 _ _).trans (feq hc216_30).2) (by decide) (by decide) k) ?_
                                                            refine own_by (T' := T29) (g' := (mkF m 257 #[.val (.int pp)] [(.int 30)])) (fun t k => XS.bipush X29.here hx rfl (hb hby d2_255) k) ?_
                                                            exact own_retI X29 hx Bd.notSynchronized Bd.returns (hb hby d2_257) (by decide) (by decide) (by rw [e29]; exact ⟨by unfold own_exp; rw [if_pos hc4_1, if_neg hc12_2, if_neg hc22_3, if_neg hc32_4, if_neg hc42_5, if_neg hc48_6, if_neg hc54_7, if_neg hc64_8, if_neg hc70_9, if_neg hc76_10, if_neg hc82_11, if_neg hc92_12, if_neg hc98_13, if_neg hc108_14, if_neg hc114_15, if_neg hc124_16, if_neg hc130_17, if_neg hc136_18, if_neg hc142_19, if_neg hc148_20, if_neg hc154_21, if_neg hc164_22, if_neg hc170_23, if_neg hc176_24, if_neg hc182_25, if_neg hc191_26, if_neg hc200_27, if_neg hc206_28, if_neg hc216_30], N_, rfl⟩)
  · refine own_by (T' := s₁) (g' := (mkF m 7 #[.val (.int pp)] [])) (fun t k => XS.icmpNo X0.here hx rfl (hb hby d2_4) rfl (flt hc4_1).1 k) ?_
    refine own_by (T' := s₁) (g' := (mkF m 8 #[.val (.int pp)] [(.int 0)])) (fun t k => XS.iconst X0.here hx rfl (hb hby d2_7) k) ?_
    exact own_retI X0 hx Bd.notSynchronized Bd.returns (hb hby d2_8) (by decide) (by decide) (by rw [e0]; exact ⟨by unfold own_exp; rw [if_neg hc4_1], N_, rfl⟩)

theorem pn_com_example_emu_emu_CharFrequency : plainName "com/example/emu/emu/CharFrequency" = true := by first | (simp [plainName, overriddenIn]; done) | decide +kernel
theorem ef_1 (m : MethodId) (pp : Int32) : entryFrame m #[(.int pp)] 1 = mkF m 0 #[.val (.int pp)] [] := by first | (simp [entryFrame, mkF, argsToLocals, Value.category]; done) | rfl
theorem d1_0 : decode prog_9_method_2_code 0 = .ok (.iload_n 0, 1) := by decide +kernel
theorem d1_1 : decode prog_9_method_2_code 1 = .ok (.sipush 128, 3) := by decide +kernel
theorem d1_4 : decode prog_9_method_2_code 4 = .ok (.if_icmp .ge 11, 3) := by decide +kernel
theorem d1_7 : decode prog_9_method_2_code 7 = .ok (.getstatic 9, 3) := by decide +kernel
theorem d1_10 : decode prog_9_method_2_code 10 = .ok (.iload_n 0, 1) := by decide +kernel
theorem d1_11 : decode prog_9_method_2_code 11 = .ok (.iaload, 1) := by decide +kernel
theorem d1_12 : decode prog_9_method_2_code 12 = .ok (.goto 4, 3) := by decide +kernel
theorem d1_16 : decode prog_9_method_2_code 16 = .ok (.ireturn, 1) := by decide +kernel
theorem d1_15 : decode prog_9_method_2_code 15 = .ok (.iconst 0, 1) := by decide +kernel
def Q1 (Z : State) (pp : Int32) (ta : Addr) (cl : Cell) (h0 : Heap) (n0 : Nat) (v : Option Value) (h : Heap) (L : List Loc) : Prop := v = some (.int (own_exp pp)) ∧ Fr n0 L ∧ h = h0
set_option maxRecDepth 65536 in
set_option maxHeartbeats 40000000 in
theorem rm1 (l : Launch) (Z : State) (a0 : Array Value) (hw : ∀ d ∈ tables_1, d.before a0 Z = true) (ws : List Jvm.Cond) (pp : Int32) (ta : Addr) (cl : Cell) (h0 : Heap) (n0 : Nat) (Zle : n0 ≤ h0.size) (S_PER_TEN_THOUSAND : Sta Z h0 "com/example/emu/emu/CharFrequency" "PER_TEN_THOUSAND" "[I" (.ref ta)) (Ar : Arr Z h0 ta cl .int) (hsz : cl.slots.size = 128) (hT : ∀ j : Int32, ¬ j < 0 → j < 128 → cl.slots[j.toNatClampNeg]? = some (.int (own_exp j))) (hp0 : ¬ pp < 0) :
    MetFree l (⟨"com/example/emu/emu/CharFrequency", "perTenThousand", "(C)I"⟩ : MethodName) (head1 (Jvm.Cond.code (⟨"com/example/emu/emu/CharFrequency", "perTenThousand", "(C)I"⟩ : MethodName) prog_9_method_2_code 1 (some .int) :: ws) ({ frames := 0, cells := 0, slots := 0, locals := 0 } : Room)) (fun a U => a = #[(.int pp)] ∧ Z.Warmed39 U.vm ∧ U.heap = h0) (fun _ _ _ _ _ => True) (fun _ U o U' => ∃ v L, o = .returned v ∧ Q1 Z pp ta cl h0 n0 v U'.heap L ∧ FrameEnd U o U' L ({ frames := 0, cells := 0, slots := 0, locals := 0 } : Room).cells ({ frames := 0, cells := 0, slots := 0, locals := 0 } : Room).slots) := by
  refine MetFree.of_bodySF (plainFor_of_name pn_com_example_emu_emu_CharFrequency) hisR ?_
  intro p e s m args below meth c s₁ Bd hml0 hP hK
  obtain ⟨rfl, hZ, hh⟩ := hP
  have hx := Bd.exec
  have hby := Bd.bytes
  have hml : c.maxLocals = 1 := hml0
  have hown : s.vm.findClass "com/example/emu/emu/CharFrequency" = some m.cls := findClass_of_methodNamed Bd.named
  have hnm := (name_of_methodNamed Bd.named Bd.method).1
  have X0 : Stand p l e ({ frames := 0, cells := 0, slots := 0, locals := 0 } : Room) s m #[(.int pp)] below meth c s₁ [] 0 0 := Stand.of_body Bd
  have e0 : s₁.heap = h0 := by rw [← hh, Bd.state]; rfl
  have N_ := Fr.nil n0
  show own_Goes p.tables e below s (Q1 Z pp ta cl h0 n0) ({ frames := 0, cells := 0, slots := 0, locals := 0 } : Room).cells ({ frames := 0, cells := 0, slots := 0, locals := 0 } : Room).slots s₁ (entryFrame m #[(.int pp)] 1)
  refine own_by (T' := s₁) (g' := (mkF m 0 #[.val (.int pp)] [])) (fun t k => castTop (ef_1 m pp) k) ?_
  refine own_by (T' := s₁) (g' := (mkF m 1 #[.val (.int pp)] [(.int pp)])) (fun t k => XS.iloadN X0.here hx rfl (hb hby d1_0) rfl k) ?_
  refine own_by (T' := s₁) (g' := (mkF m 4 #[.val (.int pp)] [(.int 128), (.int pp)])) (fun t k => XS.sipush X0.here hx rfl (hb hby d1_1) k) ?_
  by_cases hc4_1 : pp < (128 : Int32)
  · refine own_by (T' := s₁) (g' := (mkF m 7 #[.val (.int pp)] [])) (fun t k => XS.icmpNo X0.here hx rfl (hb hby d1_4) rfl (tlt hc4_1).2.1 k) ?_
    obtain ⟨T2, X2, e2, st2⟩ := getS2 X0 hx hZ hown (host := "") (Or.inl (hw _ (own_m 4 rfl))) Via.refl e0 S_PER_TEN_THOUSAND (g := (mkF m 7 #[.val (.int pp)] [])) rfl (hb hby d1_7)
    refine own_by (T' := T2) (g' := (mkF m 10 #[.val (.int pp)] [(.ref ta)])) (fun t k => st2 t k) ?_
    refine own_by (T' := T2) (g' := (mkF m 11 #[.val (.int pp)] [(.int pp), (.ref ta)])) (fun t k => XS.iloadN X2.here hx rfl (hb hby d1_10) rfl k) ?_
    refine own_by (T' := T2) (g' := (mkF m 12 #[.val (.int pp)] [(.int (own_exp pp))])) (fun t k => X2.iaload hx (j := pp) (v := (.int (own_exp pp))) (by rw [e2]; exact Ar.1) (State.isArrayOf_alike hZ.alike Ar.2.1) Ar.2.2 (own_inb hsz hp0 hc4_1) (hT pp hp0 hc4_1) (g := (mkF m 11 #[.val (.int pp)] [(.int pp), (.ref ta)])) rfl rfl (hb hby d1_11) _ k) ?_
    refine own_by (T' := T2) (g' := (mkF m 16 #[.val (.int pp)] [(.int (own_exp pp))])) (fun t k => XS.goto X2.here hx rfl (pc0 := 12) (pc' := 16) rfl (hb hby d1_12) (by decide) (by decide) k) ?_
    exact own_retI X2 hx Bd.notSynchronized Bd.returns (hb hby d1_16) (by decide) (by decide) (by rw [e2]; exact ⟨rfl, N_, rfl⟩)
  · refine own_by (T' := s₁) (g' := (mkF m 15 #[.val (.int pp)] [])) (fun t k => XS.icmpYes X0.here hx rfl (pc0 := 4) (pc' := 15) rfl (hb hby d1_4) rfl (flt hc4_1).2.1 (by decide) (by decide) k) ?_
    refine own_by (T' := s₁) (g' := (mkF m 16 #[.val (.int pp)] [(.int 0)])) (fun t k => XS.iconst X0.here hx rfl (hb hby d1_15) k) ?_
    exact own_retI X0 hx Bd.notSynchronized Bd.returns (hb hby d1_16) (by decide) (by decide) (by rw [e0]; exact ⟨by rw [own_exp_far hc4_1], N_, rfl⟩)

theorem ef_0 (m : MethodId) (x1 : Int32) (x2 : Int32) : entryFrame m #[(.int x1), (.int x2)] maxLocals = mkF m 0 #[.val (.int x1), .val (.int x2), .unset] [] := by first | (simp [entryFrame, mkF, argsToLocals, Value.category, maxLocals]; done) | rfl
theorem pd_0 : parseMethodDescriptor "(C)I" = some ⟨[.char], some .int⟩ := by decide +kernel
def Q0 (Z : State) (x1 : Int32) (x2 : Int32) (ta : Addr) (cl : Cell) (h0 : Heap) (n0 : Nat) (v : Option Value) (h : Heap) (L : List Loc) : Prop := v = some (.int 1) ∧ Fr n0 L
set_option maxRecDepth 65536 in
set_option maxHeartbeats 40000000 in
theorem rm0 (l : Launch) (Z : State) (a0 : Array Value) (hw : ∀ d ∈ tables_1, d.before a0 Z = true) (ws : List Jvm.Cond) (x1 : Int32) (x2 : Int32) (ta : Addr) (cl : Cell) (h0 : Heap) (n0 : Nat) (Zle : n0 ≤ h0.size) (S_PER_TEN_THOUSAND : Sta Z h0 "com/example/emu/emu/CharFrequency" "PER_TEN_THOUSAND" "[I" (.ref ta)) (Ar : Arr Z h0 ta cl .int) (hsz : cl.slots.size = 128) (hT : ∀ j : Int32, ¬ j < 0 → j < 128 → cl.slots[j.toNatClampNeg]? = some (.int (own_exp j))) :
    MetFree l x (head1 (Jvm.Cond.code x code maxLocals ret :: ws) room_1) (fun a U => a = #[(.int x1), (.int x2)] ∧ Z.Warmed39 U.vm ∧ U.heap = h0) (fun _ _ _ _ _ => True) (fun _ U o U' => ∃ v L, o = .returned v ∧ Q0 Z x1 x2 ta cl h0 n0 v U'.heap L ∧ FrameEnd U o U' L room_1.cells room_1.slots) := by
  refine MetFree.of_bodySF (plainFor_of_name pn_com_example_emu_emu_CharFrequencyPerTenThousandPinLaw) hisR ?_
  intro p e s m args below meth c s₁ Bd hml0 hP hK
  obtain ⟨rfl, hZ, hh⟩ := hP
  have hx := Bd.exec
  have hby := Bd.bytes
  have hml : c.maxLocals = 3 := hml0
  have hown : s.vm.findClass "com/example/emu/emu/CharFrequencyPerTenThousandPinLaw" = some m.cls := findClass_of_methodNamed Bd.named
  have hnm := (name_of_methodNamed Bd.named Bd.method).1
  have X0 : Stand p l e room_1 s m #[(.int x1), (.int x2)] below meth c s₁ [] 0 0 := Stand.of_body Bd
  have e0 : s₁.heap = h0 := by rw [← hh, Bd.state]; rfl
  have N_ := Fr.nil n0
  show own_Goes p.tables e below s (Q0 Z x1 x2 ta cl h0 n0) room_1.cells room_1.slots s₁ (entryFrame m #[(.int x1), (.int x2)] maxLocals)
  refine own_by (T' := s₁) (g' := (mkF m 0 #[.val (.int x1), .val (.int x2), .unset] [])) (fun t k => castTop (ef_0 m x1 x2) k) ?_
  refine own_by (T' := s₁) (g' := (mkF m 1 #[.val (.int x1), .val (.int x2), .unset] [(.int x2)])) (fun t k => XS.iloadN X0.here hx rfl (hb hby at_0) rfl k) ?_
  refine own_by (T' := s₁) (g' := (mkF m 2 #[.val (.int x1), .val (.int x2), .unset] [(.int 1), (.int x2)])) (fun t k => XS.iconst X0.here hx rfl (hb hby at_1) k) ?_
  refine own_by (T' := s₁) (g' := (mkF m 3 #[.val (.int x1), .val (.int x2), .unset] [(.int (x2 &&& (1 : Int32)))])) (fun t k => XS.iand X0.here hx rfl (hb hby at_2) rfl k) ?_
  by_cases hc3_1 : (x2 &&& (1 : Int32)) = (0 : Int32)
  · refine own_by (T' := s₁) (g' := (mkF m 14 #[.val (.int x1), .val (.int x2), .unset] [])) (fun t k => XS.ifYes X0.here hx rfl (pc0 := 3) (pc' := 14) rfl (hb hby at_3) rfl ((if0 _ _).trans (teq hc3_1).1) (by decide) (by decide) k) ?_
    refine own_by (T' := s₁) (g' := (mkF m 15 #[.val (.int x1), .val (.int x2), .unset] [(.int x1)])) (fun t k => XS.iloadN X0.here hx rfl (hb hby at_14) rfl k) ?_
    refine own_by (T' := s₁) (g' := (mkF m 17 #[.val (.int x1), .val (.int x2), .unset] [(.int 65535), (.int x1)])) (fun t k => X0.ldcInt hx hown (mvT hZ (hw _ (own_m 13 rfl))) (g := (mkF m 15 #[.val (.int x1), .val (.int x2), .unset] [(.int x1)])) rfl (hb hby at_15) _ k) ?_
    refine own_by (T' := s₁) (g' := (mkF m 18 #[.val (.int x1), .val (.int x2), .unset] [(.int (x1 &&& (65535 : Int32)))])) (fun t k => XS.iand X0.here hx rfl (hb hby at_17) rfl k) ?_
    refine own_by (T' := s₁) (g' := (mkF m 19 #[.val (.int x1), .val (.int x2), .unset] [(.int ((x1 &&& (65535 : Int32)).toUInt32.toUInt16.toUInt32.toInt32))])) (fun t k => XS.i2c X0.here hx rfl (hb hby at_18) rfl k) ?_
    refine own_by (T' := s₁) (g' := (mkF m 20 #[.val (.int x1), .val (.int x2), .val (.int ((x1 &&& (65535 : Int32)).toUInt32.toUInt16.toUInt32.toInt32))] [])) (fun t k => XS.istoreN X0.here hx rfl (hb hby at_19) rfl (l' := #[.val (.int x1), .val (.int x2), .val (.int ((x1 &&& (65535 : Int32)).toUInt32.toUInt16.toUInt32.toInt32))]) rfl k) ?_
    refine own_by (T' := s₁) (g' := (mkF m 21 #[.val (.int x1), .val (.int x2), .val (.int ((x1 &&& (65535 : Int32)).toUInt32.toUInt16.toUInt32.toInt32))] [(.int ((x1 &&& (65535 : Int32)).toUInt32.toUInt16.toUInt32.toInt32))])) (fun t k => XS.iloadN X0.here hx rfl (hb hby at_20) rfl k) ?_
    obtain ⟨_, _, ⟨T2, L2, k2, n2⟩, -, X2, ⟨Lc2, hQ2, l2, y2, z2⟩, st2⟩ := Jvm.LawKit.callS X0 hx (y := (⟨"com/example/emu/emu/CharFrequency", "perTenThousand", "(C)I"⟩ : MethodName)) hown (mvT hZ (hw _ (own_m 0 rfl))) (mvT hZ (hw _ (own_m 1 rfl))) (mvT hZ (hw _ (own_m 2 rfl))) (mvT hZ (hw _ (own_m 3 rfl))) (by decide) (backOf (W := 0) (rm1 l Z a0 hw [] ((x1 &&& (65535 : Int32)).toUInt32.toUInt16.toUInt32.toInt32) ta _ h0 n0 Zle S_PER_TEN_THOUSAND (Ar) (hsz) (hT) (own_cpos _)) hZ (hw _ (own_m 3 rfl)) (hw _ (own_m 2 rfl)) (by decide) (by decide)) (g := (mkF m 21 #[.val (.int x1), .val (.int x2), .val (.int ((x1 &&& (65535 : Int32)).toUInt32.toUInt16.toUInt32.toInt32))] [(.int ((x1 &&& (65535 : Int32)).toUInt32.toUInt16.toUInt32.toInt32))])) rfl (by rw [hml]; rfl) (argsL := [(.int ((x1 &&& (65535 : Int32)).toUInt32.toUInt16.toUInt32.toInt32))]) (rest := []) (lenOf pd_0 rfl) rfl (own_le rfl) (hb hby at_21) (fun _ _ => ⟨rfl, e0, (by decide : 0 + 0 ≤ _), (by decide : 0 + 0 ≤ _)⟩)
    dsimp only [Pt.U, Pt.locs, Pt.cells, Pt.slots] at X2 l2 y2 z2 st2 hQ2
    subst l2 y2 z2
    obtain ⟨rfl, Nq2, e2⟩ := hQ2
    have N_ := Fr.app N_ Nq2
    refine own_by (T' := T2) (g' := (mkF m 24 #[.val (.int x1), .val (.int x2), .val (.int ((x1 &&& (65535 : Int32)).toUInt32.toUInt16.toUInt32.toInt32))] [(.int (own_exp ((x1 &&& (65535 : Int32)).toUInt32.toUInt16.toUInt32.toInt32)))])) (fun t k => st2 _ k) ?_
    refine own_by (T' := T2) (g' := (mkF m 25 #[.val (.int x1), .val (.int x2), .val (.int ((x1 &&& (65535 : Int32)).toUInt32.toUInt16.toUInt32.toInt32))] [(.int ((x1 &&& (65535 : Int32)).toUInt32.toUInt16.toUInt32.toInt32)), (.int (own_exp ((x1 &&& (65535 : Int32)).toUInt32.toUInt16.toUInt32.toInt32)))])) (fun t k => XS.iloadN X2.here hx rfl (hb hby at_24) rfl k) ?_
    obtain ⟨_, _, ⟨T3, L3, k3, n3⟩, -, X3, ⟨Lc3, hQ3, l3, y3, z3⟩, st3⟩ := Jvm.LawKit.callS X2 hx (y := (⟨"com/example/emu/emu/CharFrequencyPerTenThousandPinLaw", "expected", "(C)I"⟩ : MethodName)) hown (mvT hZ (hw _ (own_m 6 rfl))) (mvT hZ (hw _ (own_m 7 rfl))) (mvT hZ (hw _ (own_m 8 rfl))) (mvT hZ (hw _ (own_m 9 rfl))) (by decide) (backOf (W := 1) (rm2 l Z a0 hw [] ((x1 &&& (65535 : Int32)).toUInt32.toUInt16.toUInt32.toInt32) h0 n0 Zle ) hZ (hw _ (own_m 9 rfl)) (hw _ (own_m 8 rfl)) (by decide) (by decide)) (g := (mkF m 25 #[.val (.int x1), .val (.int x2), .val (.int ((x1 &&& (65535 : Int32)).toUInt32.toUInt16.toUInt32.toInt32))] [(.int ((x1 &&& (65535 : Int32)).toUInt32.toUInt16.toUInt32.toInt32)), (.int (own_exp ((x1 &&& (65535 : Int32)).toUInt32.toUInt16.toUInt32.toInt32)))])) rfl (by rw [hml]; rfl) (argsL := [(.int ((x1 &&& (65535 : Int32)).toUInt32.toUInt16.toUInt32.toInt32))]) (rest := [(.int (own_exp ((x1 &&& (65535 : Int32)).toUInt32.toUInt16.toUInt32.toInt32)))]) (lenOf pd_0 rfl) rfl (own_le rfl) (hb hby at_25) (fun _ _ => ⟨rfl, e2, (by decide : 0 + 0 ≤ _), (by decide : 0 + 0 ≤ _)⟩)
    dsimp only [Pt.U, Pt.locs, Pt.cells, Pt.slots] at X3 l3 y3 z3 st3 hQ3
    subst l3 y3 z3
    obtain ⟨rfl, Nq3, e3⟩ := hQ3
    have N_ := Fr.app N_ Nq3
    refine own_by (T' := T3) (g' := (mkF m 28 #[.val (.int x1), .val (.int x2), .val (.int ((x1 &&& (65535 : Int32)).toUInt32.toUInt16.toUInt32.toInt32))] [(.int (own_exp ((x1 &&& (65535 : Int32)).toUInt32.toUInt16.toUInt32.toInt32))), (.int (own_exp ((x1 &&& (65535 : Int32)).toUInt32.toUInt16.toUInt32.toInt32)))])) (fun t k => st3 _ k) ?_
    refine own_by (T' := T3) (g' := (mkF m 31 #[.val (.int x1), .val (.int x2), .val (.int ((x1 &&& (65535 : Int32)).toUInt32.toUInt16.toUInt32.toInt32))] [])) (fun t k => XS.icmpNo X3.here hx rfl (hb hby at_28) rfl (teq (rfl : (own_exp ((x1 &&& (65535 : Int32)).toUInt32.toUInt16.toUInt32.toInt32)) = (own_exp ((x1 &&& (65535 : Int32)).toUInt32.toUInt16.toUInt32.toInt32)))).2 k) ?_
    refine own_by (T' := T3) (g' := (mkF m 32 #[.val (.int x1), .val (.int x2), .val (.int ((x1 &&& (65535 : Int32)).toUInt32.toUInt16.toUInt32.toInt32))] [(.int 1)])) (fun t k => XS.iconst X3.here hx rfl (hb hby at_31) k) ?_
    refine own_by (T' := T3) (g' := (mkF m 36 #[.val (.int x1), .val (.int x2), .val (.int ((x1 &&& (65535 : Int32)).toUInt32.toUInt16.toUInt32.toInt32))] [(.int 1)])) (fun t k => XS.goto X3.here hx rfl (pc0 := 32) (pc' := 36) rfl (hb hby at_32) (by decide) (by decide) k) ?_
    exact own_retN X3 hx (t := .boolean) Bd.notSynchronized Bd.returns (by simp) (hb hby at_36) (by decide) (by decide) (by rw [e3]; exact ⟨rfl, N_⟩)
  · refine own_by (T' := s₁) (g' := (mkF m 6 #[.val (.int x1), .val (.int x2), .unset] [])) (fun t k => XS.ifNo X0.here hx rfl (hb hby at_3) rfl ((if0 _ _).trans (feq hc3_1).1) k) ?_
    refine own_by (T' := s₁) (g' := (mkF m 7 #[.val (.int x1), .val (.int x2), .unset] [(.int x1)])) (fun t k => XS.iloadN X0.here hx rfl (hb hby at_6) rfl k) ?_
    refine own_by (T' := s₁) (g' := (mkF m 9 #[.val (.int x1), .val (.int x2), .unset] [(.int 127), (.int x1)])) (fun t k => XS.bipush X0.here hx rfl (hb hby at_7) k) ?_
    refine own_by (T' := s₁) (g' := (mkF m 10 #[.val (.int x1), .val (.int x2), .unset] [(.int (x1 &&& (127 : Int32)))])) (fun t k => XS.iand X0.here hx rfl (hb hby at_9) rfl k) ?_
    refine own_by (T' := s₁) (g' := (mkF m 11 #[.val (.int x1), .val (.int x2), .unset] [(.int ((x1 &&& (127 : Int32)).toUInt32.toUInt16.toUInt32.toInt32))])) (fun t k => XS.i2c X0.here hx rfl (hb hby at_10) rfl k) ?_
    refine own_by (T' := s₁) (g' := (mkF m 19 #[.val (.int x1), .val (.int x2), .unset] [(.int ((x1 &&& (127 : Int32)).toUInt32.toUInt16.toUInt32.toInt32))])) (fun t k => XS.goto X0.here hx rfl (pc0 := 11) (pc' := 19) rfl (hb hby at_11) (by decide) (by decide) k) ?_
    refine own_by (T' := s₁) (g' := (mkF m 20 #[.val (.int x1), .val (.int x2), .val (.int ((x1 &&& (127 : Int32)).toUInt32.toUInt16.toUInt32.toInt32))] [])) (fun t k => XS.istoreN X0.here hx rfl (hb hby at_19) rfl (l' := #[.val (.int x1), .val (.int x2), .val (.int ((x1 &&& (127 : Int32)).toUInt32.toUInt16.toUInt32.toInt32))]) rfl k) ?_
    refine own_by (T' := s₁) (g' := (mkF m 21 #[.val (.int x1), .val (.int x2), .val (.int ((x1 &&& (127 : Int32)).toUInt32.toUInt16.toUInt32.toInt32))] [(.int ((x1 &&& (127 : Int32)).toUInt32.toUInt16.toUInt32.toInt32))])) (fun t k => XS.iloadN X0.here hx rfl (hb hby at_20) rfl k) ?_
    obtain ⟨_, _, ⟨T4, L4, k4, n4⟩, -, X4, ⟨Lc4, hQ4, l4, y4, z4⟩, st4⟩ := Jvm.LawKit.callS X0 hx (y := (⟨"com/example/emu/emu/CharFrequency", "perTenThousand", "(C)I"⟩ : MethodName)) hown (mvT hZ (hw _ (own_m 0 rfl))) (mvT hZ (hw _ (own_m 1 rfl))) (mvT hZ (hw _ (own_m 2 rfl))) (mvT hZ (hw _ (own_m 3 rfl))) (by decide) (backOf (W := 0) (rm1 l Z a0 hw [] ((x1 &&& (127 : Int32)).toUInt32.toUInt16.toUInt32.toInt32) ta _ h0 n0 Zle S_PER_TEN_THOUSAND (Ar) (hsz) (hT) (own_cpos _)) hZ (hw _ (own_m 3 rfl)) (hw _ (own_m 2 rfl)) (by decide) (by decide)) (g := (mkF m 21 #[.val (.int x1), .val (.int x2), .val (.int ((x1 &&& (127 : Int32)).toUInt32.toUInt16.toUInt32.toInt32))] [(.int ((x1 &&& (127 : Int32)).toUInt32.toUInt16.toUInt32.toInt32))])) rfl (by rw [hml]; rfl) (argsL := [(.int ((x1 &&& (127 : Int32)).toUInt32.toUInt16.toUInt32.toInt32))]) (rest := []) (lenOf pd_0 rfl) rfl (own_le rfl) (hb hby at_21) (fun _ _ => ⟨rfl, e0, (by decide : 0 + 0 ≤ _), (by decide : 0 + 0 ≤ _)⟩)
    dsimp only [Pt.U, Pt.locs, Pt.cells, Pt.slots] at X4 l4 y4 z4 st4 hQ4
    subst l4 y4 z4
    obtain ⟨rfl, Nq4, e4⟩ := hQ4
    have N_ := Fr.app N_ Nq4
    refine own_by (T' := T4) (g' := (mkF m 24 #[.val (.int x1), .val (.int x2), .val (.int ((x1 &&& (127 : Int32)).toUInt32.toUInt16.toUInt32.toInt32))] [(.int (own_exp ((x1 &&& (127 : Int32)).toUInt32.toUInt16.toUInt32.toInt32)))])) (fun t k => st4 _ k) ?_
    refine own_by (T' := T4) (g' := (mkF m 25 #[.val (.int x1), .val (.int x2), .val (.int ((x1 &&& (127 : Int32)).toUInt32.toUInt16.toUInt32.toInt32))] [(.int ((x1 &&& (127 : Int32)).toUInt32.toUInt16.toUInt32.toInt32)), (.int (own_exp ((x1 &&& (127 : Int32)).toUInt32.toUInt16.toUInt32.toInt32)))])) (fun t k => XS.iloadN X4.here hx rfl (hb hby at_24) rfl k) ?_
    obtain ⟨_, _, ⟨T5, L5, k5, n5⟩, -, X5, ⟨Lc5, hQ5, l5, y5, z5⟩, st5⟩ := Jvm.LawKit.callS X4 hx (y := (⟨"com/example/emu/emu/CharFrequencyPerTenThousandPinLaw", "expected", "(C)I"⟩ : MethodName)) hown (mvT hZ (hw _ (own_m 6 rfl))) (mvT hZ (hw _ (own_m 7 rfl))) (mvT hZ (hw _ (own_m 8 rfl))) (mvT hZ (hw _ (own_m 9 rfl))) (by decide) (backOf (W := 1) (rm2 l Z a0 hw [] ((x1 &&& (127 : Int32)).toUInt32.toUInt16.toUInt32.toInt32) h0 n0 Zle ) hZ (hw _ (own_m 9 rfl)) (hw _ (own_m 8 rfl)) (by decide) (by decide)) (g := (mkF m 25 #[.val (.int x1), .val (.int x2), .val (.int ((x1 &&& (127 : Int32)).toUInt32.toUInt16.toUInt32.toInt32))] [(.int ((x1 &&& (127 : Int32)).toUInt32.toUInt16.toUInt32.toInt32)), (.int (own_exp ((x1 &&& (127 : Int32)).toUInt32.toUInt16.toUInt32.toInt32)))])) rfl (by rw [hml]; rfl) (argsL := [(.int ((x1 &&& (127 : Int32)).toUInt32.toUInt16.toUInt32.toInt32))]) (rest := [(.int (own_exp ((x1 &&& (127 : Int32)).toUInt32.toUInt16.toUInt32.toInt32)))]) (lenOf pd_0 rfl) rfl (own_le rfl) (hb hby at_25) (fun _ _ => ⟨rfl, e4, (by decide : 0 + 0 ≤ _), (by decide : 0 + 0 ≤ _)⟩)
    dsimp only [Pt.U, Pt.locs, Pt.cells, Pt.slots] at X5 l5 y5 z5 st5 hQ5
    subst l5 y5 z5
    obtain ⟨rfl, Nq5, e5⟩ := hQ5
    have N_ := Fr.app N_ Nq5
    refine own_by (T' := T5) (g' := (mkF m 28 #[.val (.int x1), .val (.int x2), .val (.int ((x1 &&& (127 : Int32)).toUInt32.toUInt16.toUInt32.toInt32))] [(.int (own_exp ((x1 &&& (127 : Int32)).toUInt32.toUInt16.toUInt32.toInt32))), (.int (own_exp ((x1 &&& (127 : Int32)).toUInt32.toUInt16.toUInt32.toInt32)))])) (fun t k => st5 _ k) ?_
    refine own_by (T' := T5) (g' := (mkF m 31 #[.val (.int x1), .val (.int x2), .val (.int ((x1 &&& (127 : Int32)).toUInt32.toUInt16.toUInt32.toInt32))] [])) (fun t k => XS.icmpNo X5.here hx rfl (hb hby at_28) rfl (teq (rfl : (own_exp ((x1 &&& (127 : Int32)).toUInt32.toUInt16.toUInt32.toInt32)) = (own_exp ((x1 &&& (127 : Int32)).toUInt32.toUInt16.toUInt32.toInt32)))).2 k) ?_
    refine own_by (T' := T5) (g' := (mkF m 32 #[.val (.int x1), .val (.int x2), .val (.int ((x1 &&& (127 : Int32)).toUInt32.toUInt16.toUInt32.toInt32))] [(.int 1)])) (fun t k => XS.iconst X5.here hx rfl (hb hby at_31) k) ?_
    refine own_by (T' := T5) (g' := (mkF m 36 #[.val (.int x1), .val (.int x2), .val (.int ((x1 &&& (127 : Int32)).toUInt32.toUInt16.toUInt32.toInt32))] [(.int 1)])) (fun t k => XS.goto X5.here hx rfl (pc0 := 32) (pc' := 36) rfl (hb hby at_32) (by decide) (by decide) k) ?_
    exact own_retN X5 hx (t := .boolean) Bd.notSynchronized Bd.returns (by simp) (hb hby at_36) (by decide) (by decide) (by rw [e5]; exact ⟨rfl, N_⟩)

set_option maxRecDepth 65536 in
set_option maxHeartbeats 40000000 in
theorem comes_1 {Post : Tables → Env → Array Value → State → Outcome → State → Prop} (hpost : ∀ tb e args s v u, (limb_1_1.after args s (.returned v) u = true ∧ limb_1_2.after args s (.returned v) u = true ∧ True) → FrameEnd s (.returned v) u (Jvm.fieldLocs frame_1_writes args s ++ Jvm.arrayLocs frame_1_arrays args s ++ Jvm.staticLocs frame_1_statics s) 0 0 → Post tb e args s (.returned v) u) :
    ArmFor flags0 classFile x code maxLocals ret World_1 tables_1 room_1 Calls_1 rest_1 Pre_1 Post := by
  intro l hfl _ _ p e ha hc hk s m args below hf hA hF happ hP
  obtain ⟨hcalls, hrest, hpre⟩ := hP
  obtain ⟨-, -, -, hnamed, -, -, -, hat⟩ := (Spec.applies_iff hf).mp happ
  obtain ⟨hg, hn⟩ := and_e (Cond.before_iff.mp (show (Jvm.Cond.and given_1 narrow_1).before args s = true from hpre))
  obtain ⟨hcount, g0⟩ := and_e hg
  obtain ⟨a0, g1⟩ := and_e g0
  obtain ⟨w0, w1, rfl⟩ : ∃ w0 w1 : Value, args = #[w0, w1] := by
    have hs : args.size = 2 := by simpa [Cond.value, given_1] using hcount
    obtain ⟨L⟩ := args
    match L, hs with
    | [w0, w1], _ => exact ⟨w0, w1, rfl⟩
  have hw := fun d (hd : d ∈ tables_1) => atoms_spec (ws := Jvm.Cond.code x code maxLocals ret :: tables_1) hat d (List.mem_cons_of_mem _ hd)
  have hfit : Fit s := fun {y c} hc i hi => by
    obtain ⟨ha, rfl⟩ := Array.getElem?_eq_some_iff.mp hc
    have q := List.all_eq_true.mp ((Array.all_eq_true_iff_forall_mem.mp hF) _ (Array.getElem_mem ha)) i (List.mem_range.mpr hi)
    simpa [Array.getElem?_eq_getElem hi] using q
  obtain ⟨i0, ei0⟩ := is_v a0
  obtain rfl : w0 = (.int i0) := Option.some.inj ei0
  obtain ⟨i1, ei1⟩ := is_v g1
  obtain rfl : w1 = (.int i1) := Option.some.inj ei1
  obtain ⟨na0, nb0⟩ := and_e hn
  obtain ⟨na1, nb1⟩ := and_e nb0
  obtain ⟨na2, nb2⟩ := and_e nb1
  obtain ⟨na3, nb3⟩ := and_e nb2
  obtain ⟨na4, nb4⟩ := and_e nb3
  obtain ⟨na5, nb5⟩ := and_e nb4
  obtain ⟨na6, nb6⟩ := and_e nb5
  obtain ⟨na7, nb7⟩ := and_e nb6
  obtain ⟨na8, nb8⟩ := and_e nb7
  obtain ⟨na9, nb9⟩ := and_e nb8
  obtain ⟨na10, nb10⟩ := and_e nb9
  obtain ⟨na11, nb11⟩ := and_e nb10
  obtain ⟨na12, nb12⟩ := and_e nb11
  obtain ⟨na13, nb13⟩ := and_e nb12
  obtain ⟨na14, nb14⟩ := and_e nb13
  obtain ⟨na15, nb15⟩ := and_e nb14
  obtain ⟨na16, nb16⟩ := and_e nb15
  obtain ⟨na17, nb17⟩ := and_e nb16
  obtain ⟨na18, nb18⟩ := and_e nb17
  obtain ⟨na19, nb19⟩ := and_e nb18
  obtain ⟨na20, nb20⟩ := and_e nb19
  obtain ⟨na21, nb21⟩ := and_e nb20
  obtain ⟨na22, nb22⟩ := and_e nb21
  obtain ⟨na23, nb23⟩ := and_e nb22
  obtain ⟨na24, nb24⟩ := and_e nb23
  obtain ⟨na25, nb25⟩ := and_e nb24
  obtain ⟨na26, nb26⟩ := and_e nb25
  obtain ⟨na27, nb27⟩ := and_e nb26
  obtain ⟨na28, nb28⟩ := and_e nb27
  obtain ⟨na29, nb29⟩ := and_e nb28
  obtain ⟨na30, nb30⟩ := and_e nb29
  obtain ⟨na31, nb31⟩ := and_e nb30
  obtain ⟨na32, nb32⟩ := and_e nb31
  obtain ⟨na33, nb33⟩ := and_e nb32
  obtain ⟨na34, nb34⟩ := and_e nb33
  obtain ⟨na35, nb35⟩ := and_e nb34
  obtain ⟨na36, nb36⟩ := and_e nb35
  obtain ⟨na37, nb37⟩ := and_e nb36
  obtain ⟨na38, nb38⟩ := and_e nb37
  obtain ⟨na39, nb39⟩ := and_e nb38
  obtain ⟨na40, nb40⟩ := and_e nb39
  obtain ⟨na41, nb41⟩ := and_e nb40
  obtain ⟨na42, nb42⟩ := and_e nb41
  obtain ⟨na43, nb43⟩ := and_e nb42
  obtain ⟨na44, nb44⟩ := and_e nb43
  obtain ⟨na45, nb45⟩ := and_e nb44
  obtain ⟨na46, nb46⟩ := and_e nb45
  obtain ⟨na47, nb47⟩ := and_e nb46
  obtain ⟨na48, nb48⟩ := and_e nb47
  obtain ⟨na49, nb49⟩ := and_e nb48
  obtain ⟨na50, nb50⟩ := and_e nb49
  obtain ⟨na51, nb51⟩ := and_e nb50
  obtain ⟨na52, nb52⟩ := and_e nb51
  obtain ⟨na53, nb53⟩ := and_e nb52
  obtain ⟨na54, nb54⟩ := and_e nb53
  obtain ⟨na55, nb55⟩ := and_e nb54
  obtain ⟨na56, nb56⟩ := and_e nb55
  obtain ⟨na57, nb57⟩ := and_e nb56
  obtain ⟨na58, nb58⟩ := and_e nb57
  obtain ⟨na59, nb59⟩ := and_e nb58
  obtain ⟨na60, nb60⟩ := and_e nb59
  obtain ⟨na61, nb61⟩ := and_e nb60
  obtain ⟨na62, nb62⟩ := and_e nb61
  obtain ⟨na63, nb63⟩ := and_e nb62
  obtain ⟨ta, ev⟩ := arr_v na0
  obtain ⟨cl, Ar⟩ := Arr.start ev na0
  have S_PER_TEN_THOUSAND := Sta.start ev (Or.inr ⟨(hw _ (own_m 2 rfl)), (hw _ (own_m 5 rfl))⟩)
  have hsz : cl.slots.size = 128 := own_size ev Ar na1
  have q0 := own_rng0 ev Ar hsz na2
  have q9 := own_one ev Ar na3 (by decide)
  have q10 := own_one ev Ar na4 (by decide)
  have q11 := own_one ev Ar na5 (by decide)
  have q12 := own_one ev Ar na6 (by decide)
  have q13 := own_one ev Ar na7 (by decide)
  have q14 := own_rng ev Ar hsz na8
  have q32 := own_one ev Ar na9 (by decide)
  have q33 := own_one ev Ar na10 (by decide)
  have q34 := own_one ev Ar na11 (by decide)
  have q35 := own_rng ev Ar hsz na12
  have q39 := own_one ev Ar na13 (by decide)
  have q40 := own_rng ev Ar hsz na14
  have q44 := own_one ev Ar na15 (by decide)
  have q45 := own_one ev Ar na16 (by decide)
  have q46 := own_one ev Ar na17 (by decide)
  have q47 := own_one ev Ar na18 (by decide)
  have q48 := own_rng ev Ar hsz na19
  have q58 := own_rng ev Ar hsz na20
  have q65 := own_one ev Ar na21 (by decide)
  have q66 := own_one ev Ar na22 (by decide)
  have q67 := own_one ev Ar na23 (by decide)
  have q68 := own_rng ev Ar hsz na24
  have q72 := own_one ev Ar na25 (by decide)
  have q73 := own_one ev Ar na26 (by decide)
  have q74 := own_one ev Ar na27 (by decide)
  have q75 := own_one ev Ar na28 (by decide)
  have q76 := own_one ev Ar na29 (by decide)
  have q77 := own_one ev Ar na30 (by decide)
  have q78 := own_rng ev Ar hsz na31
  have q83 := own_one ev Ar na32 (by decide)
  have q84 := own_one ev Ar na33 (by decide)
  have q85 := own_one ev Ar na34 (by decide)
  have q86 := own_one ev Ar na35 (by decide)
  have q87 := own_one ev Ar na36 (by decide)
  have q88 := own_rng ev Ar hsz na37
  have q97 := own_one ev Ar na38 (by decide)
  have q98 := own_one ev Ar na39 (by decide)
  have q99 := own_one ev Ar na40 (by decide)
  have q100 := own_one ev Ar na41 (by decide)
  have q101 := own_one ev Ar na42 (by decide)
  have q102 := own_one ev Ar na43 (by decide)
  have q103 := own_one ev Ar na44 (by decide)
  have q104 := own_one ev Ar na45 (by decide)
  have q105 := own_one ev Ar na46 (by decide)
  have q106 := own_one ev Ar na47 (by decide)
  have q107 := own_one ev Ar na48 (by decide)
  have q108 := own_one ev Ar na49 (by decide)
  have q109 := own_one ev Ar na50 (by decide)
  have q110 := own_one ev Ar na51 (by decide)
  have q111 := own_one ev Ar na52 (by decide)
  have q112 := own_one ev Ar na53 (by decide)
  have q113 := own_one ev Ar na54 (by decide)
  have q114 := own_one ev Ar na55 (by decide)
  have q115 := own_one ev Ar na56 (by decide)
  have q116 := own_one ev Ar na57 (by decide)
  have q117 := own_one ev Ar na58 (by decide)
  have q118 := own_one ev Ar na59 (by decide)
  have q119 := own_one ev Ar na60 (by decide)
  have q120 := own_one ev Ar na61 (by decide)
  have q121 := own_one ev Ar na62 (by decide)
  have q122 := own_rng ev Ar hsz na63
  have q127 := own_one ev Ar nb63 (by decide)
  have hT := own_tabJ (own_tab q0 q9 q10 q11 q12 q13 q14 q32 q33 q34 q35 q39 q40 q44 q45 q46 q47 q48 q58 q65 q66 q67 q68 q72 q73 q74 q75 q76 q77 q78 q83 q84 q85 q86 q87 q88 q97 q98 q99 q100 q101 q102 q103 q104 q105 q106 q107 q108 q109 q110 q111 q112 q113 q114 q115 q116 q117 q118 q119 q120 q121 q122 q127)
  obtain ⟨n, o, h1, h2, h3, _, L, rfl, ⟨rfl, N⟩, hq⟩ := rm0 l s _ hw tables_1 i0 i1 ta cl s.heap s.heap.size (Nat.le_refl _) S_PER_TEN_THOUSAND Ar hsz hT p e ha hc hk s m _ below hf ((Spec.applies_iff_loose hf).mp happ).1 ⟨rfl, State.Warmed39.refl s, rfl⟩ trivial
  refine ⟨n, _, h1, h2, h3, hpost _ _ _ _ _ _ ⟨Cond.after_iff.mpr rfl, Cond.after_iff.mpr (eq_i res_at (Term.int_eval (1)) rfl), trivial⟩ ⟨hq.1, hq.2.1, (hq.2.2.sift fun y hy => Or.inr (N y hy)).mono (by decide) (by decide)⟩⟩
theorem main_1_1 : Claimed_1_1 := comes_1 fun _ _ _ _ _ _ h hF => ⟨h.1, hF⟩
theorem main_1_2 : Claimed_1_2 := comes_1 fun _ _ _ _ _ _ h hF => ⟨h.2.1, hF⟩

end Jvm.Pilot.@@N@@
namespace Jvm.Pilot.@@N@@
open Jvm Jvm.ClassFile Sem Op Lib Jvm.Free Jvm.Stand Jvm.Pilot.@@N@@.Jvm.D
/-! MADE BY PROGRAM (witnessworld.py) out of the Statement's table words and the real class files: 9 classes; the members and pool entries that the words name. The judged class is class 1, her method 1. -/
namespace start1
open Jvm.ClassFile
def u (s : String) : CpInfo := .utf8 (stringToUtf16 s)
/-- a pool by its gaps: so many unusable entries, then the entry; so many at the end -/
def gap : Nat → List CpInfo → List CpInfo
  | 0, r => r
  | n + 1, r => .unusable :: gap n r
def poolList (es : List (Nat × CpInfo)) (last : Nat) : List CpInfo := es.foldr (fun e r => gap e.1 (e.2 :: r)) (gap last [])
def pool (es : List (Nat × CpInfo)) (last : Nat) : Array CpInfo := ⟨poolList es last⟩
def fileOf (pool : Array CpInfo) (this : Nat) (attrs : Array Attribute := #[]) (ms : Array MethodInfo := #[]) (fl : Nat := 33) (sup : Nat := 0) (ifs : Array Nat := #[]) (fds : Array FieldInfo := #[]) : ClassFile where
  minorVersion := 0
  majorVersion := 65
  constantPool := pool
  accessFlags := fl
  thisClass := this
  superClass := sup
  interfaces := ifs
  fields := fds
  methods := ms
  attributes := attrs
def plain (name : String) (sup : Option ClassId) : Class where
  name := name
  kind := .ordinary
  loader := none
  accessFlags := 33
  super := sup
  interfaces := #[]
  cf := none
  fields := #[]
  methods := #[]
  instanceTypes := #[]
  staticTypes := #[]
  resolved := #[]
  callSites := []
  init := .initialized
  statics := none
  mirror := none

def pool0 : Array CpInfo := pool [(5, u "<init>"), (0, u "()V"), (1, .class_ 10), (1, u "java/lang/Object")] 113

def k0m0 : Method := { name := "<init>", desc := "()V", sig := { parameters := [], returnType := none }, accessFlags := 1, code := none }
/-- java/lang/Object -/
def k0 : Class := { plain "java/lang/Object" none with
  accessFlags := 33
  interfaces := #[]
  cf := some (fileOf pool0 8 #[] #[{ accessFlags := 1, nameIndex := 5, descriptorIndex := 6, attributes := #[] }] 33 0 #[] #[])
  fields := #[]
  methods := #[k0m0]
  instanceTypes := #[]
  staticTypes := #[]
  resolved := Array.replicate 124 none
  statics := none }

def pool1 : Array CpInfo := pool [(2, .class_ 4), (1, u "java/lang/Object"), (0, u "<init>"), (0, u "()V"), (0, .integer 65535), (0, .methodref 9 10), (0, .class_ 11), (0, .nameAndType 12 13), (0, u "com/example/emu/emu/CharFrequency"), (0, u "perTenThousand"), (0, u "(C)I"), (0, .methodref 15 16), (0, .class_ 17), (0, .nameAndType 18 13), (0, u "com/example/emu/emu/CharFrequencyPerTenThousandPinLaw"), (0, u "expected"), (0, .methodref 15 20), (0, .nameAndType 21 22), (0, u "isCapitalListed"), (0, u "(C)Z"), (2, u "law"), (0, u "(II)Z")] 3

def k1m0 : Method := { name := "<init>", desc := "()V", sig := { parameters := [], returnType := none }, accessFlags := 2, code := none }
def k1c1 : Code := { maxStack := 2, maxLocals := 3, code := code, exceptionTable := #[], attributes := #[] }
def k1m1 : Method := { name := "law", desc := "(II)Z", sig := { parameters := [.int, .int], returnType := some .boolean }, accessFlags := 9, code := some k1c1 }
def k1c2 : Code := { maxStack := 2, maxLocals := 1, code := method_3_code, exceptionTable := #[], attributes := #[] }
def k1m2 : Method := { name := "isCapitalListed", desc := "(C)Z", sig := { parameters := [.char], returnType := some .boolean }, accessFlags := 10, code := some k1c2 }
def k1c3 : Code := { maxStack := 2, maxLocals := 1, code := method_4_code, exceptionTable := #[], attributes := #[] }
def k1m3 : Method := { name := "expected", desc := "(C)I", sig := { parameters := [.char], returnType := some .int }, accessFlags := 10, code := some k1c3 }
/-- com/example/emu/emu/CharFrequencyPerTenThousandPinLaw -/
def k1 : Class := { plain "com/example/emu/emu/CharFrequencyPerTenThousandPinLaw" (some 0) with
  accessFlags := 49
  interfaces := #[]
  cf := some (fileOf pool1 15 #[] #[{ accessFlags := 2, nameIndex := 5, descriptorIndex := 6, attributes := #[] }, { accessFlags := 9, nameIndex := 25, descriptorIndex := 26, attributes := #[] }, { accessFlags := 10, nameIndex := 21, descriptorIndex := 22, attributes := #[] }, { accessFlags := 10, nameIndex := 18, descriptorIndex := 13, attributes := #[] }] 49 2 #[] #[])
  fields := #[]
  methods := #[k1m0, k1m1, k1m2, k1m3]
  instanceTypes := #[]
  staticTypes := #[]
  resolved := Array.replicate 30 none
  statics := none }

def pool2 : Array CpInfo := pool [(2, .class_ 4), (1, u "java/lang/Object"), (0, u "<init>"), (0, u "()V"), (0, .class_ 8), (0, u "com/example/emu/emu/CharFrequency"), (0, .fieldref 7 10), (0, .nameAndType 11 12), (0, u "PER_TEN_THOUSAND"), (0, u "[I"), (42, u "UNLISTED"), (0, u "I"), (2, u "OTHER"), (1, u "ASCII"), (3, u "perTenThousand"), (0, u "(C)I")] 5

def k2m0 : Method := { name := "<init>", desc := "()V", sig := { parameters := [], returnType := none }, accessFlags := 2, code := none }
def k2c1 : Code := { maxStack := 2, maxLocals := 1, code := prog_9_method_2_code, exceptionTable := #[], attributes := #[] }
def k2m1 : Method := { name := "perTenThousand", desc := "(C)I", sig := { parameters := [.char], returnType := some .int }, accessFlags := 8, code := some k2c1 }
/-- com/example/emu/emu/CharFrequency -/
def k2 : Class := { plain "com/example/emu/emu/CharFrequency" (some 0) with
  accessFlags := 48
  interfaces := #[]
  cf := some (fileOf pool2 7 #[] #[{ accessFlags := 2, nameIndex := 5, descriptorIndex := 6, attributes := #[] }, { accessFlags := 8, nameIndex := 65, descriptorIndex := 66, attributes := #[] }] 48 2 #[] #[{ accessFlags := 26, nameIndex := 55, descriptorIndex := 56, attributes := #[] }, { accessFlags := 26, nameIndex := 59, descriptorIndex := 56, attributes := #[] }, { accessFlags := 26, nameIndex := 61, descriptorIndex := 56, attributes := #[] }, { accessFlags := 26, nameIndex := 11, descriptorIndex := 12, attributes := #[] }])
  fields := #[{ name := "UNLISTED", type := .int, accessFlags := 26, slot := 0, constantValue := 0 }, { name := "OTHER", type := .int, accessFlags := 26, slot := 1, constantValue := 0 }, { name := "ASCII", type := .int, accessFlags := 26, slot := 2, constantValue := 0 }, { name := "PER_TEN_THOUSAND", type := (.array .int), accessFlags := 26, slot := 3, constantValue := 0 }]
  methods := #[k2m0, k2m1]
  instanceTypes := #[]
  staticTypes := #[.int, .int, .int, (.array .int)]
  resolved := Array.replicate 72 none
  statics := some 0 }

def pool3 : Array CpInfo := pool [(1, u "java/lang/Cloneable"), (0, .class_ 1), (0, u "java/lang/Object"), (0, .class_ 3)] 3

/-- java/lang/Cloneable -/
def k3 : Class := { plain "java/lang/Cloneable" (some 0) with
  accessFlags := 1537
  interfaces := #[]
  cf := some (fileOf pool3 2 #[] #[] 1537 4 #[] #[])
  fields := #[]
  methods := #[]
  instanceTypes := #[]
  staticTypes := #[]
  resolved := Array.replicate 8 none
  statics := none }

def pool4 : Array CpInfo := pool [(1, u "java/io/Serializable"), (0, .class_ 1), (0, u "java/lang/Object"), (0, .class_ 3)] 3

/-- java/io/Serializable -/
def k4 : Class := { plain "java/io/Serializable" (some 0) with
  accessFlags := 1537
  interfaces := #[]
  cf := some (fileOf pool4 2 #[] #[] 1537 4 #[] #[])
  fields := #[]
  methods := #[]
  instanceTypes := #[]
  staticTypes := #[]
  resolved := Array.replicate 8 none
  statics := none }

/-- the primitive byte -/
def k5 : Class := { plain "byte" none with kind := .primitive 'B', accessFlags := 0x411 }
/-- [B -/
def k6 : Class := { plain "[B" (some 0) with kind := .array 5 .byte, interfaces := #[3, 4], accessFlags := 1041 }

/-- the primitive int -/
def k7 : Class := { plain "int" none with kind := .primitive 'I', accessFlags := 0x411 }
/-- [I -/
def k8 : Class := { plain "[I" (some 0) with kind := .array 7 .int, interfaces := #[3, 4], accessFlags := 1041 }

def heap : Heap := #[{ cls := 2, slots := #[.int 0, .int 0, .int 0, .ref 1], vm := .statics 2 },
  { cls := 8, slots := #[.int 0, .int 0, .int 0, .int 0, .int 0, .int 0, .int 0, .int 0, .int 0, .int 30, .int 120, .int 0, .int 0, .int 60, .int 0, .int 0, .int 0, .int 0, .int 0, .int 0, .int 0, .int 0, .int 0, .int 0, .int 0, .int 0, .int 0, .int 0, .int 0, .int 0, .int 0, .int 0, .int 1800, .int 10, .int 30, .int 10, .int 10, .int 10, .int 10, .int 30, .int 10, .int 10, .int 10, .int 10, .int 120, .int 30, .int 120, .int 10, .int 30, .int 30, .int 30, .int 30, .int 30, .int 30, .int 30, .int 30, .int 30, .int 30, .int 10, .int 10, .int 10, .int 10, .int 10, .int 10, .int 10, .int 30, .int 30, .int 30, .int 10, .int 10, .int 10, .int 10, .int 30, .int 30, .int 10, .int 10, .int 10, .int 30, .int 10, .int 10, .int 10, .int 10, .int 10, .int 30, .int 30, .int 10, .int 10, .int 30, .int 10, .int 10, .int 10, .int 10, .int 10, .int 10, .int 10, .int 10, .int 10, .int 600, .int 120, .int 220, .int 330, .int 1000, .int 170, .int 170, .int 500, .int 600, .int 10, .int 60, .int 330, .int 170, .int 500, .int 600, .int 170, .int 10, .int 500, .int 500, .int 700, .int 220, .int 80, .int 170, .int 10, .int 170, .int 10, .int 10, .int 10, .int 10, .int 10, .int 0], vm := .none }]
def classes : Array Class := #[k0, k1, k2, k3, k4, k5, k6, k7, k8]
def interned : List (Array UInt16 × Addr) := []
def slotsUsed : Nat := 132
def theMethod : MethodId := ⟨1, 1⟩
def args0 : Array Value := #[.int 5, .int 6]
def aboutOver (below : List Frame) : State where
  vm := { classes := classes, interned := interned.toArray }
  heap := heap
  slotsUsed := slotsUsed
  threads := #[{ frames := .invoking theMethod args0 :: below }]
def below0 : List Frame := [.native { method := ⟨0, 0⟩, args := #[] }]
def about1 : State := aboutOver below0
def p0 : Program := .bare "" "" ""
def e0 : Env := launch0.env 0 0 0
theorem w_frames : about1.frames = Frame.invoking theMethod args0 :: below0 := rfl
set_option maxRecDepth 65536 in
theorem w_args : argsFit about1.vm theMethod args0 = true := by decide +kernel
set_option maxRecDepth 65536 in
theorem w_heap : heapFits about1 = true := by decide +kernel
set_option maxRecDepth 65536 in
theorem w_runnable : about1.curStatus? = some .runnable := by decide +kernel
set_option maxRecDepth 65536 in
theorem w_alone : about1.alone = true := by decide +kernel
set_option maxRecDepth 65536 in
theorem w_named : about1.methodNamed? x = some theMethod := by decide +kernel
set_option maxRecDepth 65536 in
theorem w_hears : about1.hears theMethod below0 = true := by decide +kernel
set_option maxRecDepth 65536 in
theorem w_ripe : about1.ripe theMethod args0 below0 = true := by decide +kernel
theorem w_running : about1.status = .running := rfl
set_option maxRecDepth 65536 in
theorem w_room : about1.hasRoom e0.platform room_1 = true :=
  launch0.hasRoom_least _ room_1 (by decide +kernel) (by decide +kernel) (by decide +kernel) (by decide +kernel) (by decide +kernel) (by decide +kernel)
theorem allAtoms_all (ts : List Jvm.Cond) (a : Array Jvm.Value) (st : Jvm.State) : (allAtoms ts).before a st = ts.all (fun c => c.before a st) := by
  induction ts with
  | nil => rfl
  | cons c t ih =>
    show (Jvm.Cond.and c (allAtoms t)).before a st = _
    rw [Jvm.Cond.before_and, ih, List.all_cons]
def words1 : List Jvm.Cond := Jvm.Cond.code x code maxLocals ret :: tables_1
/-- a 'code' word, met by the world's own term for the bytes: nothing is compared byte by byte -/
theorem code_word {y : MethodName} {bytes : ByteArray} {mx : Nat} {rt : Option FieldType} {a : Array Value} {s : State} {m : MethodId} {meth : Method} {c : Code} (h1 : s.methodNamed? y = some m) (h2 : s.vm.method? m = some meth) (h3 : meth.code = some c) (h4 : c.code = bytes)
    (h5 : (c.maxLocals == mx && c.exceptionTable.isEmpty && decide (c.maxStack ≤ mostOperands) && decide (meth.sig.returnType = rt) && !meth.locks && decide (parseMethodDescriptor y.desc = some meth.sig)) = true) : (Jvm.Cond.code y bytes mx rt).before a s = true := by
  simp only [Bool.and_eq_true, beq_iff_eq, Bool.not_eq_true', decide_eq_true_eq] at h5
  obtain ⟨⟨⟨⟨⟨g1, g2⟩, g3⟩, g4⟩, g5⟩, g6⟩ := h5
  simp [Cond.before, Cond.holds, Cond.value, h1, h2, h3, h4, g1, g2, g3, g4, g5, g6]
def isCode : Jvm.Cond → Bool
  | .code _ _ _ _ => true
  | _ => false
theorem all_split {L : List Jvm.Cond} {P : Jvm.Cond → Bool} (h1 : L.all (fun c => isCode c || P c) = true) (h2 : ∀ c ∈ L.filter isCode, P c = true) : L.all P = true := by
  refine List.all_eq_true.mpr fun c hc => ?_
  have h := List.all_eq_true.mp h1 c hc
  rcases Bool.eq_false_or_eq_true (isCode c) with hi | hi
  · exact h2 c (List.mem_filter.mpr ⟨hc, hi⟩)
  · simpa [hi] using h
set_option maxRecDepth 65536 in
theorem w_c0 : (Jvm.Cond.code x code maxLocals ret).before args0 about1 = true := code_word (m := ⟨1, 1⟩) (meth := k1m1) (c := k1c1) (by decide +kernel) rfl rfl rfl (by decide +kernel)
set_option maxRecDepth 65536 in
theorem w_c1 : (Jvm.Cond.code ({ cls := "com/example/emu/emu/CharFrequency", name := "perTenThousand", desc := "(C)I" } : Jvm.MethodName) prog_9_method_2_code (1 : Nat) (Option.some Jvm.ClassFile.FieldType.int)).before args0 about1 = true := code_word (m := ⟨2, 1⟩) (meth := k2m1) (c := k2c1) (by decide +kernel) rfl rfl rfl (by decide +kernel)
set_option maxRecDepth 65536 in
theorem w_c2 : (Jvm.Cond.code ({ cls := "com/example/emu/emu/CharFrequencyPerTenThousandPinLaw", name := "expected", desc := "(C)I" } : Jvm.MethodName) method_4_code (1 : Nat) (Option.some Jvm.ClassFile.FieldType.int)).before args0 about1 = true := code_word (m := ⟨1, 3⟩) (meth := k1m3) (c := k1c3) (by decide +kernel) rfl rfl rfl (by decide +kernel)
set_option maxRecDepth 65536 in
theorem w_c3 : (Jvm.Cond.code ({ cls := "com/example/emu/emu/CharFrequencyPerTenThousandPinLaw", name := "isCapitalListed", desc := "(C)Z" } : Jvm.MethodName) method_3_code (1 : Nat) (Option.some Jvm.ClassFile.FieldType.boolean)).before args0 about1 = true := code_word (m := ⟨1, 2⟩) (meth := k1m2) (c := k1c2) (by decide +kernel) rfl rfl rfl (by decide +kernel)
def codes1 : List Jvm.Cond := [Jvm.Cond.code x code maxLocals ret, Jvm.Cond.code ({ cls := "com/example/emu/emu/CharFrequency", name := "perTenThousand", desc := "(C)I" } : Jvm.MethodName) prog_9_method_2_code (1 : Nat) (Option.some Jvm.ClassFile.FieldType.int), Jvm.Cond.code ({ cls := "com/example/emu/emu/CharFrequencyPerTenThousandPinLaw", name := "expected", desc := "(C)I" } : Jvm.MethodName) method_4_code (1 : Nat) (Option.some Jvm.ClassFile.FieldType.int), Jvm.Cond.code ({ cls := "com/example/emu/emu/CharFrequencyPerTenThousandPinLaw", name := "isCapitalListed", desc := "(C)Z" } : Jvm.MethodName) method_3_code (1 : Nat) (Option.some Jvm.ClassFile.FieldType.boolean)]
set_option maxRecDepth 65536 in
theorem codes_eq : words1.filter isCode = codes1 := rfl
theorem w_codes : ∀ c ∈ words1.filter isCode, c.before args0 about1 = true := by
  rw [codes_eq]
  intro c hc
  simp only [codes1, List.mem_cons, List.not_mem_nil, or_false] at hc
  rcases hc with rfl | rfl | rfl | rfl
  · exact w_c0
  · exact w_c1
  · exact w_c2
  · exact w_c3
set_option maxRecDepth 65536 in
theorem w_t1 : words1.all (fun c => isCode c || c.before args0 about1) = true := by decide +kernel
theorem w_tables : (allAtoms (Jvm.Cond.code x code maxLocals ret :: tables_1)).before args0 about1 = true := by
  rw [allAtoms_all]
  show words1.all (fun c => c.before args0 about1) = true
  refine all_split ?_ w_codes
  rw [w_t1]
set_option maxRecDepth 65536 in
theorem w_case : (Jvm.Cond.and given_1 narrow_1).before args0 about1 = true := by decide +kernel
theorem w_applies : (headSpec (Jvm.Cond.code x code maxLocals ret :: tables_1) room_1).applies x e0.platform about1 = true :=
  (Spec.applies_iff w_frames).mpr ⟨w_running, w_runnable, w_alone, w_named, w_hears, w_ripe, w_room, w_tables⟩
theorem atStart : AtStart classFile x code maxLocals ret World_1 tables_1 room_1 Calls_1 rest_1 Pre_1 launch0 p0 e0 about1 theMethod args0 below0 :=
  ⟨lists_1, trivial, launch0.admits_env _ _ _, launch0.least_env, fairChoices_fair.cas, fairChoices_fair.clock, w_frames, w_args, w_heap, w_applies, trivial, trivial, w_case⟩
end start1
theorem witness_1 : WitnessClaimed_1 := ⟨start1.p0, start1.e0, start1.about1, start1.theMethod, start1.args0, start1.below0, start1.atStart⟩
end Jvm.Pilot.@@N@@
