import JvmDerived
import JvmDerived.Pilot.@@N@@Statement
import JvmDerived.Pilot.@@N@@Code
set_option linter.unusedVariables false
set_option linter.unusedSimpArgs false
namespace Jvm.Pilot.@@N@@
open Jvm Jvm.ClassFile Sem Op Lib Jvm.Free Jvm.Stand Jvm.LawKit Jvm.RoadKit Bundle Jvm.Pilot.@@N@@.Jvm.D
section OwnKit
variable {p : Program} {l : Launch} {e : Env} {R : Room} {s : State} {m : MethodId} {args : Array Value} {below : List Frame} {meth : Method} {c : Code} {T : State} {locs : List Loc} {cells slots : Nat}
/-- from U the walk comes to its end, and there Q holds -/
def own_Go (p : Program) (e : Env) (below : List Frame) (Q : Option Value → Heap → List Loc → Prop) (F : List Loc → Outcome → State → Prop) (U : State) : Prop :=
  ∃ t o, Steps p.tables e below U t ∧ t.status = .running ∧ Ended t below o ∧ ∃ v L, o = .returned v ∧ Q v t.heap L ∧ F L o t
def own_Fr (s : State) (C S : Nat) (L : List Loc) (o : Outcome) (t : State) : Prop := FrameEnd s o t L C S
def own_FrW (s : State) (C S : Nat) (L : List Loc) (o : Outcome) (t : State) : Prop := ReturnedEndW s o t L C S
variable {Q : Option Value → Heap → List Loc → Prop} {F : List Loc → Outcome → State → Prop} {C S : Nat}
theorem own_by {U U' : State} (k : ∀ t, Steps p.tables e below U' t → Steps p.tables e below U t) (h : own_Go p e below Q F U') : own_Go p e below Q F U := by
  obtain ⟨t, o, h1, h2⟩ := h
  exact ⟨t, o, k t h1, h2⟩
theorem own_via {U U' : State} (k : Steps p.tables e below U U') (h : own_Go p e below Q F U') : own_Go p e below Q F U := own_by (fun _ q => k.trans q) h
theorem own_ret (X : Stand p l e R s m args below meth c T locs cells slots) (hx : p.tables.exec = Jvm.exec) {pc : Nat} {Ls : Array Slot} {w : Value} {t : FieldType} {i : Instr} {rest : List Value} (hret : meth.sig.returnType = some t) (hlocks : meth.locks = false)
    (hi : (i = .ireturn ∧ (t = .int ∨ t = .boolean ∨ t = .byte ∨ t = .char ∨ t = .short) ∧ ∃ z, w = .int z) ∨ (i = .lreturn ∧ t = .long ∧ ∃ z, w = .long z) ∨ (i = .dreturn ∧ t = .double ∧ ∃ z, w = .double z) ∨ (i = .freturn ∧ t = .float ∧ ∃ z, w = .float z) ∨ (i = .areturn ∧ t.isReference = true ∧ w.isRef = true))
    (hd : decode c.code pc = .ok (i, 1)) (hn : narrow t w = w) (hc : cells ≤ C) (hs : slots ≤ S) (hQ : Q (some w) T.heap locs) : own_Go p e below Q (own_Fr s C S) (T.setTop (mkF m pc Ls (w :: rest))) := by
  obtain ⟨fs, hr, hrun, hended, hW, hsame⟩ := X.leave (v := some w) (fun h => by rw [hret] at h; cases h) hlocks
  exact ⟨_, _, retOut X hx hret hn hi hd hr, hrun, hended, _, _, rfl, hQ, ⟨_, rfl⟩, hW, hsame.mono hc hs⟩
theorem own_ret0 (X : Stand p l e R s m args below meth c T locs cells slots) (hx : p.tables.exec = Jvm.exec) {pc : Nat} {Ls : Array Slot} {st : List Value} (hret : meth.sig.returnType = none) (hlocks : meth.locks = false)
    (hd : decode c.code pc = .ok (.return_, 1)) (hst : st = []) (hc : cells ≤ C) (hs : slots ≤ S) (hQ : Q none T.heap locs) : own_Go p e below Q (own_Fr s C S) (T.setTop (mkF m pc Ls st)) := by
  subst hst
  obtain ⟨fs, hr, hrun, hended, hW, hsame⟩ := X.leave (v := none) (fun _ => rfl) hlocks
  exact ⟨_, _, X.returnOut hx hret hd hr, hrun, hended, _, _, rfl, hQ, ⟨_, rfl⟩, hW, hsame.mono hc hs⟩
theorem own_retW {s : State} {vm₁ : Vm} {nn : Nat} (X : Stand p l e R (s.setVm vm₁) m args below meth c T locs cells slots) (hx : p.tables.exec = Jvm.exec) {pc : Nat} {Ls : Array Slot} {w : Value} {t : FieldType} {i : Instr} {rest : List Value} (hret : meth.sig.returnType = some t) (hlocks : meth.locks = false) (hS : s.Since vm₁ nn) (hk : nn ≤ T.heap.size)
    (hi : (i = .ireturn ∧ (t = .int ∨ t = .boolean ∨ t = .byte ∨ t = .char ∨ t = .short) ∧ ∃ z, w = .int z) ∨ (i = .lreturn ∧ t = .long ∧ ∃ z, w = .long z) ∨ (i = .dreturn ∧ t = .double ∧ ∃ z, w = .double z) ∨ (i = .freturn ∧ t = .float ∧ ∃ z, w = .float z) ∨ (i = .areturn ∧ t.isReference = true ∧ w.isRef = true))
    (hd : decode c.code pc = .ok (i, 1)) (hn : narrow t w = w) (hc : cells ≤ C) (hs : slots ≤ S) (hQ : Q (some w) T.heap locs) : own_Go p e below Q (own_FrW s C S) (T.setTop (mkF m pc Ls (w :: rest))) := by
  obtain ⟨fs, hr, hrun, hended, hW⟩ := X.leaveW hS hk (v := some w) (fun h => by rw [hret] at h; cases h) hlocks
  exact ⟨_, _, retOut X hx hret hn hi hd hr, hrun, hended, _, _, rfl, hQ, hW.1, hW.2.1, hW.2.2.1, hW.2.2.2.mono hc hs⟩
theorem own_nz {z : Int32} (h : z.toInt = 0 ∨ z.toInt = 1) : narrow .boolean (.int z) = .int z := by
  rcases h with h | h
  · obtain rfl : z = 0 := Int32.toInt_inj.mp h
    rfl
  · obtain rfl : z = 1 := Int32.toInt_inj.mp h
    rfl
theorem own_nb {z : Int32} (h : -128 ≤ z.toInt ∧ z.toInt < 128) : nar .byte z = z := by
  have q := c_i2b z
  exact Int32.toInt_inj.mp (by show z.toInt8.toInt32.toInt = z.toInt; omega)
theorem own_fb {z : Int32} (h : -128 ≤ z.toInt ∧ z.toInt < 128) : fits .byte (.int z) = true := by
  have q := fits_nar_byte z
  rw [show z.toInt8.toInt32 = z from own_nb h] at q
  exact q
theorem own_b01 {z : Int32} (h : z.toInt = 0 ∨ z.toInt = 1) : z = 0 ∨ z = 1 := h.imp (fun q => Int32.toInt_inj.mp q) (fun q => Int32.toInt_inj.mp q)
theorem own_nbool {z : Int32} (h : z.toInt = 0 ∨ z.toInt = 1) : nar .boolean z = z := by rcases own_b01 h with rfl | rfl <;> decide
theorem own_fbool {z : Int32} (h : z.toInt = 0 ∨ z.toInt = 1) : fits .boolean (.int z) = true := by rcases own_b01 h with rfl | rfl <;> decide
theorem own_lt {x y : Int32} : x.toInt < y.toInt ↔ x < y := Int32.lt_iff_toInt_lt.symm
theorem own_yes_lt {x y : Int32} {a b : Int} (ha : x.toInt = a) (hb : y.toInt = b) (h : a < b) : if_icmp.holds .lt x y = true := by subst ha hb; exact (tlt (own_lt.mp h)).1
theorem own_no_lt {x y : Int32} {a b : Int} (ha : x.toInt = a) (hb : y.toInt = b) (h : ¬ a < b) : if_icmp.holds .lt x y = false := by subst ha hb; exact (flt (fun q => h (own_lt.mpr q))).1
theorem own_yes_ge {x y : Int32} {a b : Int} (ha : x.toInt = a) (hb : y.toInt = b) (h : ¬ a < b) : if_icmp.holds .ge x y = true := by subst ha hb; exact (flt (fun q => h (own_lt.mpr q))).2.1
theorem own_no_ge {x y : Int32} {a b : Int} (ha : x.toInt = a) (hb : y.toInt = b) (h : a < b) : if_icmp.holds .ge x y = false := by subst ha hb; exact (tlt (own_lt.mp h)).2.1
theorem own_yes_gt {x y : Int32} {a b : Int} (ha : x.toInt = a) (hb : y.toInt = b) (h : b < a) : if_icmp.holds .gt x y = true := by subst ha hb; exact (tlt (own_lt.mp h)).2.2.1
theorem own_no_gt {x y : Int32} {a b : Int} (ha : x.toInt = a) (hb : y.toInt = b) (h : ¬ b < a) : if_icmp.holds .gt x y = false := by subst ha hb; exact (flt (fun q => h (own_lt.mpr q))).2.2.1
theorem own_yes_le {x y : Int32} {a b : Int} (ha : x.toInt = a) (hb : y.toInt = b) (h : ¬ b < a) : if_icmp.holds .le x y = true := by subst ha hb; exact (flt (fun q => h (own_lt.mpr q))).2.2.2
theorem own_no_le {x y : Int32} {a b : Int} (ha : x.toInt = a) (hb : y.toInt = b) (h : b < a) : if_icmp.holds .le x y = false := by subst ha hb; exact (tlt (own_lt.mp h)).2.2.2
theorem own_yes_eq {x y : Int32} {a b : Int} (ha : x.toInt = a) (hb : y.toInt = b) (h : a = b) : if_icmp.holds .eq x y = true := by subst ha hb; exact (teq (Int32.toInt_inj.mp h)).1
theorem own_no_eq {x y : Int32} {a b : Int} (ha : x.toInt = a) (hb : y.toInt = b) (h : ¬ a = b) : if_icmp.holds .eq x y = false := by subst ha hb; exact (feq (fun q => h (congrArg Int32.toInt q))).1
theorem own_yes_ne {x y : Int32} {a b : Int} (ha : x.toInt = a) (hb : y.toInt = b) (h : ¬ a = b) : if_icmp.holds .ne x y = true := by subst ha hb; exact (feq (fun q => h (congrArg Int32.toInt q))).2
theorem own_no_ne {x y : Int32} {a b : Int} (ha : x.toInt = a) (hb : y.toInt = b) (h : a = b) : if_icmp.holds .ne x y = false := by subst ha hb; exact (teq (Int32.toInt_inj.mp h)).2
theorem own_z {cd : ClassFile.Cond} {x : Int32} {b : Bool} (h : if_icmp.holds cd x 0 = b) : ifCond.holds cd x = b := (if0 cd x).trans h
theorem own_lcm {x y : Int64} {a b : Int} (ha : x.toInt = a) (hb : y.toInt = b) : (a < b ∧ (lcmpW x y).toInt = -1) ∨ (a = b ∧ (lcmpW x y).toInt = 0) ∨ (b < a ∧ (lcmpW x y).toInt = 1) := by
  subst ha hb
  obtain ⟨h1, h2, h3⟩ := c_lcmp x y
  omega
theorem own_ne0 {x : Int32} {a : Int} (ha : x.toInt = a) (h : ¬ a = 0) : x ≠ 0 := fun q => h (by rw [← ha, q]; rfl)
theorem own_iloadN (X : Stand p l e R s m args below meth c T locs cells slots) (hx : p.tables.exec = Jvm.exec) {pc pc' : Nat} {Ls : Array Slot} {st : List Value} {k : Fin 4} {v : Int32} (hl : Ls[k.val]? = some (.val (.int v))) (hd : decode c.code pc = .ok (.iload_n k, 1)) (hp : pc + 1 = pc') (h : own_Go p e below Q F (T.setTop (mkF m pc' Ls (.int v :: st)))) : own_Go p e below Q F (T.setTop (mkF m pc Ls st)) := by
  subst hp
  exact own_by (fun _ q => XS.iloadN X.here hx rfl hd hl q) h
theorem own_iload (X : Stand p l e R s m args below meth c T locs cells slots) (hx : p.tables.exec = Jvm.exec) {pc pc' : Nat} {Ls : Array Slot} {st : List Value} {k : Nat} {v : Int32} (hl : Ls[k]? = some (.val (.int v))) (hd : decode c.code pc = .ok (.iload k, 2)) (hp : pc + 2 = pc') (h : own_Go p e below Q F (T.setTop (mkF m pc' Ls (.int v :: st)))) : own_Go p e below Q F (T.setTop (mkF m pc Ls st)) := by
  subst hp
  exact own_by (fun _ q => XS.iload X.here hx rfl hd hl q) h
theorem own_lloadN (X : Stand p l e R s m args below meth c T locs cells slots) (hx : p.tables.exec = Jvm.exec) {pc pc' : Nat} {Ls : Array Slot} {st : List Value} {k : Fin 4} {v : Int64} (hl : Ls[k.val]? = some (.val (.long v))) (hd : decode c.code pc = .ok (.lload_n k, 1)) (hp : pc + 1 = pc') (h : own_Go p e below Q F (T.setTop (mkF m pc' Ls (.long v :: st)))) : own_Go p e below Q F (T.setTop (mkF m pc Ls st)) := by
  subst hp
  exact own_by (fun _ q => XS.lloadN X.here hx rfl hd hl q) h
theorem own_lload (X : Stand p l e R s m args below meth c T locs cells slots) (hx : p.tables.exec = Jvm.exec) {pc pc' : Nat} {Ls : Array Slot} {st : List Value} {k : Nat} {v : Int64} (hl : Ls[k]? = some (.val (.long v))) (hd : decode c.code pc = .ok (.lload k, 2)) (hp : pc + 2 = pc') (h : own_Go p e below Q F (T.setTop (mkF m pc' Ls (.long v :: st)))) : own_Go p e below Q F (T.setTop (mkF m pc Ls st)) := by
  subst hp
  exact own_by (fun _ q => XS.lload X.here hx rfl hd hl q) h
theorem own_aloadN (X : Stand p l e R s m args below meth c T locs cells slots) (hx : p.tables.exec = Jvm.exec) {pc pc' : Nat} {Ls : Array Slot} {st : List Value} {k : Fin 4} {v : Value} (hl : Ls[k.val]? = some (.val v)) (hv : v.isRef = true) (hd : decode c.code pc = .ok (.aload_n k, 1)) (hp : pc + 1 = pc') (h : own_Go p e below Q F (T.setTop (mkF m pc' Ls (v :: st)))) : own_Go p e below Q F (T.setTop (mkF m pc Ls st)) := by
  subst hp
  exact own_by (fun _ q => XS.aloadN X.here hx rfl hd hl hv q) h
theorem own_aload (X : Stand p l e R s m args below meth c T locs cells slots) (hx : p.tables.exec = Jvm.exec) {pc pc' : Nat} {Ls : Array Slot} {st : List Value} {k : Nat} {v : Value} (hl : Ls[k]? = some (.val v)) (hv : v.isRef = true) (hd : decode c.code pc = .ok (.aload k, 2)) (hp : pc + 2 = pc') (h : own_Go p e below Q F (T.setTop (mkF m pc' Ls (v :: st)))) : own_Go p e below Q F (T.setTop (mkF m pc Ls st)) := by
  subst hp
  exact own_by (fun _ q => XS.aload X.here hx rfl hd hl hv q) h
theorem own_iconst (X : Stand p l e R s m args below meth c T locs cells slots) (hx : p.tables.exec = Jvm.exec) {pc pc' : Nat} {Ls : Array Slot} {st : List Value} {i : Int} (z : Int32) (hz : Int32.ofInt i = z) (hd : decode c.code pc = .ok (.iconst i, 1)) (hp : pc + 1 = pc') (h : own_Go p e below Q F (T.setTop (mkF m pc' Ls (.int z :: st)))) : own_Go p e below Q F (T.setTop (mkF m pc Ls st)) := by
  subst hp hz
  exact own_by (fun _ q => XS.iconst X.here hx rfl hd q) h
theorem own_bipush (X : Stand p l e R s m args below meth c T locs cells slots) (hx : p.tables.exec = Jvm.exec) {pc pc' : Nat} {Ls : Array Slot} {st : List Value} {i : Int} (z : Int32) (hz : (Int8.ofInt i).toInt32 = z) (hd : decode c.code pc = .ok (.bipush i, 2)) (hp : pc + 2 = pc') (h : own_Go p e below Q F (T.setTop (mkF m pc' Ls (.int z :: st)))) : own_Go p e below Q F (T.setTop (mkF m pc Ls st)) := by
  subst hp hz
  exact own_by (fun _ q => XS.bipush X.here hx rfl hd q) h
theorem own_sipush (X : Stand p l e R s m args below meth c T locs cells slots) (hx : p.tables.exec = Jvm.exec) {pc pc' : Nat} {Ls : Array Slot} {st : List Value} {i : Int} (z : Int32) (hz : (Int16.ofInt i).toInt32 = z) (hd : decode c.code pc = .ok (.sipush i, 3)) (hp : pc + 3 = pc') (h : own_Go p e below Q F (T.setTop (mkF m pc' Ls (.int z :: st)))) : own_Go p e below Q F (T.setTop (mkF m pc Ls st)) := by
  subst hp hz
  exact own_by (fun _ q => XS.sipush X.here hx rfl hd q) h
theorem own_lconst (X : Stand p l e R s m args below meth c T locs cells slots) (hx : p.tables.exec = Jvm.exec) {pc pc' : Nat} {Ls : Array Slot} {st : List Value} {k : Fin 2} (z : Int64) (hz : Int64.ofNat k = z) (hd : decode c.code pc = .ok (.lconst k, 1)) (hp : pc + 1 = pc') (h : own_Go p e below Q F (T.setTop (mkF m pc' Ls (.long z :: st)))) : own_Go p e below Q F (T.setTop (mkF m pc Ls st)) := by
  subst hp hz
  exact own_by (fun _ q => XS.lconst X.here hx rfl hd q) h
theorem own_aconstNull (X : Stand p l e R s m args below meth c T locs cells slots) (hx : p.tables.exec = Jvm.exec) {pc pc' : Nat} {Ls : Array Slot} {st : List Value}  (hd : decode c.code pc = .ok (.aconst_null, 1)) (hp : pc + 1 = pc') (h : own_Go p e below Q F (T.setTop (mkF m pc' Ls (.null :: st)))) : own_Go p e below Q F (T.setTop (mkF m pc Ls st)) := by
  subst hp
  exact own_by (fun _ q => XS.aconstNull X.here hx rfl hd q) h
theorem own_iadd (X : Stand p l e R s m args below meth c T locs cells slots) (hx : p.tables.exec = Jvm.exec) {pc pc' : Nat} {Ls : Array Slot} {st : List Value} {x y z : Int32} (hz : x + y = z) (hd : decode c.code pc = .ok (.iadd, 1)) (hp : pc + 1 = pc') (h : own_Go p e below Q F (T.setTop (mkF m pc' Ls (.int z :: st)))) : own_Go p e below Q F (T.setTop (mkF m pc Ls (.int y :: .int x :: st))) := by
  subst hp hz
  exact own_by (fun _ q => XS.iadd X.here hx rfl hd rfl q) h
theorem own_isub (X : Stand p l e R s m args below meth c T locs cells slots) (hx : p.tables.exec = Jvm.exec) {pc pc' : Nat} {Ls : Array Slot} {st : List Value} {x y z : Int32} (hz : x - y = z) (hd : decode c.code pc = .ok (.isub, 1)) (hp : pc + 1 = pc') (h : own_Go p e below Q F (T.setTop (mkF m pc' Ls (.int z :: st)))) : own_Go p e below Q F (T.setTop (mkF m pc Ls (.int y :: .int x :: st))) := by
  subst hp hz
  exact own_by (fun _ q => XS.isub X.here hx rfl hd rfl q) h
theorem own_imul (X : Stand p l e R s m args below meth c T locs cells slots) (hx : p.tables.exec = Jvm.exec) {pc pc' : Nat} {Ls : Array Slot} {st : List Value} {x y z : Int32} (hz : x * y = z) (hd : decode c.code pc = .ok (.imul, 1)) (hp : pc + 1 = pc') (h : own_Go p e below Q F (T.setTop (mkF m pc' Ls (.int z :: st)))) : own_Go p e below Q F (T.setTop (mkF m pc Ls (.int y :: .int x :: st))) := by
  subst hp hz
  exact own_by (fun _ q => XS.imul X.here hx rfl hd rfl q) h
theorem own_iand (X : Stand p l e R s m args below meth c T locs cells slots) (hx : p.tables.exec = Jvm.exec) {pc pc' : Nat} {Ls : Array Slot} {st : List Value} {x y z : Int32} (hz : x &&& y = z) (hd : decode c.code pc = .ok (.iand, 1)) (hp : pc + 1 = pc') (h : own_Go p e below Q F (T.setTop (mkF m pc' Ls (.int z :: st)))) : own_Go p e below Q F (T.setTop (mkF m pc Ls (.int y :: .int x :: st))) := by
  subst hp hz
  exact own_by (fun _ q => XS.iand X.here hx rfl hd rfl q) h
theorem own_ior (X : Stand p l e R s m args below meth c T locs cells slots) (hx : p.tables.exec = Jvm.exec) {pc pc' : Nat} {Ls : Array Slot} {st : List Value} {x y z : Int32} (hz : x ||| y = z) (hd : decode c.code pc = .ok (.ior, 1)) (hp : pc + 1 = pc') (h : own_Go p e below Q F (T.setTop (mkF m pc' Ls (.int z :: st)))) : own_Go p e below Q F (T.setTop (mkF m pc Ls (.int y :: .int x :: st))) := by
  subst hp hz
  exact own_by (fun _ q => XS.ior X.here hx rfl hd rfl q) h
theorem own_ixor (X : Stand p l e R s m args below meth c T locs cells slots) (hx : p.tables.exec = Jvm.exec) {pc pc' : Nat} {Ls : Array Slot} {st : List Value} {x y z : Int32} (hz : x ^^^ y = z) (hd : decode c.code pc = .ok (.ixor, 1)) (hp : pc + 1 = pc') (h : own_Go p e below Q F (T.setTop (mkF m pc' Ls (.int z :: st)))) : own_Go p e below Q F (T.setTop (mkF m pc Ls (.int y :: .int x :: st))) := by
  subst hp hz
  exact own_by (fun _ q => XS.ixor X.here hx rfl hd rfl q) h
theorem own_ishl (X : Stand p l e R s m args below meth c T locs cells slots) (hx : p.tables.exec = Jvm.exec) {pc pc' : Nat} {Ls : Array Slot} {st : List Value} {x y z : Int32} (hz : x <<< (y &&& 31) = z) (hd : decode c.code pc = .ok (.ishl, 1)) (hp : pc + 1 = pc') (h : own_Go p e below Q F (T.setTop (mkF m pc' Ls (.int z :: st)))) : own_Go p e below Q F (T.setTop (mkF m pc Ls (.int y :: .int x :: st))) := by
  subst hp hz
  exact own_by (fun _ q => XS.ishl X.here hx rfl hd rfl q) h
theorem own_ishr (X : Stand p l e R s m args below meth c T locs cells slots) (hx : p.tables.exec = Jvm.exec) {pc pc' : Nat} {Ls : Array Slot} {st : List Value} {x y z : Int32} (hz : x >>> (y &&& 31) = z) (hd : decode c.code pc = .ok (.ishr, 1)) (hp : pc + 1 = pc') (h : own_Go p e below Q F (T.setTop (mkF m pc' Ls (.int z :: st)))) : own_Go p e below Q F (T.setTop (mkF m pc Ls (.int y :: .int x :: st))) := by
  subst hp hz
  exact own_by (fun _ q => XS.ishr X.here hx rfl hd rfl q) h
theorem own_iushr (X : Stand p l e R s m args below meth c T locs cells slots) (hx : p.tables.exec = Jvm.exec) {pc pc' : Nat} {Ls : Array Slot} {st : List Value} {x y z : Int32} (hz : (x.toUInt32 >>> (y &&& 31).toUInt32).toInt32 = z) (hd : decode c.code pc = .ok (.iushr, 1)) (hp : pc + 1 = pc') (h : own_Go p e below Q F (T.setTop (mkF m pc' Ls (.int z :: st)))) : own_Go p e below Q F (T.setTop (mkF m pc Ls (.int y :: .int x :: st))) := by
  subst hp hz
  exact own_by (fun _ q => XS.iushr X.here hx rfl hd rfl q) h
theorem own_idiv (X : Stand p l e R s m args below meth c T locs cells slots) (hx : p.tables.exec = Jvm.exec) {pc pc' : Nat} {Ls : Array Slot} {st : List Value} {x y z : Int32} (hy : y ≠ 0) (hz : x / y = z) (hd : decode c.code pc = .ok (.idiv, 1)) (hp : pc + 1 = pc') (h : own_Go p e below Q F (T.setTop (mkF m pc' Ls (.int z :: st)))) : own_Go p e below Q F (T.setTop (mkF m pc Ls (.int y :: .int x :: st))) := by
  subst hp hz
  exact own_by (fun _ q => XS.idiv X.here hx rfl hd rfl hy q) h
theorem own_irem (X : Stand p l e R s m args below meth c T locs cells slots) (hx : p.tables.exec = Jvm.exec) {pc pc' : Nat} {Ls : Array Slot} {st : List Value} {x y z : Int32} (hy : y ≠ 0) (hz : x % y = z) (hd : decode c.code pc = .ok (.irem, 1)) (hp : pc + 1 = pc') (h : own_Go p e below Q F (T.setTop (mkF m pc' Ls (.int z :: st)))) : own_Go p e below Q F (T.setTop (mkF m pc Ls (.int y :: .int x :: st))) := by
  subst hp hz
  exact own_by (fun _ q => iremM X hx rfl hd rfl hy q) h
theorem own_ladd (X : Stand p l e R s m args below meth c T locs cells slots) (hx : p.tables.exec = Jvm.exec) {pc pc' : Nat} {Ls : Array Slot} {st : List Value} {x y z : Int64} (hz : x + y = z) (hd : decode c.code pc = .ok (.ladd, 1)) (hp : pc + 1 = pc') (h : own_Go p e below Q F (T.setTop (mkF m pc' Ls (.long z :: st)))) : own_Go p e below Q F (T.setTop (mkF m pc Ls (.long y :: .long x :: st))) := by
  subst hp hz
  exact own_by (fun _ q => XS.ladd X.here hx rfl hd rfl q) h
theorem own_lsub (X : Stand p l e R s m args below meth c T locs cells slots) (hx : p.tables.exec = Jvm.exec) {pc pc' : Nat} {Ls : Array Slot} {st : List Value} {x y z : Int64} (hz : x - y = z) (hd : decode c.code pc = .ok (.lsub, 1)) (hp : pc + 1 = pc') (h : own_Go p e below Q F (T.setTop (mkF m pc' Ls (.long z :: st)))) : own_Go p e below Q F (T.setTop (mkF m pc Ls (.long y :: .long x :: st))) := by
  subst hp hz
  exact own_by (fun _ q => XS.lsub X.here hx rfl hd rfl q) h
theorem own_lmul (X : Stand p l e R s m args below meth c T locs cells slots) (hx : p.tables.exec = Jvm.exec) {pc pc' : Nat} {Ls : Array Slot} {st : List Value} {x y z : Int64} (hz : x * y = z) (hd : decode c.code pc = .ok (.lmul, 1)) (hp : pc + 1 = pc') (h : own_Go p e below Q F (T.setTop (mkF m pc' Ls (.long z :: st)))) : own_Go p e below Q F (T.setTop (mkF m pc Ls (.long y :: .long x :: st))) := by
  subst hp hz
  exact own_by (fun _ q => XS.lmul X.here hx rfl hd rfl q) h
theorem own_land (X : Stand p l e R s m args below meth c T locs cells slots) (hx : p.tables.exec = Jvm.exec) {pc pc' : Nat} {Ls : Array Slot} {st : List Value} {x y z : Int64} (hz : x &&& y = z) (hd : decode c.code pc = .ok (.land, 1)) (hp : pc + 1 = pc') (h : own_Go p e below Q F (T.setTop (mkF m pc' Ls (.long z :: st)))) : own_Go p e below Q F (T.setTop (mkF m pc Ls (.long y :: .long x :: st))) := by
  subst hp hz
  exact own_by (fun _ q => XS.land X.here hx rfl hd rfl q) h
theorem own_lor (X : Stand p l e R s m args below meth c T locs cells slots) (hx : p.tables.exec = Jvm.exec) {pc pc' : Nat} {Ls : Array Slot} {st : List Value} {x y z : Int64} (hz : x ||| y = z) (hd : decode c.code pc = .ok (.lor, 1)) (hp : pc + 1 = pc') (h : own_Go p e below Q F (T.setTop (mkF m pc' Ls (.long z :: st)))) : own_Go p e below Q F (T.setTop (mkF m pc Ls (.long y :: .long x :: st))) := by
  subst hp hz
  exact own_by (fun _ q => XS.lor X.here hx rfl hd rfl q) h
theorem own_lcmp (X : Stand p l e R s m args below meth c T locs cells slots) (hx : p.tables.exec = Jvm.exec) {pc pc' : Nat} {Ls : Array Slot} {st : List Value} {x y : Int64} {z : Int32} (hz : lcmpW x y = z) (hd : decode c.code pc = .ok (.lcmp, 1)) (hp : pc + 1 = pc') (h : own_Go p e below Q F (T.setTop (mkF m pc' Ls (.int z :: st)))) : own_Go p e below Q F (T.setTop (mkF m pc Ls (.long y :: .long x :: st))) := by
  subst hp hz
  exact own_by (fun _ q => XS.lcmp X.here hx rfl hd rfl q) h
theorem own_ineg (X : Stand p l e R s m args below meth c T locs cells slots) (hx : p.tables.exec = Jvm.exec) {pc pc' : Nat} {Ls : Array Slot} {st : List Value} {x z : Int32} (hz : -x = z) (hd : decode c.code pc = .ok (.ineg, 1)) (hp : pc + 1 = pc') (h : own_Go p e below Q F (T.setTop (mkF m pc' Ls (.int z :: st)))) : own_Go p e below Q F (T.setTop (mkF m pc Ls (.int x :: st))) := by
  subst hp hz
  exact own_by (fun _ q => XS.ineg X.here hx rfl hd rfl q) h
theorem own_i2l (X : Stand p l e R s m args below meth c T locs cells slots) (hx : p.tables.exec = Jvm.exec) {pc pc' : Nat} {Ls : Array Slot} {st : List Value} {x : Int32} {z : Int64} (hz : x.toInt64 = z) (hd : decode c.code pc = .ok (.i2l, 1)) (hp : pc + 1 = pc') (h : own_Go p e below Q F (T.setTop (mkF m pc' Ls (.long z :: st)))) : own_Go p e below Q F (T.setTop (mkF m pc Ls (.int x :: st))) := by
  subst hp hz
  exact own_by (fun _ q => XS.i2l X.here hx rfl hd rfl q) h
theorem own_l2i (X : Stand p l e R s m args below meth c T locs cells slots) (hx : p.tables.exec = Jvm.exec) {pc pc' : Nat} {Ls : Array Slot} {st : List Value} {x : Int64} {z : Int32} (hz : x.toInt32 = z) (hd : decode c.code pc = .ok (.l2i, 1)) (hp : pc + 1 = pc') (h : own_Go p e below Q F (T.setTop (mkF m pc' Ls (.int z :: st)))) : own_Go p e below Q F (T.setTop (mkF m pc Ls (.long x :: st))) := by
  subst hp hz
  exact own_by (fun _ q => XS.l2i X.here hx rfl hd rfl q) h
theorem own_i2b (X : Stand p l e R s m args below meth c T locs cells slots) (hx : p.tables.exec = Jvm.exec) {pc pc' : Nat} {Ls : Array Slot} {st : List Value} {x z : Int32} (hz : x.toInt8.toInt32 = z) (hd : decode c.code pc = .ok (.i2b, 1)) (hp : pc + 1 = pc') (h : own_Go p e below Q F (T.setTop (mkF m pc' Ls (.int z :: st)))) : own_Go p e below Q F (T.setTop (mkF m pc Ls (.int x :: st))) := by
  subst hp hz
  exact own_by (fun _ q => XS.i2b X.here hx rfl hd rfl q) h
theorem own_i2c (X : Stand p l e R s m args below meth c T locs cells slots) (hx : p.tables.exec = Jvm.exec) {pc pc' : Nat} {Ls : Array Slot} {st : List Value} {x z : Int32} (hz : x.toUInt32.toUInt16.toUInt32.toInt32 = z) (hd : decode c.code pc = .ok (.i2c, 1)) (hp : pc + 1 = pc') (h : own_Go p e below Q F (T.setTop (mkF m pc' Ls (.int z :: st)))) : own_Go p e below Q F (T.setTop (mkF m pc Ls (.int x :: st))) := by
  subst hp hz
  exact own_by (fun _ q => XS.i2c X.here hx rfl hd rfl q) h
theorem own_i2s (X : Stand p l e R s m args below meth c T locs cells slots) (hx : p.tables.exec = Jvm.exec) {pc pc' : Nat} {Ls : Array Slot} {st : List Value} {x z : Int32} (hz : x.toInt16.toInt32 = z) (hd : decode c.code pc = .ok (.i2s, 1)) (hp : pc + 1 = pc') (h : own_Go p e below Q F (T.setTop (mkF m pc' Ls (.int z :: st)))) : own_Go p e below Q F (T.setTop (mkF m pc Ls (.int x :: st))) := by
  subst hp hz
  exact own_by (fun _ q => XS.i2s X.here hx rfl hd rfl q) h
theorem own_dup (X : Stand p l e R s m args below meth c T locs cells slots) (hx : p.tables.exec = Jvm.exec) {pc pc' : Nat} {Ls : Array Slot} {st : List Value} {x : Value} (hc : x.category = 1) (hd : decode c.code pc = .ok (.dup, 1)) (hp : pc + 1 = pc') (h : own_Go p e below Q F (T.setTop (mkF m pc' Ls (x :: x :: st)))) : own_Go p e below Q F (T.setTop (mkF m pc Ls (x :: st))) := by
  subst hp
  exact own_by (fun _ q => XS.dup X.here hx rfl hd rfl hc q) h
theorem own_dupX1 (X : Stand p l e R s m args below meth c T locs cells slots) (hx : p.tables.exec = Jvm.exec) {pc pc' : Nat} {Ls : Array Slot} {st : List Value} {x y : Value} (hc : x.category = 1) (hc2 : y.category = 1) (hd : decode c.code pc = .ok (.dup_x1, 1)) (hp : pc + 1 = pc') (h : own_Go p e below Q F (T.setTop (mkF m pc' Ls (x :: y :: x :: st)))) : own_Go p e below Q F (T.setTop (mkF m pc Ls (x :: y :: st))) := by
  subst hp
  exact own_by (fun _ q => XS.dupX1 X.here hx rfl hd rfl hc hc2 q) h
theorem own_pop (X : Stand p l e R s m args below meth c T locs cells slots) (hx : p.tables.exec = Jvm.exec) {pc pc' : Nat} {Ls : Array Slot} {st : List Value} {x : Value} (hc : x.category = 1) (hd : decode c.code pc = .ok (.pop, 1)) (hp : pc + 1 = pc') (h : own_Go p e below Q F (T.setTop (mkF m pc' Ls st))) : own_Go p e below Q F (T.setTop (mkF m pc Ls (x :: st))) := by
  subst hp
  exact own_by (fun _ q => XS.pop X.here hx rfl hd rfl hc q) h
theorem own_istoreN (X : Stand p l e R s m args below meth c T locs cells slots) (hx : p.tables.exec = Jvm.exec) {pc pc' : Nat} {Ls : Array Slot} {st : List Value} {k : Fin 4} {x : Int32} (L' : Array Slot) (hl : storeLocals Ls k.val (.int x) = some L') (hd : decode c.code pc = .ok (.istore_n k, 1)) (hp : pc + 1 = pc') (h : own_Go p e below Q F (T.setTop (mkF m pc' L' st))) : own_Go p e below Q F (T.setTop (mkF m pc Ls (.int x :: st))) := by
  subst hp
  exact own_by (fun _ q => XS.istoreN X.here hx rfl hd rfl hl q) h
theorem own_istore (X : Stand p l e R s m args below meth c T locs cells slots) (hx : p.tables.exec = Jvm.exec) {pc pc' : Nat} {Ls : Array Slot} {st : List Value} {k : Nat} {x : Int32} (L' : Array Slot) (hl : storeLocals Ls k (.int x) = some L') (hd : decode c.code pc = .ok (.istore k, 2)) (hp : pc + 2 = pc') (h : own_Go p e below Q F (T.setTop (mkF m pc' L' st))) : own_Go p e below Q F (T.setTop (mkF m pc Ls (.int x :: st))) := by
  subst hp
  exact own_by (fun _ q => XS.istore X.here hx rfl hd rfl hl q) h
theorem own_lstoreN (X : Stand p l e R s m args below meth c T locs cells slots) (hx : p.tables.exec = Jvm.exec) {pc pc' : Nat} {Ls : Array Slot} {st : List Value} {k : Fin 4} {x : Int64} (L' : Array Slot) (hl : storeLocals Ls k.val (.long x) = some L') (hd : decode c.code pc = .ok (.lstore_n k, 1)) (hp : pc + 1 = pc') (h : own_Go p e below Q F (T.setTop (mkF m pc' L' st))) : own_Go p e below Q F (T.setTop (mkF m pc Ls (.long x :: st))) := by
  subst hp
  exact own_by (fun _ q => XS.lstoreN X.here hx rfl hd rfl hl q) h
theorem own_lstore (X : Stand p l e R s m args below meth c T locs cells slots) (hx : p.tables.exec = Jvm.exec) {pc pc' : Nat} {Ls : Array Slot} {st : List Value} {k : Nat} {x : Int64} (L' : Array Slot) (hl : storeLocals Ls k (.long x) = some L') (hd : decode c.code pc = .ok (.lstore k, 2)) (hp : pc + 2 = pc') (h : own_Go p e below Q F (T.setTop (mkF m pc' L' st))) : own_Go p e below Q F (T.setTop (mkF m pc Ls (.long x :: st))) := by
  subst hp
  exact own_by (fun _ q => XS.lstore X.here hx rfl hd rfl hl q) h
theorem own_astoreN (X : Stand p l e R s m args below meth c T locs cells slots) (hx : p.tables.exec = Jvm.exec) {pc pc' : Nat} {Ls : Array Slot} {st : List Value} {k : Fin 4} {x : Value} (L' : Array Slot) (hv : x.isRef = true) (hl : storeLocals Ls k.val x = some L') (hd : decode c.code pc = .ok (.astore_n k, 1)) (hp : pc + 1 = pc') (h : own_Go p e below Q F (T.setTop (mkF m pc' L' st))) : own_Go p e below Q F (T.setTop (mkF m pc Ls (x :: st))) := by
  subst hp
  exact own_by (fun _ q => XS.astoreN X.here hx rfl hd rfl hv hl q) h
theorem own_astore (X : Stand p l e R s m args below meth c T locs cells slots) (hx : p.tables.exec = Jvm.exec) {pc pc' : Nat} {Ls : Array Slot} {st : List Value} {k : Nat} {x : Value} (L' : Array Slot) (hv : x.isRef = true) (hl : storeLocals Ls k x = some L') (hd : decode c.code pc = .ok (.astore k, 2)) (hp : pc + 2 = pc') (h : own_Go p e below Q F (T.setTop (mkF m pc' L' st))) : own_Go p e below Q F (T.setTop (mkF m pc Ls (x :: st))) := by
  subst hp
  exact own_by (fun _ q => XS.astore X.here hx rfl hd rfl hv hl q) h
theorem own_iinc (X : Stand p l e R s m args below meth c T locs cells slots) (hx : p.tables.exec = Jvm.exec) {pc pc' : Nat} {Ls : Array Slot} {st : List Value} {k : Nat} {cst : Int} {x z : Int32} (L' : Array Slot) (hv : Ls[k]? = some (.val (.int x))) (hz : x + Int32.ofInt cst = z) (hl : storeLocals Ls k (.int z) = some L') (hd : decode c.code pc = .ok (.iinc k cst, 3)) (hp : pc + 3 = pc') (h : own_Go p e below Q F (T.setTop (mkF m pc' L' st))) : own_Go p e below Q F (T.setTop (mkF m pc Ls st)) := by
  subst hp hz
  exact own_by (fun _ q => XS.iinc X.here hx rfl hd hv hl q) h
theorem own_goto (X : Stand p l e R s m args below meth c T locs cells slots) (hx : p.tables.exec = Jvm.exec) {pc pc' : Nat} {Ls : Array Slot} {st : List Value} {o : Int}  (hd : decode c.code pc = .ok (.goto o, 3))  (ho : 0 ≤ (pc : Int) + o) (hp : ((pc : Int) + o).toNat = pc') (h : own_Go p e below Q F (T.setTop (mkF m pc' Ls st))) : own_Go p e below Q F (T.setTop (mkF m pc Ls st)) := by
  exact own_by (fun _ q => XS.goto X.here hx rfl rfl hd ho hp q) h
theorem own_ifYes (X : Stand p l e R s m args below meth c T locs cells slots) (hx : p.tables.exec = Jvm.exec) {pc pc' : Nat} {Ls : Array Slot} {st : List Value} {o : Int} {cd : ClassFile.Cond} {x : Int32} (hd : decode c.code pc = .ok (.ifCond cd o, 3)) (hc : ifCond.holds cd x = true) (ho : 0 ≤ (pc : Int) + o) (hp : ((pc : Int) + o).toNat = pc') (h : own_Go p e below Q F (T.setTop (mkF m pc' Ls st))) : own_Go p e below Q F (T.setTop (mkF m pc Ls (.int x :: st))) := by
  exact own_by (fun _ q => XS.ifYes X.here hx rfl rfl hd rfl hc ho hp q) h
theorem own_icmpYes (X : Stand p l e R s m args below meth c T locs cells slots) (hx : p.tables.exec = Jvm.exec) {pc pc' : Nat} {Ls : Array Slot} {st : List Value} {o : Int} {cd : ClassFile.Cond} {x y : Int32} (hd : decode c.code pc = .ok (.if_icmp cd o, 3)) (hc : if_icmp.holds cd x y = true) (ho : 0 ≤ (pc : Int) + o) (hp : ((pc : Int) + o).toNat = pc') (h : own_Go p e below Q F (T.setTop (mkF m pc' Ls st))) : own_Go p e below Q F (T.setTop (mkF m pc Ls (.int y :: .int x :: st))) := by
  exact own_by (fun _ q => XS.icmpYes X.here hx rfl rfl hd rfl hc ho hp q) h
theorem own_ifnullYes (X : Stand p l e R s m args below meth c T locs cells slots) (hx : p.tables.exec = Jvm.exec) {pc pc' : Nat} {Ls : Array Slot} {st : List Value} {o : Int}  (hd : decode c.code pc = .ok (.ifnull o, 3))  (ho : 0 ≤ (pc : Int) + o) (hp : ((pc : Int) + o).toNat = pc') (h : own_Go p e below Q F (T.setTop (mkF m pc' Ls st))) : own_Go p e below Q F (T.setTop (mkF m pc Ls (.null :: st))) := by
  exact own_by (fun _ q => XS.ifnullYes X.here hx rfl rfl hd rfl ho hp q) h
theorem own_ifnonnullYes (X : Stand p l e R s m args below meth c T locs cells slots) (hx : p.tables.exec = Jvm.exec) {pc pc' : Nat} {Ls : Array Slot} {st : List Value} {o : Int} {b : Addr} (hd : decode c.code pc = .ok (.ifnonnull o, 3))  (ho : 0 ≤ (pc : Int) + o) (hp : ((pc : Int) + o).toNat = pc') (h : own_Go p e below Q F (T.setTop (mkF m pc' Ls st))) : own_Go p e below Q F (T.setTop (mkF m pc Ls (.ref b :: st))) := by
  exact own_by (fun _ q => XS.ifnonnullYes X.here hx rfl rfl hd rfl ho hp q) h
theorem own_acmpYes (X : Stand p l e R s m args below meth c T locs cells slots) (hx : p.tables.exec = Jvm.exec) {pc pc' : Nat} {Ls : Array Slot} {st : List Value} {o : Int} {cd : ClassFile.ACond} {a b : Addr} (hd : decode c.code pc = .ok (.if_acmp cd o, 3)) (hc : if_acmp.holds cd (some a) (some b) = true) (ho : 0 ≤ (pc : Int) + o) (hp : ((pc : Int) + o).toNat = pc') (h : own_Go p e below Q F (T.setTop (mkF m pc' Ls st))) : own_Go p e below Q F (T.setTop (mkF m pc Ls (.ref b :: .ref a :: st))) := by
  exact own_by (fun _ q => XS.acmpYes X.here hx rfl rfl hd rfl hc ho hp q) h
theorem own_ifNo (X : Stand p l e R s m args below meth c T locs cells slots) (hx : p.tables.exec = Jvm.exec) {pc pc' : Nat} {Ls : Array Slot} {st : List Value} {cd : ClassFile.Cond} {x : Int32} {o : Int} (hc : ifCond.holds cd x = false) (hd : decode c.code pc = .ok (.ifCond cd o, 3)) (hp : pc + 3 = pc') (h : own_Go p e below Q F (T.setTop (mkF m pc' Ls st))) : own_Go p e below Q F (T.setTop (mkF m pc Ls (.int x :: st))) := by
  subst hp
  exact own_by (fun _ q => XS.ifNo X.here hx rfl hd rfl hc q) h
theorem own_icmpNo (X : Stand p l e R s m args below meth c T locs cells slots) (hx : p.tables.exec = Jvm.exec) {pc pc' : Nat} {Ls : Array Slot} {st : List Value} {cd : ClassFile.Cond} {x y : Int32} {o : Int} (hc : if_icmp.holds cd x y = false) (hd : decode c.code pc = .ok (.if_icmp cd o, 3)) (hp : pc + 3 = pc') (h : own_Go p e below Q F (T.setTop (mkF m pc' Ls st))) : own_Go p e below Q F (T.setTop (mkF m pc Ls (.int y :: .int x :: st))) := by
  subst hp
  exact own_by (fun _ q => XS.icmpNo X.here hx rfl hd rfl hc q) h
theorem own_ifnullNo (X : Stand p l e R s m args below meth c T locs cells slots) (hx : p.tables.exec = Jvm.exec) {pc pc' : Nat} {Ls : Array Slot} {st : List Value} {b : Addr} {o : Int}  (hd : decode c.code pc = .ok (.ifnull o, 3)) (hp : pc + 3 = pc') (h : own_Go p e below Q F (T.setTop (mkF m pc' Ls st))) : own_Go p e below Q F (T.setTop (mkF m pc Ls (.ref b :: st))) := by
  subst hp
  exact own_by (fun _ q => XS.ifnullNo X.here hx rfl hd rfl q) h
theorem own_ifnonnullNo (X : Stand p l e R s m args below meth c T locs cells slots) (hx : p.tables.exec = Jvm.exec) {pc pc' : Nat} {Ls : Array Slot} {st : List Value} {o : Int}  (hd : decode c.code pc = .ok (.ifnonnull o, 3)) (hp : pc + 3 = pc') (h : own_Go p e below Q F (T.setTop (mkF m pc' Ls st))) : own_Go p e below Q F (T.setTop (mkF m pc Ls (.null :: st))) := by
  subst hp
  exact own_by (fun _ q => XS.ifnonnullNo X.here hx rfl hd rfl q) h
theorem own_acmpNo (X : Stand p l e R s m args below meth c T locs cells slots) (hx : p.tables.exec = Jvm.exec) {pc pc' : Nat} {Ls : Array Slot} {st : List Value} {cd : ClassFile.ACond} {a b : Addr} {o : Int} (hc : if_acmp.holds cd (some a) (some b) = false) (hd : decode c.code pc = .ok (.if_acmp cd o, 3)) (hp : pc + 3 = pc') (h : own_Go p e below Q F (T.setTop (mkF m pc' Ls st))) : own_Go p e below Q F (T.setTop (mkF m pc Ls (.ref b :: .ref a :: st))) := by
  subst hp
  exact own_by (fun _ q => XS.acmpNo X.here hx rfl hd rfl hc q) h
theorem own_ldcInt (X : Stand p l e R s m args below meth c T locs cells slots) (hx : p.tables.exec = Jvm.exec) {pc pc' : Nat} {Ls : Array Slot} {st : List Value} {Z : State} {a0 : Array Value} {own : String} {index : Nat} {v : Int32} (hZ : Z.Warmed39 s.vm) (hown : s.vm.findClass own = some m.cls) (w : (Jvm.Cond.constant own index v).before a0 Z = true) (hd : decode c.code pc = .ok (.ldc index, 2)) (hp : pc + 2 = pc') (h : own_Go p e below Q F (T.setTop (mkF m pc' Ls (.int v :: st)))) : own_Go p e below Q F (T.setTop (mkF m pc Ls st)) := by
  subst hp
  exact own_by (fun _ q => X.ldcInt hx hown (mv hZ w) (g := mkF m pc Ls st) rfl hd _ q) h
theorem own_ldc2Long (X : Stand p l e R s m args below meth c T locs cells slots) (hx : p.tables.exec = Jvm.exec) {pc pc' : Nat} {Ls : Array Slot} {st : List Value} {Z : State} {a0 : Array Value} {own : String} {index : Nat} {v : Int64} (hZ : Z.Warmed39 s.vm) (hown : s.vm.findClass own = some m.cls) (w : (Jvm.Cond.constantLong own index v).before a0 Z = true) (hd : decode c.code pc = .ok (.ldc2_w index, 3)) (hp : pc + 3 = pc') (h : own_Go p e below Q F (T.setTop (mkF m pc' Ls (.long v :: st)))) : own_Go p e below Q F (T.setTop (mkF m pc Ls st)) := by
  subst hp
  exact own_by (fun _ q => X.ldc2Long hx hown (mv hZ w) (g := mkF m pc Ls st) rfl hd _ q) h
theorem own_lyes_lt {x y : Int64} {a b : Int} (ha : x.toInt = a) (hb : y.toInt = b) (h : a < b) : ifCond.holds .lt (lcmpW x y) = true := by
  have q := own_lcm ha hb
  have r :  (lcmpW x y).toInt < 0 := by omega
  exact own_z (own_yes_lt rfl rfl r)
theorem own_lno_lt {x y : Int64} {a b : Int} (ha : x.toInt = a) (hb : y.toInt = b) (h : ¬ a < b) : ifCond.holds .lt (lcmpW x y) = false := by
  have q := own_lcm ha hb
  have r : ¬ (lcmpW x y).toInt < 0 := by omega
  exact own_z (own_no_lt rfl rfl r)
theorem own_lyes_ge {x y : Int64} {a b : Int} (ha : x.toInt = a) (hb : y.toInt = b) (h : ¬ a < b) : ifCond.holds .ge (lcmpW x y) = true := by
  have q := own_lcm ha hb
  have r : ¬ (lcmpW x y).toInt < 0 := by omega
  exact own_z (own_yes_ge rfl rfl r)
theorem own_lno_ge {x y : Int64} {a b : Int} (ha : x.toInt = a) (hb : y.toInt = b) (h : a < b) : ifCond.holds .ge (lcmpW x y) = false := by
  have q := own_lcm ha hb
  have r :  (lcmpW x y).toInt < 0 := by omega
  exact own_z (own_no_ge rfl rfl r)
theorem own_lyes_gt {x y : Int64} {a b : Int} (ha : x.toInt = a) (hb : y.toInt = b) (h : b < a) : ifCond.holds .gt (lcmpW x y) = true := by
  have q := own_lcm ha hb
  have r :  0 < (lcmpW x y).toInt := by omega
  exact own_z (own_yes_gt rfl rfl r)
theorem own_lno_gt {x y : Int64} {a b : Int} (ha : x.toInt = a) (hb : y.toInt = b) (h : ¬ b < a) : ifCond.holds .gt (lcmpW x y) = false := by
  have q := own_lcm ha hb
  have r : ¬ 0 < (lcmpW x y).toInt := by omega
  exact own_z (own_no_gt rfl rfl r)
theorem own_lyes_le {x y : Int64} {a b : Int} (ha : x.toInt = a) (hb : y.toInt = b) (h : ¬ b < a) : ifCond.holds .le (lcmpW x y) = true := by
  have q := own_lcm ha hb
  have r : ¬ 0 < (lcmpW x y).toInt := by omega
  exact own_z (own_yes_le rfl rfl r)
theorem own_lno_le {x y : Int64} {a b : Int} (ha : x.toInt = a) (hb : y.toInt = b) (h : b < a) : ifCond.holds .le (lcmpW x y) = false := by
  have q := own_lcm ha hb
  have r :  0 < (lcmpW x y).toInt := by omega
  exact own_z (own_no_le rfl rfl r)
theorem own_lyes_eq {x y : Int64} {a b : Int} (ha : x.toInt = a) (hb : y.toInt = b) (h : a = b) : ifCond.holds .eq (lcmpW x y) = true := by
  have q := own_lcm ha hb
  have r :  (lcmpW x y).toInt = 0 := by omega
  exact own_z (own_yes_eq rfl rfl r)
theorem own_lno_eq {x y : Int64} {a b : Int} (ha : x.toInt = a) (hb : y.toInt = b) (h : ¬ a = b) : ifCond.holds .eq (lcmpW x y) = false := by
  have q := own_lcm ha hb
  have r : ¬ (lcmpW x y).toInt = 0 := by omega
  exact own_z (own_no_eq rfl rfl r)
theorem own_lyes_ne {x y : Int64} {a b : Int} (ha : x.toInt = a) (hb : y.toInt = b) (h : ¬ a = b) : ifCond.holds .ne (lcmpW x y) = true := by
  have q := own_lcm ha hb
  have r : ¬ (lcmpW x y).toInt = 0 := by omega
  exact own_z (own_yes_ne rfl rfl r)
theorem own_lno_ne {x y : Int64} {a b : Int} (ha : x.toInt = a) (hb : y.toInt = b) (h : a = b) : ifCond.holds .ne (lcmpW x y) = false := by
  have q := own_lcm ha hb
  have r :  (lcmpW x y).toInt = 0 := by omega
  exact own_z (own_no_ne rfl rfl r)
theorem own_tswIn (X : Stand p l e R s m args below meth c T locs cells slots) (hx : p.tables.exec = Jvm.exec) {pc pc' : Nat} {Ls : Array Slot} {st : List Value} {dflt low high : Int} {offs : Array Int} {len : Nat} (o : Int) {i : Int32} (hd : decode c.code pc = .ok (.tableswitch dflt low high offs, len)) (hin : ¬ (i.toInt < low ∨ i.toInt > high)) (hoff : offs[(i.toInt - low).toNat]? = some o) (ho : 0 ≤ (pc : Int) + o) (hp : ((pc : Int) + o).toNat = pc') (h : own_Go p e below Q F (T.setTop (mkF m pc' Ls st))) : own_Go p e below Q F (T.setTop (mkF m pc Ls (.int i :: st))) := by
  exact own_by (fun _ q => XS.tswIn X.here hx rfl rfl hd rfl hin hoff ho hp q) h
theorem own_tswOut (X : Stand p l e R s m args below meth c T locs cells slots) (hx : p.tables.exec = Jvm.exec) {pc pc' : Nat} {Ls : Array Slot} {st : List Value} {dflt low high : Int} {offs : Array Int} {len : Nat} {i : Int32} (hd : decode c.code pc = .ok (.tableswitch dflt low high offs, len)) (hout : i.toInt < low ∨ i.toInt > high) (ho : 0 ≤ (pc : Int) + dflt) (hp : ((pc : Int) + dflt).toNat = pc') (h : own_Go p e below Q F (T.setTop (mkF m pc' Ls st))) : own_Go p e below Q F (T.setTop (mkF m pc Ls (.int i :: st))) := by
  exact own_by (fun _ q => XS.tswOut X.here hx rfl rfl hd rfl hout ho hp q) h
end OwnKit
theorem pd_0 : parseMethodDescriptor "([B)I" = some ⟨[(.array .byte)], some .int⟩ := by decide +kernel
theorem d10_0 : decode prog_3_method_6_code 0 = .ok (.aload_n 0, 1) := by decide +kernel
theorem d10_1 : decode prog_3_method_6_code 1 = .ok (.arraylength, 1) := by decide +kernel
theorem d10_2 : decode prog_3_method_6_code 2 = .ok (.ifCond .ne 5, 3) := by decide +kernel
theorem d10_5 : decode prog_3_method_6_code 5 = .ok (.iconst 0, 1) := by decide +kernel
theorem d10_6 : decode prog_3_method_6_code 6 = .ok (.ireturn, 1) := by decide +kernel
theorem d10_7 : decode prog_3_method_6_code 7 = .ok (.iconst 0, 1) := by decide +kernel
theorem d10_8 : decode prog_3_method_6_code 8 = .ok (.istore_n 1, 1) := by decide +kernel
theorem d10_9 : decode prog_3_method_6_code 9 = .ok (.aload_n 0, 1) := by decide +kernel
theorem d10_10 : decode prog_3_method_6_code 10 = .ok (.astore_n 2, 1) := by decide +kernel
theorem d10_11 : decode prog_3_method_6_code 11 = .ok (.aload_n 2, 1) := by decide +kernel
theorem d10_12 : decode prog_3_method_6_code 12 = .ok (.arraylength, 1) := by decide +kernel
theorem d10_13 : decode prog_3_method_6_code 13 = .ok (.istore_n 3, 1) := by decide +kernel
theorem d10_14 : decode prog_3_method_6_code 14 = .ok (.iconst 0, 1) := by decide +kernel
theorem d10_15 : decode prog_3_method_6_code 15 = .ok (.istore 4, 2) := by decide +kernel
theorem d10_17 : decode prog_3_method_6_code 17 = .ok (.iload 4, 2) := by decide +kernel
theorem d10_19 : decode prog_3_method_6_code 19 = .ok (.iload_n 3, 1) := by decide +kernel
theorem d10_20 : decode prog_3_method_6_code 20 = .ok (.if_icmp .ge 27, 3) := by decide +kernel
theorem d10_23 : decode prog_3_method_6_code 23 = .ok (.aload_n 2, 1) := by decide +kernel
theorem d10_24 : decode prog_3_method_6_code 24 = .ok (.iload 4, 2) := by decide +kernel
theorem d10_26 : decode prog_3_method_6_code 26 = .ok (.baload, 1) := by decide +kernel
theorem d10_27 : decode prog_3_method_6_code 27 = .ok (.istore 5, 2) := by decide +kernel
theorem d10_29 : decode prog_3_method_6_code 29 = .ok (.iload_n 1, 1) := by decide +kernel
theorem d10_30 : decode prog_3_method_6_code 30 = .ok (.bipush 8, 2) := by decide +kernel
theorem d10_32 : decode prog_3_method_6_code 32 = .ok (.ishl, 1) := by decide +kernel
theorem d10_33 : decode prog_3_method_6_code 33 = .ok (.iload 5, 2) := by decide +kernel
theorem d10_35 : decode prog_3_method_6_code 35 = .ok (.sipush 255, 3) := by decide +kernel
theorem d10_38 : decode prog_3_method_6_code 38 = .ok (.iand, 1) := by decide +kernel
theorem d10_39 : decode prog_3_method_6_code 39 = .ok (.ior, 1) := by decide +kernel
theorem d10_40 : decode prog_3_method_6_code 40 = .ok (.istore_n 1, 1) := by decide +kernel
theorem d10_41 : decode prog_3_method_6_code 41 = .ok (.iinc 4 1, 3) := by decide +kernel
theorem d10_44 : decode prog_3_method_6_code 44 = .ok (.goto (-27), 3) := by decide +kernel
theorem d10_47 : decode prog_3_method_6_code 47 = .ok (.aload_n 0, 1) := by decide +kernel
theorem d10_48 : decode prog_3_method_6_code 48 = .ok (.arraylength, 1) := by decide +kernel
theorem d10_49 : decode prog_3_method_6_code 49 = .ok (.iconst 1, 1) := by decide +kernel
theorem d10_50 : decode prog_3_method_6_code 50 = .ok (.if_icmp .le 7, 3) := by decide +kernel
theorem d10_53 : decode prog_3_method_6_code 53 = .ok (.iconst 1, 1) := by decide +kernel
theorem d10_54 : decode prog_3_method_6_code 54 = .ok (.goto 4, 3) := by decide +kernel
theorem d10_57 : decode prog_3_method_6_code 57 = .ok (.iconst 0, 1) := by decide +kernel
theorem d10_58 : decode prog_3_method_6_code 58 = .ok (.istore_n 2, 1) := by decide +kernel
theorem d10_59 : decode prog_3_method_6_code 59 = .ok (.iload_n 1, 1) := by decide +kernel
theorem d10_60 : decode prog_3_method_6_code 60 = .ok (.ifCond .ne 18, 3) := by decide +kernel
theorem d10_63 : decode prog_3_method_6_code 63 = .ok (.iload_n 2, 1) := by decide +kernel
theorem d10_64 : decode prog_3_method_6_code 64 = .ok (.ifCond .eq 8, 3) := by decide +kernel
theorem d10_67 : decode prog_3_method_6_code 67 = .ok (.ldc 19, 2) := by decide +kernel
theorem d10_69 : decode prog_3_method_6_code 69 = .ok (.goto 10, 3) := by decide +kernel
theorem d10_72 : decode prog_3_method_6_code 72 = .ok (.sipush 256, 3) := by decide +kernel
theorem d10_75 : decode prog_3_method_6_code 75 = .ok (.goto 4, 3) := by decide +kernel
theorem d10_78 : decode prog_3_method_6_code 78 = .ok (.iload_n 1, 1) := by decide +kernel
theorem d10_79 : decode prog_3_method_6_code 79 = .ok (.ireturn, 1) := by decide +kernel
theorem pn_0 : plainName "com/example/handclasp/handclasp/Apdu" = true := by first | (simp [plainName, overriddenIn]; done) | decide +kernel
theorem ef_10 (m : MethodId) (x0 : Addr) : entryFrame m #[(.ref x0)] 6 = mkF m 0 #[.val (.ref x0), .unset, .unset, .unset, .unset, .unset] [] := by first | (simp [entryFrame, mkF, argsToLocals, Value.category, maxLocals]; done) | rfl
def Q10 (Z : State) (a1 : Addr) (kc : ClassId) (h0 : Heap) (n0 : Nat) (v : Option Value) (h : Heap) (L : List Loc) : Prop := ∃ r : Int32, v = some (.int r) ∧ (r.toInt = 0) ∧ Fr n0 L ∧ h = h0
set_option maxRecDepth 65536 in
set_option maxHeartbeats 40000000 in
theorem rm10 (l : Launch) (Z : State) (a0 : Array Value) (hw : ∀ d ∈ tables_1, d.before a0 Z = true) (ws : List Jvm.Cond) (a1 : Addr) (kc : ClassId) (h0 : Heap) (n0 : Nat) (Z0 : n0 ≤ h0.size) (A_a1 : Arv Z h0 a1 kc .byte (0 : Int32) [] (.int (0 : Int32))) :
    MetFree l (⟨"com/example/handclasp/handclasp/Apdu", "ne", "([B)I"⟩ : MethodName) (head1 (Jvm.Cond.code (⟨"com/example/handclasp/handclasp/Apdu", "ne", "([B)I"⟩ : MethodName) prog_3_method_6_code 6 (some .int) :: ws) ({ frames := 0, cells := 0, slots := 0, locals := 0 } : Room)) (fun a U => a = #[(.ref a1)] ∧ Z.Warmed39 U.vm ∧ U.heap = h0) (fun _ _ _ _ _ => True) (fun _ U o U' => ∃ v L, o = .returned v ∧ Q10 Z a1 kc h0 n0 v U'.heap L ∧ FrameEnd U o U' L ({ frames := 0, cells := 0, slots := 0, locals := 0 } : Room).cells ({ frames := 0, cells := 0, slots := 0, locals := 0 } : Room).slots) := by
  refine MetFree.of_bodySF (plainFor_of_name pn_0) hisR ?_
  intro p e s m args below meth c s₁ Bd hml0 hP hK
  obtain ⟨rfl, hZ, hh⟩ := hP
  have hx := Bd.exec
  have hby := Bd.bytes
  have hml : c.maxLocals = 6 := hml0
  have hown : s.vm.findClass "com/example/handclasp/handclasp/Apdu" = some m.cls := findClass_of_methodNamed Bd.named
  have hnm := (name_of_methodNamed Bd.named Bd.method).1
  have X0 : Stand p l e ({ frames := 0, cells := 0, slots := 0, locals := 0 } : Room) s m #[(.ref a1)] below meth c s₁ [] 0 0 := Stand.of_body Bd
  have e0 : s₁.heap = h0 := by rw [← hh, Bd.state]; rfl
  have N0 := Fr.nil n0
  change own_Go p e below (Q10 Z a1 kc h0 n0) (own_Fr s ({ frames := 0, cells := 0, slots := 0, locals := 0 } : Room).cells ({ frames := 0, cells := 0, slots := 0, locals := 0 } : Room).slots) (s₁.setTop (entryFrame m #[(.ref a1)] 6))
  rw [ef_10 m a1]
  refine own_aloadN (pc' := 1) X0 hx rfl rfl (hb hby d10_0) rfl ?_
  obtain ⟨c1, B1, q1, s1, u1, H1, G1⟩ := id A_a1
  refine own_by (X0.arraylength hx (by rw [e0]; exact B1.1) (State.isArrayOf_alike hZ.alike B1.2.1) (g := (mkF m 1 #[.val (.ref a1), .unset, .unset, .unset, .unset, .unset] [(.ref a1)])) rfl rfl (hb hby d10_1)) ?_
  rw [len_of s1 u1]
  show own_Go p e below (Q10 Z a1 kc h0 n0) (own_Fr s ({ frames := 0, cells := 0, slots := 0, locals := 0 } : Room).cells ({ frames := 0, cells := 0, slots := 0, locals := 0 } : Room).slots) (s₁.setTop (mkF m 2 #[.val (.ref a1), .unset, .unset, .unset, .unset, .unset] [(.int (0 : Int32))]))
  refine own_ifNo (pc' := 5) X0 hx (by decide) (hb hby d10_2) rfl ?_
  refine own_iconst (pc' := 6) X0 hx (0 : Int32) (by decide) (hb hby d10_5) rfl ?_
  refine own_ret X0 hx Bd.returns Bd.notSynchronized (Or.inl ⟨rfl, by simp, _, rfl⟩) (hb hby d10_6) rfl (by decide) (by decide) ?_
  show Q10 Z a1 kc h0 n0 _ s₁.heap _
  rw [e0]
  have kc0 : ((0 : Int32)).toInt = 0 := by decide
  exact ⟨(0 : Int32), rfl, by omega, N0, rfl⟩
theorem ef_11 (m : MethodId) (x0 : Addr) : entryFrame m #[(.ref x0)] 6 = mkF m 0 #[.val (.ref x0), .unset, .unset, .unset, .unset, .unset] [] := by first | (simp [entryFrame, mkF, argsToLocals, Value.category, maxLocals]; done) | rfl
def Q11 (Z : State) (a1 : Addr) (kc : ClassId) (b0 : Int32) (h0 : Heap) (n0 : Nat) (v : Option Value) (h : Heap) (L : List Loc) : Prop := ∃ r : Int32, v = some (.int r) ∧ (((b0.toInt % 256) * 1 = 0 ∧ r.toInt = 256) ∨ (¬ (b0.toInt % 256) * 1 = 0 ∧ r.toInt = (b0.toInt % 256) * 1)) ∧ Fr n0 L ∧ h = h0
set_option maxRecDepth 65536 in
set_option maxHeartbeats 40000000 in
theorem rm11 (l : Launch) (Z : State) (a0 : Array Value) (hw : ∀ d ∈ tables_1, d.before a0 Z = true) (ws : List Jvm.Cond) (a1 : Addr) (kc : ClassId) (b0 : Int32) (h0 : Heap) (n0 : Nat) (Z0 : n0 ≤ h0.size) (A_a1 : Arv Z h0 a1 kc .byte (1 : Int32) [(.int b0)] (.int (0 : Int32))) (hb0 : -128 ≤ b0.toInt ∧ b0.toInt < 128) :
    MetFree l (⟨"com/example/handclasp/handclasp/Apdu", "ne", "([B)I"⟩ : MethodName) (head1 (Jvm.Cond.code (⟨"com/example/handclasp/handclasp/Apdu", "ne", "([B)I"⟩ : MethodName) prog_3_method_6_code 6 (some .int) :: ws) ({ frames := 0, cells := 0, slots := 0, locals := 0 } : Room)) (fun a U => a = #[(.ref a1)] ∧ Z.Warmed39 U.vm ∧ U.heap = h0) (fun _ _ _ _ _ => True) (fun _ U o U' => ∃ v L, o = .returned v ∧ Q11 Z a1 kc b0 h0 n0 v U'.heap L ∧ FrameEnd U o U' L ({ frames := 0, cells := 0, slots := 0, locals := 0 } : Room).cells ({ frames := 0, cells := 0, slots := 0, locals := 0 } : Room).slots) := by
  refine MetFree.of_bodySF (plainFor_of_name pn_0) hisR ?_
  intro p e s m args below meth c s₁ Bd hml0 hP hK
  obtain ⟨rfl, hZ, hh⟩ := hP
  have hx := Bd.exec
  have hby := Bd.bytes
  have hml : c.maxLocals = 6 := hml0
  have hown : s.vm.findClass "com/example/handclasp/handclasp/Apdu" = some m.cls := findClass_of_methodNamed Bd.named
  have hnm := (name_of_methodNamed Bd.named Bd.method).1
  have X0 : Stand p l e ({ frames := 0, cells := 0, slots := 0, locals := 0 } : Room) s m #[(.ref a1)] below meth c s₁ [] 0 0 := Stand.of_body Bd
  have e0 : s₁.heap = h0 := by rw [← hh, Bd.state]; rfl
  have N0 := Fr.nil n0
  change own_Go p e below (Q11 Z a1 kc b0 h0 n0) (own_Fr s ({ frames := 0, cells := 0, slots := 0, locals := 0 } : Room).cells ({ frames := 0, cells := 0, slots := 0, locals := 0 } : Room).slots) (s₁.setTop (entryFrame m #[(.ref a1)] 6))
  rw [ef_11 m a1]
  have rb0 := rng32 b0
  refine own_aloadN (pc' := 1) X0 hx rfl rfl (hb hby d10_0) rfl ?_
  obtain ⟨c1, B1, q1, s1, u1, H1, G1⟩ := id A_a1
  refine own_by (X0.arraylength hx (by rw [e0]; exact B1.1) (State.isArrayOf_alike hZ.alike B1.2.1) (g := (mkF m 1 #[.val (.ref a1), .unset, .unset, .unset, .unset, .unset] [(.ref a1)])) rfl rfl (hb hby d10_1)) ?_
  rw [len_of s1 u1]
  show own_Go p e below (Q11 Z a1 kc b0 h0 n0) (own_Fr s ({ frames := 0, cells := 0, slots := 0, locals := 0 } : Room).cells ({ frames := 0, cells := 0, slots := 0, locals := 0 } : Room).slots) (s₁.setTop (mkF m 2 #[.val (.ref a1), .unset, .unset, .unset, .unset, .unset] [(.int (1 : Int32))]))
  refine own_ifYes (pc' := 7) X0 hx (hb hby d10_2) (by decide) (by decide) (by decide) ?_
  refine own_iconst (pc' := 8) X0 hx (0 : Int32) (by decide) (hb hby d10_7) rfl ?_
  refine own_istoreN (pc' := 9) X0 hx #[.val (.ref a1), .val (.int (0 : Int32)), .unset, .unset, .unset, .unset] rfl (hb hby d10_8) rfl ?_
  refine own_aloadN (pc' := 10) X0 hx rfl rfl (hb hby d10_9) rfl ?_
  refine own_astoreN (pc' := 11) X0 hx #[.val (.ref a1), .val (.int (0 : Int32)), .val (.ref a1), .unset, .unset, .unset] rfl rfl (hb hby d10_10) rfl ?_
  refine own_aloadN (pc' := 12) X0 hx rfl rfl (hb hby d10_11) rfl ?_
  obtain ⟨c2, B2, q2, s2, u2, H2, G2⟩ := id A_a1
  refine own_by (X0.arraylength hx (by rw [e0]; exact B2.1) (State.isArrayOf_alike hZ.alike B2.2.1) (g := (mkF m 12 #[.val (.ref a1), .val (.int (0 : Int32)), .val (.ref a1), .unset, .unset, .unset] [(.ref a1)])) rfl rfl (hb hby d10_12)) ?_
  rw [len_of s2 u2]
  show own_Go p e below (Q11 Z a1 kc b0 h0 n0) (own_Fr s ({ frames := 0, cells := 0, slots := 0, locals := 0 } : Room).cells ({ frames := 0, cells := 0, slots := 0, locals := 0 } : Room).slots) (s₁.setTop (mkF m 13 #[.val (.ref a1), .val (.int (0 : Int32)), .val (.ref a1), .unset, .unset, .unset] [(.int (1 : Int32))]))
  refine own_istoreN (pc' := 14) X0 hx #[.val (.ref a1), .val (.int (0 : Int32)), .val (.ref a1), .val (.int (1 : Int32)), .unset, .unset] rfl (hb hby d10_13) rfl ?_
  refine own_iconst (pc' := 15) X0 hx (0 : Int32) (by decide) (hb hby d10_14) rfl ?_
  refine own_istore (pc' := 17) X0 hx #[.val (.ref a1), .val (.int (0 : Int32)), .val (.ref a1), .val (.int (1 : Int32)), .val (.int (0 : Int32)), .unset] rfl (hb hby d10_15) rfl ?_
  refine own_iload (pc' := 19) X0 hx rfl (hb hby d10_17) rfl ?_
  refine own_iloadN (pc' := 20) X0 hx rfl (hb hby d10_19) rfl ?_
  refine own_icmpNo (pc' := 23) X0 hx (by decide) (hb hby d10_20) rfl ?_
  refine own_aloadN (pc' := 24) X0 hx rfl rfl (hb hby d10_23) rfl ?_
  refine own_iload (pc' := 26) X0 hx rfl (hb hby d10_24) rfl ?_
  obtain ⟨c3, B3, q3, s3, u3, H3, G3⟩ := id A_a1
  have i3 := inb_of s3 (j := (0 : Int32)) (by decide)
  refine own_by (X0.baloadBytes hx (j := (0 : Int32)) (v := (.int b0)) (by rw [e0]; exact B3.1) (State.isArrayOf_alike hZ.alike B3.2.1) B3.2.2 i3 (H3.at i3 rfl) (g := (mkF m 26 #[.val (.ref a1), .val (.int (0 : Int32)), .val (.ref a1), .val (.int (1 : Int32)), .val (.int (0 : Int32)), .unset] [(.int (0 : Int32)), (.ref a1)])) rfl rfl (hb hby d10_26)) ?_
  show own_Go p e below (Q11 Z a1 kc b0 h0 n0) (own_Fr s ({ frames := 0, cells := 0, slots := 0, locals := 0 } : Room).cells ({ frames := 0, cells := 0, slots := 0, locals := 0 } : Room).slots) (s₁.setTop (mkF m 27 #[.val (.ref a1), .val (.int (0 : Int32)), .val (.ref a1), .val (.int (1 : Int32)), .val (.int (0 : Int32)), .unset] [(.int b0)]))
  refine own_istore (pc' := 29) X0 hx #[.val (.ref a1), .val (.int (0 : Int32)), .val (.ref a1), .val (.int (1 : Int32)), .val (.int (0 : Int32)), .val (.int b0)] rfl (hb hby d10_27) rfl ?_
  refine own_iloadN (pc' := 30) X0 hx rfl (hb hby d10_29) rfl ?_
  refine own_bipush (pc' := 32) X0 hx (8 : Int32) (by decide) (hb hby d10_30) rfl ?_
  refine own_ishl (pc' := 33) X0 hx (z := (0 : Int32)) (by decide) (hb hby d10_32) rfl ?_
  refine own_iload (pc' := 35) X0 hx rfl (hb hby d10_33) rfl ?_
  refine own_sipush (pc' := 38) X0 hx (255 : Int32) (by decide) (hb hby d10_35) rfl ?_
  obtain ⟨v4, hv4⟩ : ∃ z, b0 &&& (255 : Int32) = z := ⟨_, rfl⟩
  have f5 : v4.toInt = b0.toInt % 256 := by rw [← hv4]; exact c_mask b0 (255 : Int32) 8 (by decide) (by decide)
  refine own_iand (pc' := 39) X0 hx (z := v4) hv4 (hb hby d10_38) rfl ?_
  refine own_ior (pc' := 40) X0 hx (z := v4) (by simp) (hb hby d10_39) rfl ?_
  refine own_istoreN (pc' := 41) X0 hx #[.val (.ref a1), .val (.int v4), .val (.ref a1), .val (.int (1 : Int32)), .val (.int (0 : Int32)), .val (.int b0)] rfl (hb hby d10_40) rfl ?_
  refine own_iinc (pc' := 44) X0 hx #[.val (.ref a1), .val (.int v4), .val (.ref a1), .val (.int (1 : Int32)), .val (.int (1 : Int32)), .val (.int b0)] rfl (by decide) rfl (hb hby d10_41) rfl ?_
  refine own_goto (pc' := 17) X0 hx (hb hby d10_44) (by decide) (by decide) ?_
  refine own_iload (pc' := 19) X0 hx rfl (hb hby d10_17) rfl ?_
  refine own_iloadN (pc' := 20) X0 hx rfl (hb hby d10_19) rfl ?_
  refine own_icmpYes (pc' := 47) X0 hx (hb hby d10_20) (by decide) (by decide) (by decide) ?_
  refine own_aloadN (pc' := 48) X0 hx rfl rfl (hb hby d10_47) rfl ?_
  obtain ⟨c6, B6, q6, s6, u6, H6, G6⟩ := id A_a1
  refine own_by (X0.arraylength hx (by rw [e0]; exact B6.1) (State.isArrayOf_alike hZ.alike B6.2.1) (g := (mkF m 48 #[.val (.ref a1), .val (.int v4), .val (.ref a1), .val (.int (1 : Int32)), .val (.int (1 : Int32)), .val (.int b0)] [(.ref a1)])) rfl rfl (hb hby d10_48)) ?_
  rw [len_of s6 u6]
  show own_Go p e below (Q11 Z a1 kc b0 h0 n0) (own_Fr s ({ frames := 0, cells := 0, slots := 0, locals := 0 } : Room).cells ({ frames := 0, cells := 0, slots := 0, locals := 0 } : Room).slots) (s₁.setTop (mkF m 49 #[.val (.ref a1), .val (.int v4), .val (.ref a1), .val (.int (1 : Int32)), .val (.int (1 : Int32)), .val (.int b0)] [(.int (1 : Int32))]))
  refine own_iconst (pc' := 50) X0 hx (1 : Int32) (by decide) (hb hby d10_49) rfl ?_
  refine own_icmpYes (pc' := 57) X0 hx (hb hby d10_50) (by decide) (by decide) (by decide) ?_
  refine own_iconst (pc' := 58) X0 hx (0 : Int32) (by decide) (hb hby d10_57) rfl ?_
  refine own_istoreN (pc' := 59) X0 hx #[.val (.ref a1), .val (.int v4), .val (.int (0 : Int32)), .val (.int (1 : Int32)), .val (.int (1 : Int32)), .val (.int b0)] rfl (hb hby d10_58) rfl ?_
  refine own_iloadN (pc' := 60) X0 hx rfl (hb hby d10_59) rfl ?_
  by_cases b7 : v4.toInt = 0
  · refine own_ifNo (pc' := 63) X0 hx (own_z (own_no_ne rfl (by decide) b7)) (hb hby d10_60) rfl ?_
    refine own_iloadN (pc' := 64) X0 hx rfl (hb hby d10_63) rfl ?_
    refine own_ifYes (pc' := 72) X0 hx (hb hby d10_64) (by decide) (by decide) (by decide) ?_
    refine own_sipush (pc' := 75) X0 hx (256 : Int32) (by decide) (hb hby d10_72) rfl ?_
    refine own_goto (pc' := 79) X0 hx (hb hby d10_75) (by decide) (by decide) ?_
    refine own_ret X0 hx Bd.returns Bd.notSynchronized (Or.inl ⟨rfl, by simp, _, rfl⟩) (hb hby d10_79) rfl (by decide) (by decide) ?_
    show Q11 Z a1 kc b0 h0 n0 _ s₁.heap _
    rw [e0]
    have kc0 : ((256 : Int32)).toInt = 256 := by decide
    exact ⟨(256 : Int32), rfl, by omega, N0, rfl⟩
  · refine own_ifYes (pc' := 78) X0 hx (hb hby d10_60) (own_z (own_yes_ne rfl (by decide) b7)) (by decide) (by decide) ?_
    refine own_iloadN (pc' := 79) X0 hx rfl (hb hby d10_78) rfl ?_
    refine own_ret X0 hx Bd.returns Bd.notSynchronized (Or.inl ⟨rfl, by simp, _, rfl⟩) (hb hby d10_79) rfl (by decide) (by decide) ?_
    show Q11 Z a1 kc b0 h0 n0 _ s₁.heap _
    rw [e0]
    exact ⟨v4, rfl, by omega, N0, rfl⟩
theorem ef_12 (m : MethodId) (x0 : Addr) : entryFrame m #[(.ref x0)] 6 = mkF m 0 #[.val (.ref x0), .unset, .unset, .unset, .unset, .unset] [] := by first | (simp [entryFrame, mkF, argsToLocals, Value.category, maxLocals]; done) | rfl
def Q12 (Z : State) (a1 : Addr) (kc : ClassId) (b0 : Int32) (b1 : Int32) (h0 : Heap) (n0 : Nat) (v : Option Value) (h : Heap) (L : List Loc) : Prop := ∃ r : Int32, v = some (.int r) ∧ (((b0.toInt % 256) * 256 + (b1.toInt % 256) * 1 = 0 ∧ r.toInt = 65536) ∨ (¬ (b0.toInt % 256) * 256 + (b1.toInt % 256) * 1 = 0 ∧ r.toInt = (b0.toInt % 256) * 256 + (b1.toInt % 256) * 1)) ∧ Fr n0 L ∧ h = h0
set_option maxRecDepth 65536 in
set_option maxHeartbeats 40000000 in
theorem rm12 (l : Launch) (Z : State) (a0 : Array Value) (hw : ∀ d ∈ tables_1, d.before a0 Z = true) (ws : List Jvm.Cond) (a1 : Addr) (kc : ClassId) (b0 : Int32) (b1 : Int32) (h0 : Heap) (n0 : Nat) (Z0 : n0 ≤ h0.size) (A_a1 : Arv Z h0 a1 kc .byte (2 : Int32) [(.int b0), (.int b1)] (.int (0 : Int32))) (hb0 : -128 ≤ b0.toInt ∧ b0.toInt < 128) (hb1 : -128 ≤ b1.toInt ∧ b1.toInt < 128) :
    MetFree l (⟨"com/example/handclasp/handclasp/Apdu", "ne", "([B)I"⟩ : MethodName) (head1 (Jvm.Cond.code (⟨"com/example/handclasp/handclasp/Apdu", "ne", "([B)I"⟩ : MethodName) prog_3_method_6_code 6 (some .int) :: ws) ({ frames := 0, cells := 0, slots := 0, locals := 0 } : Room)) (fun a U => a = #[(.ref a1)] ∧ Z.Warmed39 U.vm ∧ U.heap = h0) (fun _ _ _ _ _ => True) (fun _ U o U' => ∃ v L, o = .returned v ∧ Q12 Z a1 kc b0 b1 h0 n0 v U'.heap L ∧ FrameEnd U o U' L ({ frames := 0, cells := 0, slots := 0, locals := 0 } : Room).cells ({ frames := 0, cells := 0, slots := 0, locals := 0 } : Room).slots) := by
  refine MetFree.of_bodySF (plainFor_of_name pn_0) hisR ?_
  intro p e s m args below meth c s₁ Bd hml0 hP hK
  obtain ⟨rfl, hZ, hh⟩ := hP
  have hx := Bd.exec
  have hby := Bd.bytes
  have hml : c.maxLocals = 6 := hml0
  have hown : s.vm.findClass "com/example/handclasp/handclasp/Apdu" = some m.cls := findClass_of_methodNamed Bd.named
  have hnm := (name_of_methodNamed Bd.named Bd.method).1
  have X0 : Stand p l e ({ frames := 0, cells := 0, slots := 0, locals := 0 } : Room) s m #[(.ref a1)] below meth c s₁ [] 0 0 := Stand.of_body Bd
  have e0 : s₁.heap = h0 := by rw [← hh, Bd.state]; rfl
  have N0 := Fr.nil n0
  change own_Go p e below (Q12 Z a1 kc b0 b1 h0 n0) (own_Fr s ({ frames := 0, cells := 0, slots := 0, locals := 0 } : Room).cells ({ frames := 0, cells := 0, slots := 0, locals := 0 } : Room).slots) (s₁.setTop (entryFrame m #[(.ref a1)] 6))
  rw [ef_12 m a1]
  have rb0 := rng32 b0
  have rb1 := rng32 b1
  refine own_aloadN (pc' := 1) X0 hx rfl rfl (hb hby d10_0) rfl ?_
  obtain ⟨c1, B1, q1, s1, u1, H1, G1⟩ := id A_a1
  refine own_by (X0.arraylength hx (by rw [e0]; exact B1.1) (State.isArrayOf_alike hZ.alike B1.2.1) (g := (mkF m 1 #[.val (.ref a1), .unset, .unset, .unset, .unset, .unset] [(.ref a1)])) rfl rfl (hb hby d10_1)) ?_
  rw [len_of s1 u1]
  show own_Go p e below (Q12 Z a1 kc b0 b1 h0 n0) (own_Fr s ({ frames := 0, cells := 0, slots := 0, locals := 0 } : Room).cells ({ frames := 0, cells := 0, slots := 0, locals := 0 } : Room).slots) (s₁.setTop (mkF m 2 #[.val (.ref a1), .unset, .unset, .unset, .unset, .unset] [(.int (2 : Int32))]))
  refine own_ifYes (pc' := 7) X0 hx (hb hby d10_2) (by decide) (by decide) (by decide) ?_
  refine own_iconst (pc' := 8) X0 hx (0 : Int32) (by decide) (hb hby d10_7) rfl ?_
  refine own_istoreN (pc' := 9) X0 hx #[.val (.ref a1), .val (.int (0 : Int32)), .unset, .unset, .unset, .unset] rfl (hb hby d10_8) rfl ?_
  refine own_aloadN (pc' := 10) X0 hx rfl rfl (hb hby d10_9) rfl ?_
  refine own_astoreN (pc' := 11) X0 hx #[.val (.ref a1), .val (.int (0 : Int32)), .val (.ref a1), .unset, .unset, .unset] rfl rfl (hb hby d10_10) rfl ?_
  refine own_aloadN (pc' := 12) X0 hx rfl rfl (hb hby d10_11) rfl ?_
  obtain ⟨c2, B2, q2, s2, u2, H2, G2⟩ := id A_a1
  refine own_by (X0.arraylength hx (by rw [e0]; exact B2.1) (State.isArrayOf_alike hZ.alike B2.2.1) (g := (mkF m 12 #[.val (.ref a1), .val (.int (0 : Int32)), .val (.ref a1), .unset, .unset, .unset] [(.ref a1)])) rfl rfl (hb hby d10_12)) ?_
  rw [len_of s2 u2]
  show own_Go p e below (Q12 Z a1 kc b0 b1 h0 n0) (own_Fr s ({ frames := 0, cells := 0, slots := 0, locals := 0 } : Room).cells ({ frames := 0, cells := 0, slots := 0, locals := 0 } : Room).slots) (s₁.setTop (mkF m 13 #[.val (.ref a1), .val (.int (0 : Int32)), .val (.ref a1), .unset, .unset, .unset] [(.int (2 : Int32))]))
  refine own_istoreN (pc' := 14) X0 hx #[.val (.ref a1), .val (.int (0 : Int32)), .val (.ref a1), .val (.int (2 : Int32)), .unset, .unset] rfl (hb hby d10_13) rfl ?_
  refine own_iconst (pc' := 15) X0 hx (0 : Int32) (by decide) (hb hby d10_14) rfl ?_
  refine own_istore (pc' := 17) X0 hx #[.val (.ref a1), .val (.int (0 : Int32)), .val (.ref a1), .val (.int (2 : Int32)), .val (.int (0 : Int32)), .unset] rfl (hb hby d10_15) rfl ?_
  refine own_iload (pc' := 19) X0 hx rfl (hb hby d10_17) rfl ?_
  refine own_iloadN (pc' := 20) X0 hx rfl (hb hby d10_19) rfl ?_
  refine own_icmpNo (pc' := 23) X0 hx (by decide) (hb hby d10_20) rfl ?_
  refine own_aloadN (pc' := 24) X0 hx rfl rfl (hb hby d10_23) rfl ?_
  refine own_iload (pc' := 26) X0 hx rfl (hb hby d10_24) rfl ?_
  obtain ⟨c3, B3, q3, s3, u3, H3, G3⟩ := id A_a1
  have i3 := inb_of s3 (j := (0 : Int32)) (by decide)
  refine own_by (X0.baloadBytes hx (j := (0 : Int32)) (v := (.int b0)) (by rw [e0]; exact B3.1) (State.isArrayOf_alike hZ.alike B3.2.1) B3.2.2 i3 (H3.at i3 rfl) (g := (mkF m 26 #[.val (.ref a1), .val (.int (0 : Int32)), .val (.ref a1), .val (.int (2 : Int32)), .val (.int (0 : Int32)), .unset] [(.int (0 : Int32)), (.ref a1)])) rfl rfl (hb hby d10_26)) ?_
  show own_Go p e below (Q12 Z a1 kc b0 b1 h0 n0) (own_Fr s ({ frames := 0, cells := 0, slots := 0, locals := 0 } : Room).cells ({ frames := 0, cells := 0, slots := 0, locals := 0 } : Room).slots) (s₁.setTop (mkF m 27 #[.val (.ref a1), .val (.int (0 : Int32)), .val (.ref a1), .val (.int (2 : Int32)), .val (.int (0 : Int32)), .unset] [(.int b0)]))
  refine own_istore (pc' := 29) X0 hx #[.val (.ref a1), .val (.int (0 : Int32)), .val (.ref a1), .val (.int (2 : Int32)), .val (.int (0 : Int32)), .val (.int b0)] rfl (hb hby d10_27) rfl ?_
  refine own_iloadN (pc' := 30) X0 hx rfl (hb hby d10_29) rfl ?_
  refine own_bipush (pc' := 32) X0 hx (8 : Int32) (by decide) (hb hby d10_30) rfl ?_
  refine own_ishl (pc' := 33) X0 hx (z := (0 : Int32)) (by decide) (hb hby d10_32) rfl ?_
  refine own_iload (pc' := 35) X0 hx rfl (hb hby d10_33) rfl ?_
  refine own_sipush (pc' := 38) X0 hx (255 : Int32) (by decide) (hb hby d10_35) rfl ?_
  obtain ⟨v4, hv4⟩ : ∃ z, b0 &&& (255 : Int32) = z := ⟨_, rfl⟩
  have f5 : v4.toInt = b0.toInt % 256 := by rw [← hv4]; exact c_mask b0 (255 : Int32) 8 (by decide) (by decide)
  refine own_iand (pc' := 39) X0 hx (z := v4) hv4 (hb hby d10_38) rfl ?_
  refine own_ior (pc' := 40) X0 hx (z := v4) (by simp) (hb hby d10_39) rfl ?_
  refine own_istoreN (pc' := 41) X0 hx #[.val (.ref a1), .val (.int v4), .val (.ref a1), .val (.int (2 : Int32)), .val (.int (0 : Int32)), .val (.int b0)] rfl (hb hby d10_40) rfl ?_
  refine own_iinc (pc' := 44) X0 hx #[.val (.ref a1), .val (.int v4), .val (.ref a1), .val (.int (2 : Int32)), .val (.int (1 : Int32)), .val (.int b0)] rfl (by decide) rfl (hb hby d10_41) rfl ?_
  refine own_goto (pc' := 17) X0 hx (hb hby d10_44) (by decide) (by decide) ?_
  refine own_iload (pc' := 19) X0 hx rfl (hb hby d10_17) rfl ?_
  refine own_iloadN (pc' := 20) X0 hx rfl (hb hby d10_19) rfl ?_
  refine own_icmpNo (pc' := 23) X0 hx (by decide) (hb hby d10_20) rfl ?_
  refine own_aloadN (pc' := 24) X0 hx rfl rfl (hb hby d10_23) rfl ?_
  refine own_iload (pc' := 26) X0 hx rfl (hb hby d10_24) rfl ?_
  obtain ⟨c6, B6, q6, s6, u6, H6, G6⟩ := id A_a1
  have i6 := inb_of s6 (j := (1 : Int32)) (by decide)
  refine own_by (X0.baloadBytes hx (j := (1 : Int32)) (v := (.int b1)) (by rw [e0]; exact B6.1) (State.isArrayOf_alike hZ.alike B6.2.1) B6.2.2 i6 (H6.at i6 rfl) (g := (mkF m 26 #[.val (.ref a1), .val (.int v4), .val (.ref a1), .val (.int (2 : Int32)), .val (.int (1 : Int32)), .val (.int b0)] [(.int (1 : Int32)), (.ref a1)])) rfl rfl (hb hby d10_26)) ?_
  show own_Go p e below (Q12 Z a1 kc b0 b1 h0 n0) (own_Fr s ({ frames := 0, cells := 0, slots := 0, locals := 0 } : Room).cells ({ frames := 0, cells := 0, slots := 0, locals := 0 } : Room).slots) (s₁.setTop (mkF m 27 #[.val (.ref a1), .val (.int v4), .val (.ref a1), .val (.int (2 : Int32)), .val (.int (1 : Int32)), .val (.int b0)] [(.int b1)]))
  refine own_istore (pc' := 29) X0 hx #[.val (.ref a1), .val (.int v4), .val (.ref a1), .val (.int (2 : Int32)), .val (.int (1 : Int32)), .val (.int b1)] rfl (hb hby d10_27) rfl ?_
  refine own_iloadN (pc' := 30) X0 hx rfl (hb hby d10_29) rfl ?_
  refine own_bipush (pc' := 32) X0 hx (8 : Int32) (by decide) (hb hby d10_30) rfl ?_
  obtain ⟨v7, hv7⟩ : ∃ z, v4 <<< ((8 : Int32) &&& 31) = z := ⟨_, rfl⟩
  have f8 : (v7.toInt - v4.toInt * 256) % 4294967296 = 0 := by rw [← hv7]; exact c_ishl v4 (8 : Int32) 8 (by decide)
  have rv7 := rng32 v7
  replace f8 : v7.toInt = v4.toInt * 256 := by omega
  refine own_ishl (pc' := 33) X0 hx (z := v7) hv7 (hb hby d10_32) rfl ?_
  refine own_iload (pc' := 35) X0 hx rfl (hb hby d10_33) rfl ?_
  refine own_sipush (pc' := 38) X0 hx (255 : Int32) (by decide) (hb hby d10_35) rfl ?_
  obtain ⟨v9, hv9⟩ : ∃ z, b1 &&& (255 : Int32) = z := ⟨_, rfl⟩
  have f10 : v9.toInt = b1.toInt % 256 := by rw [← hv9]; exact c_mask b1 (255 : Int32) 8 (by decide) (by decide)
  refine own_iand (pc' := 39) X0 hx (z := v9) hv9 (hb hby d10_38) rfl ?_
  obtain ⟨v11, hv11⟩ : ∃ z, v7 ||| v9 = z := ⟨_, rfl⟩
  have f12 : (v11.toInt - (v7.toInt + v9.toInt)) % 4294967296 = 0 := by rw [← hv11]; exact c_or v7 v9 8 (by decide) 256 (by decide) (by omega) (by omega) (by omega)
  have rv11 := rng32 v11
  replace f12 : v11.toInt = v7.toInt + v9.toInt := by omega
  refine own_ior (pc' := 40) X0 hx (z := v11) hv11 (hb hby d10_39) rfl ?_
  refine own_istoreN (pc' := 41) X0 hx #[.val (.ref a1), .val (.int v11), .val (.ref a1), .val (.int (2 : Int32)), .val (.int (1 : Int32)), .val (.int b1)] rfl (hb hby d10_40) rfl ?_
  refine own_iinc (pc' := 44) X0 hx #[.val (.ref a1), .val (.int v11), .val (.ref a1), .val (.int (2 : Int32)), .val (.int (2 : Int32)), .val (.int b1)] rfl (by decide) rfl (hb hby d10_41) rfl ?_
  refine own_goto (pc' := 17) X0 hx (hb hby d10_44) (by decide) (by decide) ?_
  refine own_iload (pc' := 19) X0 hx rfl (hb hby d10_17) rfl ?_
  refine own_iloadN (pc' := 20) X0 hx rfl (hb hby d10_19) rfl ?_
  refine own_icmpYes (pc' := 47) X0 hx (hb hby d10_20) (by decide) (by decide) (by decide) ?_
  refine own_aloadN (pc' := 48) X0 hx rfl rfl (hb hby d10_47) rfl ?_
  obtain ⟨c13, B13, q13, s13, u13, H13, G13⟩ := id A_a1
  refine own_by (X0.arraylength hx (by rw [e0]; exact B13.1) (State.isArrayOf_alike hZ.alike B13.2.1) (g := (mkF m 48 #[.val (.ref a1), .val (.int v11), .val (.ref a1), .val (.int (2 : Int32)), .val (.int (2 : Int32)), .val (.int b1)] [(.ref a1)])) rfl rfl (hb hby d10_48)) ?_
  rw [len_of s13 u13]
  show own_Go p e below (Q12 Z a1 kc b0 b1 h0 n0) (own_Fr s ({ frames := 0, cells := 0, slots := 0, locals := 0 } : Room).cells ({ frames := 0, cells := 0, slots := 0, locals := 0 } : Room).slots) (s₁.setTop (mkF m 49 #[.val (.ref a1), .val (.int v11), .val (.ref a1), .val (.int (2 : Int32)), .val (.int (2 : Int32)), .val (.int b1)] [(.int (2 : Int32))]))
  refine own_iconst (pc' := 50) X0 hx (1 : Int32) (by decide) (hb hby d10_49) rfl ?_
  refine own_icmpNo (pc' := 53) X0 hx (by decide) (hb hby d10_50) rfl ?_
  refine own_iconst (pc' := 54) X0 hx (1 : Int32) (by decide) (hb hby d10_53) rfl ?_
  refine own_goto (pc' := 58) X0 hx (hb hby d10_54) (by decide) (by decide) ?_
  refine own_istoreN (pc' := 59) X0 hx #[.val (.ref a1), .val (.int v11), .val (.int (1 : Int32)), .val (.int (2 : Int32)), .val (.int (2 : Int32)), .val (.int b1)] rfl (hb hby d10_58) rfl ?_
  refine own_iloadN (pc' := 60) X0 hx rfl (hb hby d10_59) rfl ?_
  by_cases b14 : v11.toInt = 0
  · refine own_ifNo (pc' := 63) X0 hx (own_z (own_no_ne rfl (by decide) b14)) (hb hby d10_60) rfl ?_
    refine own_iloadN (pc' := 64) X0 hx rfl (hb hby d10_63) rfl ?_
    refine own_ifNo (pc' := 67) X0 hx (by decide) (hb hby d10_64) rfl ?_
    refine own_ldcInt (pc' := 69) X0 hx hZ hown (hw _ (List.mem_of_getElem? (i := 6) rfl)) (hb hby d10_67) rfl ?_
    refine own_goto (pc' := 79) X0 hx (hb hby d10_69) (by decide) (by decide) ?_
    refine own_ret X0 hx Bd.returns Bd.notSynchronized (Or.inl ⟨rfl, by simp, _, rfl⟩) (hb hby d10_79) rfl (by decide) (by decide) ?_
    show Q12 Z a1 kc b0 b1 h0 n0 _ s₁.heap _
    rw [e0]
    have kc0 : ((65536 : Int32)).toInt = 65536 := by decide
    exact ⟨(65536 : Int32), rfl, by omega, N0, rfl⟩
  · refine own_ifYes (pc' := 78) X0 hx (hb hby d10_60) (own_z (own_yes_ne rfl (by decide) b14)) (by decide) (by decide) ?_
    refine own_iloadN (pc' := 79) X0 hx rfl (hb hby d10_78) rfl ?_
    refine own_ret X0 hx Bd.returns Bd.notSynchronized (Or.inl ⟨rfl, by simp, _, rfl⟩) (hb hby d10_79) rfl (by decide) (by decide) ?_
    show Q12 Z a1 kc b0 b1 h0 n0 _ s₁.heap _
    rw [e0]
    exact ⟨v11, rfl, by omega, N0, rfl⟩
theorem ef_13 (m : MethodId) (x0 : Addr) : entryFrame m #[(.ref x0)] 6 = mkF m 0 #[.val (.ref x0), .unset, .unset, .unset, .unset, .unset] [] := by first | (simp [entryFrame, mkF, argsToLocals, Value.category, maxLocals]; done) | rfl
def Q13 (Z : State) (a1 : Addr) (kc : ClassId) (b0 : Int32) (b1 : Int32) (b2 : Int32) (h0 : Heap) (n0 : Nat) (v : Option Value) (h : Heap) (L : List Loc) : Prop := ∃ r : Int32, v = some (.int r) ∧ (((b0.toInt % 256) * 65536 + (b1.toInt % 256) * 256 + (b2.toInt % 256) * 1 = 0 ∧ r.toInt = 65536) ∨ (¬ (b0.toInt % 256) * 65536 + (b1.toInt % 256) * 256 + (b2.toInt % 256) * 1 = 0 ∧ r.toInt = (b0.toInt % 256) * 65536 + (b1.toInt % 256) * 256 + (b2.toInt % 256) * 1)) ∧ Fr n0 L ∧ h = h0
set_option maxRecDepth 65536 in
set_option maxHeartbeats 40000000 in
theorem rm13 (l : Launch) (Z : State) (a0 : Array Value) (hw : ∀ d ∈ tables_1, d.before a0 Z = true) (ws : List Jvm.Cond) (a1 : Addr) (kc : ClassId) (b0 : Int32) (b1 : Int32) (b2 : Int32) (h0 : Heap) (n0 : Nat) (Z0 : n0 ≤ h0.size) (A_a1 : Arv Z h0 a1 kc .byte (3 : Int32) [(.int b0), (.int b1), (.int b2)] (.int (0 : Int32))) (hb0 : -128 ≤ b0.toInt ∧ b0.toInt < 128) (hb1 : -128 ≤ b1.toInt ∧ b1.toInt < 128) (hb2 : -128 ≤ b2.toInt ∧ b2.toInt < 128) :
    MetFree l (⟨"com/example/handclasp/handclasp/Apdu", "ne", "([B)I"⟩ : MethodName) (head1 (Jvm.Cond.code (⟨"com/example/handclasp/handclasp/Apdu", "ne", "([B)I"⟩ : MethodName) prog_3_method_6_code 6 (some .int) :: ws) ({ frames := 0, cells := 0, slots := 0, locals := 0 } : Room)) (fun a U => a = #[(.ref a1)] ∧ Z.Warmed39 U.vm ∧ U.heap = h0) (fun _ _ _ _ _ => True) (fun _ U o U' => ∃ v L, o = .returned v ∧ Q13 Z a1 kc b0 b1 b2 h0 n0 v U'.heap L ∧ FrameEnd U o U' L ({ frames := 0, cells := 0, slots := 0, locals := 0 } : Room).cells ({ frames := 0, cells := 0, slots := 0, locals := 0 } : Room).slots) := by
  refine MetFree.of_bodySF (plainFor_of_name pn_0) hisR ?_
  intro p e s m args below meth c s₁ Bd hml0 hP hK
  obtain ⟨rfl, hZ, hh⟩ := hP
  have hx := Bd.exec
  have hby := Bd.bytes
  have hml : c.maxLocals = 6 := hml0
  have hown : s.vm.findClass "com/example/handclasp/handclasp/Apdu" = some m.cls := findClass_of_methodNamed Bd.named
  have hnm := (name_of_methodNamed Bd.named Bd.method).1
  have X0 : Stand p l e ({ frames := 0, cells := 0, slots := 0, locals := 0 } : Room) s m #[(.ref a1)] below meth c s₁ [] 0 0 := Stand.of_body Bd
  have e0 : s₁.heap = h0 := by rw [← hh, Bd.state]; rfl
  have N0 := Fr.nil n0
  change own_Go p e below (Q13 Z a1 kc b0 b1 b2 h0 n0) (own_Fr s ({ frames := 0, cells := 0, slots := 0, locals := 0 } : Room).cells ({ frames := 0, cells := 0, slots := 0, locals := 0 } : Room).slots) (s₁.setTop (entryFrame m #[(.ref a1)] 6))
  rw [ef_13 m a1]
  have rb0 := rng32 b0
  have rb1 := rng32 b1
  have rb2 := rng32 b2
  refine own_aloadN (pc' := 1) X0 hx rfl rfl (hb hby d10_0) rfl ?_
  obtain ⟨c1, B1, q1, s1, u1, H1, G1⟩ := id A_a1
  refine own_by (X0.arraylength hx (by rw [e0]; exact B1.1) (State.isArrayOf_alike hZ.alike B1.2.1) (g := (mkF m 1 #[.val (.ref a1), .unset, .unset, .unset, .unset, .unset] [(.ref a1)])) rfl rfl (hb hby d10_1)) ?_
  rw [len_of s1 u1]
  show own_Go p e below (Q13 Z a1 kc b0 b1 b2 h0 n0) (own_Fr s ({ frames := 0, cells := 0, slots := 0, locals := 0 } : Room).cells ({ frames := 0, cells := 0, slots := 0, locals := 0 } : Room).slots) (s₁.setTop (mkF m 2 #[.val (.ref a1), .unset, .unset, .unset, .unset, .unset] [(.int (3 : Int32))]))
  refine own_ifYes (pc' := 7) X0 hx (hb hby d10_2) (by decide) (by decide) (by decide) ?_
  refine own_iconst (pc' := 8) X0 hx (0 : Int32) (by decide) (hb hby d10_7) rfl ?_
  refine own_istoreN (pc' := 9) X0 hx #[.val (.ref a1), .val (.int (0 : Int32)), .unset, .unset, .unset, .unset] rfl (hb hby d10_8) rfl ?_
  refine own_aloadN (pc' := 10) X0 hx rfl rfl (hb hby d10_9) rfl ?_
  refine own_astoreN (pc' := 11) X0 hx #[.val (.ref a1), .val (.int (0 : Int32)), .val (.ref a1), .unset, .unset, .unset] rfl rfl (hb hby d10_10) rfl ?_
  refine own_aloadN (pc' := 12) X0 hx rfl rfl (hb hby d10_11) rfl ?_
  obtain ⟨c2, B2, q2, s2, u2, H2, G2⟩ := id A_a1
  refine own_by (X0.arraylength hx (by rw [e0]; exact B2.1) (State.isArrayOf_alike hZ.alike B2.2.1) (g := (mkF m 12 #[.val (.ref a1), .val (.int (0 : Int32)), .val (.ref a1), .unset, .unset, .unset] [(.ref a1)])) rfl rfl (hb hby d10_12)) ?_
  rw [len_of s2 u2]
  show own_Go p e below (Q13 Z a1 kc b0 b1 b2 h0 n0) (own_Fr s ({ frames := 0, cells := 0, slots := 0, locals := 0 } : Room).cells ({ frames := 0, cells := 0, slots := 0, locals := 0 } : Room).slots) (s₁.setTop (mkF m 13 #[.val (.ref a1), .val (.int (0 : Int32)), .val (.ref a1), .unset, .unset, .unset] [(.int (3 : Int32))]))
  refine own_istoreN (pc' := 14) X0 hx #[.val (.ref a1), .val (.int (0 : Int32)), .val (.ref a1), .val (.int (3 : Int32)), .unset, .unset] rfl (hb hby d10_13) rfl ?_
  refine own_iconst (pc' := 15) X0 hx (0 : Int32) (by decide) (hb hby d10_14) rfl ?_
  refine own_istore (pc' := 17) X0 hx #[.val (.ref a1), .val (.int (0 : Int32)), .val (.ref a1), .val (.int (3 : Int32)), .val (.int (0 : Int32)), .unset] rfl (hb hby d10_15) rfl ?_
  refine own_iload (pc' := 19) X0 hx rfl (hb hby d10_17) rfl ?_
  refine own_iloadN (pc' := 20) X0 hx rfl (hb hby d10_19) rfl ?_
  refine own_icmpNo (pc' := 23) X0 hx (by decide) (hb hby d10_20) rfl ?_
  refine own_aloadN (pc' := 24) X0 hx rfl rfl (hb hby d10_23) rfl ?_
  refine own_iload (pc' := 26) X0 hx rfl (hb hby d10_24) rfl ?_
  obtain ⟨c3, B3, q3, s3, u3, H3, G3⟩ := id A_a1
  have i3 := inb_of s3 (j := (0 : Int32)) (by decide)
  refine own_by (X0.baloadBytes hx (j := (0 : Int32)) (v := (.int b0)) (by rw [e0]; exact B3.1) (State.isArrayOf_alike hZ.alike B3.2.1) B3.2.2 i3 (H3.at i3 rfl) (g := (mkF m 26 #[.val (.ref a1), .val (.int (0 : Int32)), .val (.ref a1), .val (.int (3 : Int32)), .val (.int (0 : Int32)), .unset] [(.int (0 : Int32)), (.ref a1)])) rfl rfl (hb hby d10_26)) ?_
  show own_Go p e below (Q13 Z a1 kc b0 b1 b2 h0 n0) (own_Fr s ({ frames := 0, cells := 0, slots := 0, locals := 0 } : Room).cells ({ frames := 0, cells := 0, slots := 0, locals := 0 } : Room).slots) (s₁.setTop (mkF m 27 #[.val (.ref a1), .val (.int (0 : Int32)), .val (.ref a1), .val (.int (3 : Int32)), .val (.int (0 : Int32)), .unset] [(.int b0)]))
  refine own_istore (pc' := 29) X0 hx #[.val (.ref a1), .val (.int (0 : Int32)), .val (.ref a1), .val (.int (3 : Int32)), .val (.int (0 : Int32)), .val (.int b0)] rfl (hb hby d10_27) rfl ?_
  refine own_iloadN (pc' := 30) X0 hx rfl (hb hby d10_29) rfl ?_
  refine own_bipush (pc' := 32) X0 hx (8 : Int32) (by decide) (hb hby d10_30) rfl ?_
  refine own_ishl (pc' := 33) X0 hx (z := (0 : Int32)) (by decide) (hb hby d10_32) rfl ?_
  refine own_iload (pc' := 35) X0 hx rfl (hb hby d10_33) rfl ?_
  refine own_sipush (pc' := 38) X0 hx (255 : Int32) (by decide) (hb hby d10_35) rfl ?_
  obtain ⟨v4, hv4⟩ : ∃ z, b0 &&& (255 : Int32) = z := ⟨_, rfl⟩
  have f5 : v4.toInt = b0.toInt % 256 := by rw [← hv4]; exact c_mask b0 (255 : Int32) 8 (by decide) (by decide)
  refine own_iand (pc' := 39) X0 hx (z := v4) hv4 (hb hby d10_38) rfl ?_
  refine own_ior (pc' := 40) X0 hx (z := v4) (by simp) (hb hby d10_39) rfl ?_
  refine own_istoreN (pc' := 41) X0 hx #[.val (.ref a1), .val (.int v4), .val (.ref a1), .val (.int (3 : Int32)), .val (.int (0 : Int32)), .val (.int b0)] rfl (hb hby d10_40) rfl ?_
  refine own_iinc (pc' := 44) X0 hx #[.val (.ref a1), .val (.int v4), .val (.ref a1), .val (.int (3 : Int32)), .val (.int (1 : Int32)), .val (.int b0)] rfl (by decide) rfl (hb hby d10_41) rfl ?_
  refine own_goto (pc' := 17) X0 hx (hb hby d10_44) (by decide) (by decide) ?_
  refine own_iload (pc' := 19) X0 hx rfl (hb hby d10_17) rfl ?_
  refine own_iloadN (pc' := 20) X0 hx rfl (hb hby d10_19) rfl ?_
  refine own_icmpNo (pc' := 23) X0 hx (by decide) (hb hby d10_20) rfl ?_
  refine own_aloadN (pc' := 24) X0 hx rfl rfl (hb hby d10_23) rfl ?_
  refine own_iload (pc' := 26) X0 hx rfl (hb hby d10_24) rfl ?_
  obtain ⟨c6, B6, q6, s6, u6, H6, G6⟩ := id A_a1
  have i6 := inb_of s6 (j := (1 : Int32)) (by decide)
  refine own_by (X0.baloadBytes hx (j := (1 : Int32)) (v := (.int b1)) (by rw [e0]; exact B6.1) (State.isArrayOf_alike hZ.alike B6.2.1) B6.2.2 i6 (H6.at i6 rfl) (g := (mkF m 26 #[.val (.ref a1), .val (.int v4), .val (.ref a1), .val (.int (3 : Int32)), .val (.int (1 : Int32)), .val (.int b0)] [(.int (1 : Int32)), (.ref a1)])) rfl rfl (hb hby d10_26)) ?_
  show own_Go p e below (Q13 Z a1 kc b0 b1 b2 h0 n0) (own_Fr s ({ frames := 0, cells := 0, slots := 0, locals := 0 } : Room).cells ({ frames := 0, cells := 0, slots := 0, locals := 0 } : Room).slots) (s₁.setTop (mkF m 27 #[.val (.ref a1), .val (.int v4), .val (.ref a1), .val (.int (3 : Int32)), .val (.int (1 : Int32)), .val (.int b0)] [(.int b1)]))
  refine own_istore (pc' := 29) X0 hx #[.val (.ref a1), .val (.int v4), .val (.ref a1), .val (.int (3 : Int32)), .val (.int (1 : Int32)), .val (.int b1)] rfl (hb hby d10_27) rfl ?_
  refine own_iloadN (pc' := 30) X0 hx rfl (hb hby d10_29) rfl ?_
  refine own_bipush (pc' := 32) X0 hx (8 : Int32) (by decide) (hb hby d10_30) rfl ?_
  obtain ⟨v7, hv7⟩ : ∃ z, v4 <<< ((8 : Int32) &&& 31) = z := ⟨_, rfl⟩
  have f8 : (v7.toInt - v4.toInt * 256) % 4294967296 = 0 := by rw [← hv7]; exact c_ishl v4 (8 : Int32) 8 (by decide)
  have rv7 := rng32 v7
  replace f8 : v7.toInt = v4.toInt * 256 := by omega
  refine own_ishl (pc' := 33) X0 hx (z := v7) hv7 (hb hby d10_32) rfl ?_
  refine own_iload (pc' := 35) X0 hx rfl (hb hby d10_33) rfl ?_
  refine own_sipush (pc' := 38) X0 hx (255 : Int32) (by decide) (hb hby d10_35) rfl ?_
  obtain ⟨v9, hv9⟩ : ∃ z, b1 &&& (255 : Int32) = z := ⟨_, rfl⟩
  have f10 : v9.toInt = b1.toInt % 256 := by rw [← hv9]; exact c_mask b1 (255 : Int32) 8 (by decide) (by decide)
  refine own_iand (pc' := 39) X0 hx (z := v9) hv9 (hb hby d10_38) rfl ?_
  obtain ⟨v11, hv11⟩ : ∃ z, v7 ||| v9 = z := ⟨_, rfl⟩
  have f12 : (v11.toInt - (v7.toInt + v9.toInt)) % 4294967296 = 0 := by rw [← hv11]; exact c_or v7 v9 8 (by decide) 256 (by decide) (by omega) (by omega) (by omega)
  have rv11 := rng32 v11
  replace f12 : v11.toInt = v7.toInt + v9.toInt := by omega
  refine own_ior (pc' := 40) X0 hx (z := v11) hv11 (hb hby d10_39) rfl ?_
  refine own_istoreN (pc' := 41) X0 hx #[.val (.ref a1), .val (.int v11), .val (.ref a1), .val (.int (3 : Int32)), .val (.int (1 : Int32)), .val (.int b1)] rfl (hb hby d10_40) rfl ?_
  refine own_iinc (pc' := 44) X0 hx #[.val (.ref a1), .val (.int v11), .val (.ref a1), .val (.int (3 : Int32)), .val (.int (2 : Int32)), .val (.int b1)] rfl (by decide) rfl (hb hby d10_41) rfl ?_
  refine own_goto (pc' := 17) X0 hx (hb hby d10_44) (by decide) (by decide) ?_
  refine own_iload (pc' := 19) X0 hx rfl (hb hby d10_17) rfl ?_
  refine own_iloadN (pc' := 20) X0 hx rfl (hb hby d10_19) rfl ?_
  refine own_icmpNo (pc' := 23) X0 hx (by decide) (hb hby d10_20) rfl ?_
  refine own_aloadN (pc' := 24) X0 hx rfl rfl (hb hby d10_23) rfl ?_
  refine own_iload (pc' := 26) X0 hx rfl (hb hby d10_24) rfl ?_
  obtain ⟨c13, B13, q13, s13, u13, H13, G13⟩ := id A_a1
  have i13 := inb_of s13 (j := (2 : Int32)) (by decide)
  refine own_by (X0.baloadBytes hx (j := (2 : Int32)) (v := (.int b2)) (by rw [e0]; exact B13.1) (State.isArrayOf_alike hZ.alike B13.2.1) B13.2.2 i13 (H13.at i13 rfl) (g := (mkF m 26 #[.val (.ref a1), .val (.int v11), .val (.ref a1), .val (.int (3 : Int32)), .val (.int (2 : Int32)), .val (.int b1)] [(.int (2 : Int32)), (.ref a1)])) rfl rfl (hb hby d10_26)) ?_
  show own_Go p e below (Q13 Z a1 kc b0 b1 b2 h0 n0) (own_Fr s ({ frames := 0, cells := 0, slots := 0, locals := 0 } : Room).cells ({ frames := 0, cells := 0, slots := 0, locals := 0 } : Room).slots) (s₁.setTop (mkF m 27 #[.val (.ref a1), .val (.int v11), .val (.ref a1), .val (.int (3 : Int32)), .val (.int (2 : Int32)), .val (.int b1)] [(.int b2)]))
  refine own_istore (pc' := 29) X0 hx #[.val (.ref a1), .val (.int v11), .val (.ref a1), .val (.int (3 : Int32)), .val (.int (2 : Int32)), .val (.int b2)] rfl (hb hby d10_27) rfl ?_
  refine own_iloadN (pc' := 30) X0 hx rfl (hb hby d10_29) rfl ?_
  refine own_bipush (pc' := 32) X0 hx (8 : Int32) (by decide) (hb hby d10_30) rfl ?_
  obtain ⟨v14, hv14⟩ : ∃ z, v11 <<< ((8 : Int32) &&& 31) = z := ⟨_, rfl⟩
  have f15 : (v14.toInt - v11.toInt * 256) % 4294967296 = 0 := by rw [← hv14]; exact c_ishl v11 (8 : Int32) 8 (by decide)
  have rv14 := rng32 v14
  replace f15 : v14.toInt = v11.toInt * 256 := by omega
  refine own_ishl (pc' := 33) X0 hx (z := v14) hv14 (hb hby d10_32) rfl ?_
  refine own_iload (pc' := 35) X0 hx rfl (hb hby d10_33) rfl ?_
  refine own_sipush (pc' := 38) X0 hx (255 : Int32) (by decide) (hb hby d10_35) rfl ?_
  obtain ⟨v16, hv16⟩ : ∃ z, b2 &&& (255 : Int32) = z := ⟨_, rfl⟩
  have f17 : v16.toInt = b2.toInt % 256 := by rw [← hv16]; exact c_mask b2 (255 : Int32) 8 (by decide) (by decide)
  refine own_iand (pc' := 39) X0 hx (z := v16) hv16 (hb hby d10_38) rfl ?_
  obtain ⟨v18, hv18⟩ : ∃ z, v14 ||| v16 = z := ⟨_, rfl⟩
  have f19 : (v18.toInt - (v14.toInt + v16.toInt)) % 4294967296 = 0 := by rw [← hv18]; exact c_or v14 v16 8 (by decide) 256 (by decide) (by omega) (by omega) (by omega)
  have rv18 := rng32 v18
  replace f19 : v18.toInt = v14.toInt + v16.toInt := by omega
  refine own_ior (pc' := 40) X0 hx (z := v18) hv18 (hb hby d10_39) rfl ?_
  refine own_istoreN (pc' := 41) X0 hx #[.val (.ref a1), .val (.int v18), .val (.ref a1), .val (.int (3 : Int32)), .val (.int (2 : Int32)), .val (.int b2)] rfl (hb hby d10_40) rfl ?_
  refine own_iinc (pc' := 44) X0 hx #[.val (.ref a1), .val (.int v18), .val (.ref a1), .val (.int (3 : Int32)), .val (.int (3 : Int32)), .val (.int b2)] rfl (by decide) rfl (hb hby d10_41) rfl ?_
  refine own_goto (pc' := 17) X0 hx (hb hby d10_44) (by decide) (by decide) ?_
  refine own_iload (pc' := 19) X0 hx rfl (hb hby d10_17) rfl ?_
  refine own_iloadN (pc' := 20) X0 hx rfl (hb hby d10_19) rfl ?_
  refine own_icmpYes (pc' := 47) X0 hx (hb hby d10_20) (by decide) (by decide) (by decide) ?_
  refine own_aloadN (pc' := 48) X0 hx rfl rfl (hb hby d10_47) rfl ?_
  obtain ⟨c20, B20, q20, s20, u20, H20, G20⟩ := id A_a1
  refine own_by (X0.arraylength hx (by rw [e0]; exact B20.1) (State.isArrayOf_alike hZ.alike B20.2.1) (g := (mkF m 48 #[.val (.ref a1), .val (.int v18), .val (.ref a1), .val (.int (3 : Int32)), .val (.int (3 : Int32)), .val (.int b2)] [(.ref a1)])) rfl rfl (hb hby d10_48)) ?_
  rw [len_of s20 u20]
  show own_Go p e below (Q13 Z a1 kc b0 b1 b2 h0 n0) (own_Fr s ({ frames := 0, cells := 0, slots := 0, locals := 0 } : Room).cells ({ frames := 0, cells := 0, slots := 0, locals := 0 } : Room).slots) (s₁.setTop (mkF m 49 #[.val (.ref a1), .val (.int v18), .val (.ref a1), .val (.int (3 : Int32)), .val (.int (3 : Int32)), .val (.int b2)] [(.int (3 : Int32))]))
  refine own_iconst (pc' := 50) X0 hx (1 : Int32) (by decide) (hb hby d10_49) rfl ?_
  refine own_icmpNo (pc' := 53) X0 hx (by decide) (hb hby d10_50) rfl ?_
  refine own_iconst (pc' := 54) X0 hx (1 : Int32) (by decide) (hb hby d10_53) rfl ?_
  refine own_goto (pc' := 58) X0 hx (hb hby d10_54) (by decide) (by decide) ?_
  refine own_istoreN (pc' := 59) X0 hx #[.val (.ref a1), .val (.int v18), .val (.int (1 : Int32)), .val (.int (3 : Int32)), .val (.int (3 : Int32)), .val (.int b2)] rfl (hb hby d10_58) rfl ?_
  refine own_iloadN (pc' := 60) X0 hx rfl (hb hby d10_59) rfl ?_
  by_cases b21 : v18.toInt = 0
  · refine own_ifNo (pc' := 63) X0 hx (own_z (own_no_ne rfl (by decide) b21)) (hb hby d10_60) rfl ?_
    refine own_iloadN (pc' := 64) X0 hx rfl (hb hby d10_63) rfl ?_
    refine own_ifNo (pc' := 67) X0 hx (by decide) (hb hby d10_64) rfl ?_
    refine own_ldcInt (pc' := 69) X0 hx hZ hown (hw _ (List.mem_of_getElem? (i := 6) rfl)) (hb hby d10_67) rfl ?_
    refine own_goto (pc' := 79) X0 hx (hb hby d10_69) (by decide) (by decide) ?_
    refine own_ret X0 hx Bd.returns Bd.notSynchronized (Or.inl ⟨rfl, by simp, _, rfl⟩) (hb hby d10_79) rfl (by decide) (by decide) ?_
    show Q13 Z a1 kc b0 b1 b2 h0 n0 _ s₁.heap _
    rw [e0]
    have kc0 : ((65536 : Int32)).toInt = 65536 := by decide
    exact ⟨(65536 : Int32), rfl, by omega, N0, rfl⟩
  · refine own_ifYes (pc' := 78) X0 hx (hb hby d10_60) (own_z (own_yes_ne rfl (by decide) b21)) (by decide) (by decide) ?_
    refine own_iloadN (pc' := 79) X0 hx rfl (hb hby d10_78) rfl ?_
    refine own_ret X0 hx Bd.returns Bd.notSynchronized (Or.inl ⟨rfl, by simp, _, rfl⟩) (hb hby d10_79) rfl (by decide) (by decide) ?_
    show Q13 Z a1 kc b0 b1 b2 h0 n0 _ s₁.heap _
    rw [e0]
    exact ⟨v18, rfl, by omega, N0, rfl⟩
theorem pn_1 : plainName "com/example/handclasp/handclasp/ApduNePinLaw" = true := by first | (simp [plainName, overriddenIn]; done) | decide +kernel
theorem ef_0 (m : MethodId) (x0 : Int32) (x1 : Int32) (x2 : Int32) (x3 : Int32) : entryFrame m #[(.int x0), (.int x1), (.int x2), (.int x3)] maxLocals = mkF m 0 #[.val (.int x0), .val (.int x1), .val (.int x2), .val (.int x3), .unset, .unset, .unset, .unset, .unset, .unset] [] := by first | (simp [entryFrame, mkF, argsToLocals, Value.category, maxLocals]; done) | rfl
def Q0 (Z : State) (p1 : Int32) (p2 : Int32) (p3 : Int32) (p4 : Int32) (h0 : Heap) (n0 : Nat) (v : Option Value) (h : Heap) (L : List Loc) : Prop := v = some (.int 1) ∧ Fr n0 L
set_option maxRecDepth 65536 in
set_option maxHeartbeats 40000000 in
theorem rm0 (l : Launch) (Z : State) (a0 : Array Value) (hw : ∀ d ∈ tables_1, d.before a0 Z = true) (ws : List Jvm.Cond) (p1 : Int32) (p2 : Int32) (p3 : Int32) (p4 : Int32) (h0 : Heap) (n0 : Nat) (Z0 : n0 ≤ h0.size) :
    MetFree l x (head1 (Jvm.Cond.code x code maxLocals ret :: ws) room_1) (fun a U => a = #[(.int p1), (.int p2), (.int p3), (.int p4)] ∧ Z.Warmed39 U.vm ∧ U.heap = h0) (fun _ _ _ _ _ => True) (fun _ U o U' => ∃ v L, o = .returned v ∧ Q0 Z p1 p2 p3 p4 h0 n0 v U'.heap L ∧ FrameEnd U o U' L room_1.cells room_1.slots) := by
  refine MetFree.of_bodySF (plainFor_of_name pn_1) hisR ?_
  intro p e s m args below meth c s₁ Bd hml0 hP hK
  obtain ⟨rfl, hZ, hh⟩ := hP
  have hx := Bd.exec
  have hby := Bd.bytes
  have hml : c.maxLocals = 10 := hml0
  have hown : s.vm.findClass "com/example/handclasp/handclasp/ApduNePinLaw" = some m.cls := findClass_of_methodNamed Bd.named
  have hnm := (name_of_methodNamed Bd.named Bd.method).1
  have X0 : Stand p l e room_1 s m #[(.int p1), (.int p2), (.int p3), (.int p4)] below meth c s₁ [] 0 0 := Stand.of_body Bd
  have e0 : s₁.heap = h0 := by rw [← hh, Bd.state]; rfl
  have N0 := Fr.nil n0
  change own_Go p e below (Q0 Z p1 p2 p3 p4 h0 n0) (own_Fr s room_1.cells room_1.slots) (s₁.setTop (entryFrame m #[(.int p1), (.int p2), (.int p3), (.int p4)] maxLocals))
  rw [ef_0 m p1 p2 p3 p4]
  have rp1 := rng32 p1
  have rp2 := rng32 p2
  have rp3 := rng32 p3
  have rp4 := rng32 p4
  refine own_iloadN (pc' := 1) X0 hx rfl (hb hby at_0) rfl ?_
  refine own_iconst (pc' := 2) X0 hx (3 : Int32) (by decide) (hb hby at_1) rfl ?_
  obtain ⟨v1, hv1⟩ : ∃ z, p1 &&& (3 : Int32) = z := ⟨_, rfl⟩
  have f2 : v1.toInt = p1.toInt % 4 := by rw [← hv1]; exact c_mask p1 (3 : Int32) 2 (by decide) (by decide)
  refine own_iand (pc' := 3) X0 hx (z := v1) hv1 (hb hby at_2) rfl ?_
  refine own_istore (pc' := 5) X0 hx #[.val (.int p1), .val (.int p2), .val (.int p3), .val (.int p4), .val (.int v1), .unset, .unset, .unset, .unset, .unset] rfl (hb hby at_3) rfl ?_
  refine own_iloadN (pc' := 6) X0 hx rfl (hb hby at_5) rfl ?_
  refine own_sipush (pc' := 9) X0 hx (255 : Int32) (by decide) (hb hby at_6) rfl ?_
  obtain ⟨v3, hv3⟩ : ∃ z, p2 &&& (255 : Int32) = z := ⟨_, rfl⟩
  have f4 : v3.toInt = p2.toInt % 256 := by rw [← hv3]; exact c_mask p2 (255 : Int32) 8 (by decide) (by decide)
  refine own_iand (pc' := 10) X0 hx (z := v3) hv3 (hb hby at_9) rfl ?_
  refine own_istore (pc' := 12) X0 hx #[.val (.int p1), .val (.int p2), .val (.int p3), .val (.int p4), .val (.int v1), .val (.int v3), .unset, .unset, .unset, .unset] rfl (hb hby at_10) rfl ?_
  refine own_iloadN (pc' := 13) X0 hx rfl (hb hby at_12) rfl ?_
  refine own_sipush (pc' := 16) X0 hx (255 : Int32) (by decide) (hb hby at_13) rfl ?_
  obtain ⟨v5, hv5⟩ : ∃ z, p3 &&& (255 : Int32) = z := ⟨_, rfl⟩
  have f6 : v5.toInt = p3.toInt % 256 := by rw [← hv5]; exact c_mask p3 (255 : Int32) 8 (by decide) (by decide)
  refine own_iand (pc' := 17) X0 hx (z := v5) hv5 (hb hby at_16) rfl ?_
  refine own_istore (pc' := 19) X0 hx #[.val (.int p1), .val (.int p2), .val (.int p3), .val (.int p4), .val (.int v1), .val (.int v3), .val (.int v5), .unset, .unset, .unset] rfl (hb hby at_17) rfl ?_
  refine own_iloadN (pc' := 20) X0 hx rfl (hb hby at_19) rfl ?_
  refine own_sipush (pc' := 23) X0 hx (255 : Int32) (by decide) (hb hby at_20) rfl ?_
  obtain ⟨v7, hv7⟩ : ∃ z, p4 &&& (255 : Int32) = z := ⟨_, rfl⟩
  have f8 : v7.toInt = p4.toInt % 256 := by rw [← hv7]; exact c_mask p4 (255 : Int32) 8 (by decide) (by decide)
  refine own_iand (pc' := 24) X0 hx (z := v7) hv7 (hb hby at_23) rfl ?_
  refine own_istore (pc' := 26) X0 hx #[.val (.int p1), .val (.int p2), .val (.int p3), .val (.int p4), .val (.int v1), .val (.int v3), .val (.int v5), .val (.int v7), .unset, .unset] rfl (hb hby at_24) rfl ?_
  refine own_iload (pc' := 28) X0 hx rfl (hb hby at_26) rfl ?_
  by_cases b9 : v1.toInt = 0
  · refine own_ifNo (pc' := 31) X0 hx (own_z (own_no_ne rfl (by decide) b9)) (hb hby at_28) rfl ?_
    refine own_iconst (pc' := 32) X0 hx (0 : Int32) (by decide) (hb hby at_31) rfl ?_
    obtain ⟨T10, h10, cA10, X10, e10, E10, Ar10, st10⟩ := newP X0 hx hZ (hw _ (List.mem_of_getElem? (i := 0) rfl)) e0 (g := (mkF m 32 #[.val (.int p1), .val (.int p2), .val (.int p3), .val (.int p4), .val (.int v1), .val (.int v3), .val (.int v5), .val (.int v7), .unset, .unset] [(.int (0 : Int32))])) rfl (hb hby at_32) (n := (0 : Int32)) rfl (by decide) (cap := 0) (by decide) (by decide) (by decide) (by decide)
    obtain ⟨a10, ga10⟩ : ∃ z, z = h0.size := ⟨_, rfl⟩
    rw [← ga10] at Ar10 st10
    have fr10 : n0 ≤ a10 := Nat.le_trans Z0 (Nat.le_of_eq ga10.symm)
    have Z11 : n0 ≤ h10.size := Nat.le_trans Z0 E10.1
    have A10 : Arv Z h10 a10 cA10 .byte (0 : Int32) [] (.int (0 : Int32)) := (Arv.new Ar10 (by decide))
    refine own_by st10 ?_
    show own_Go p e below (Q0 Z p1 p2 p3 p4 h0 n0) (own_Fr s room_1.cells room_1.slots) (T10.setTop (mkF m 34 #[.val (.int p1), .val (.int p2), .val (.int p3), .val (.int p4), .val (.int v1), .val (.int v3), .val (.int v5), .val (.int v7), .unset, .unset] [(.ref a10)]))
    refine own_astore (pc' := 36) X10 hx #[.val (.int p1), .val (.int p2), .val (.int p3), .val (.int p4), .val (.int v1), .val (.int v3), .val (.int v5), .val (.int v7), .val (.ref a10), .unset] rfl rfl (hb hby at_34) rfl ?_
    refine own_iconst (pc' := 37) X10 hx (0 : Int32) (by decide) (hb hby at_36) rfl ?_
    refine own_istore (pc' := 39) X10 hx #[.val (.int p1), .val (.int p2), .val (.int p3), .val (.int p4), .val (.int v1), .val (.int v3), .val (.int v5), .val (.int v7), .val (.ref a10), .val (.int (0 : Int32))] rfl (hb hby at_37) rfl ?_
    refine own_goto (pc' := 171) X10 hx (hb hby at_39) (by decide) (by decide) ?_
    refine own_aload (pc' := 173) X10 hx rfl rfl (hb hby at_171) rfl ?_
    obtain ⟨_, _, ⟨T12, L12, k12, n12⟩, -, X12, ⟨Lc12, hQ12, l12, y12, z12⟩, st12⟩ := Jvm.LawKit.callS X10 hx (y := (⟨"com/example/handclasp/handclasp/Apdu", "ne", "([B)I"⟩ : MethodName)) hown (mvT hZ (hw _ (List.mem_of_getElem? (i := 1) rfl))) (mvT hZ (hw _ (List.mem_of_getElem? (i := 2) rfl))) (mvT hZ (hw _ (List.mem_of_getElem? (i := 3) rfl))) (mvT hZ (hw _ (List.mem_of_getElem? (i := 4) rfl))) (by decide) (backOf (W := 0) (rm10 l Z a0 hw [] a10 cA10 h10 n0 Z11 A10) hZ (hw _ (List.mem_of_getElem? (i := 4) rfl)) (hw _ (List.mem_of_getElem? (i := 3) rfl)) (by decide) (by decide)) (g := (mkF m 173 #[.val (.int p1), .val (.int p2), .val (.int p3), .val (.int p4), .val (.int v1), .val (.int v3), .val (.int v5), .val (.int v7), .val (.ref a10), .val (.int (0 : Int32))] [(.ref a10)])) rfl (by rw [hml]; rfl) (argsL := [(.ref a10)]) (rest := []) (lenOf pd_0 rfl) rfl (by show 2 * 0 + _ ≤ _; exact Nat.le_of_eq rfl) (hb hby at_173) (fun _ _ => ⟨rfl, e10, (by decide : 1 + 0 ≤ _), (by decide : 0 + 0 ≤ _)⟩)
    dsimp only [Pt.U, Pt.locs, Pt.cells, Pt.slots] at X12 l12 y12 z12 st12 hQ12
    subst l12 y12 z12
    obtain ⟨o12, rfl, p12, N12, e12⟩ := hQ12
    have ro12 := rng32 o12
    have N12a := Fr.app N0 N12
    refine own_by st12 ?_
    show own_Go p e below (Q0 Z p1 p2 p3 p4 h0 n0) (own_Fr s room_1.cells room_1.slots) (T12.setTop (mkF m 176 #[.val (.int p1), .val (.int p2), .val (.int p3), .val (.int p4), .val (.int v1), .val (.int v3), .val (.int v5), .val (.int v7), .val (.ref a10), .val (.int (0 : Int32))] [(.int o12)]))
    refine own_iload (pc' := 178) X12 hx rfl (hb hby at_176) rfl ?_
    have b13 : o12.toInt = 0 := by omega
    refine own_icmpNo (pc' := 181) X12 hx (own_no_ne rfl (by decide) b13) (hb hby at_178) rfl ?_
    refine own_iconst (pc' := 182) X12 hx (1 : Int32) (by decide) (hb hby at_181) rfl ?_
    refine own_goto (pc' := 186) X12 hx (hb hby at_182) (by decide) (by decide) ?_
    refine own_ret X12 hx Bd.returns Bd.notSynchronized (Or.inl ⟨rfl, by simp, _, rfl⟩) (hb hby at_186) rfl (by decide) (by decide) ?_
    show Q0 Z p1 p2 p3 p4 h0 n0 _ T12.heap _
    rw [e12]
    exact ⟨rfl, N12a⟩
  · refine own_ifYes (pc' := 42) X0 hx (hb hby at_28) (own_z (own_yes_ne rfl (by decide) b9)) (by decide) (by decide) ?_
    refine own_iload (pc' := 44) X0 hx rfl (hb hby at_42) rfl ?_
    refine own_iconst (pc' := 45) X0 hx (1 : Int32) (by decide) (hb hby at_44) rfl ?_
    by_cases b14 : v1.toInt = 1
    · refine own_icmpNo (pc' := 48) X0 hx (own_no_ne rfl (by decide) b14) (hb hby at_45) rfl ?_
      refine own_iconst (pc' := 49) X0 hx (1 : Int32) (by decide) (hb hby at_48) rfl ?_
      obtain ⟨T15, h15, cA15, X15, e15, E15, Ar15, st15⟩ := newP X0 hx hZ (hw _ (List.mem_of_getElem? (i := 0) rfl)) e0 (g := (mkF m 49 #[.val (.int p1), .val (.int p2), .val (.int p3), .val (.int p4), .val (.int v1), .val (.int v3), .val (.int v5), .val (.int v7), .unset, .unset] [(.int (1 : Int32))])) rfl (hb hby at_49) (n := (1 : Int32)) rfl (by decide) (cap := 1) (by decide) (by decide) (by decide) (by decide)
      obtain ⟨a15, ga15⟩ : ∃ z, z = h0.size := ⟨_, rfl⟩
      rw [← ga15] at Ar15 st15
      have fr15 : n0 ≤ a15 := Nat.le_trans Z0 (Nat.le_of_eq ga15.symm)
      have Z16 : n0 ≤ h15.size := Nat.le_trans Z0 E15.1
      have A15 : Arv Z h15 a15 cA15 .byte (1 : Int32) [(.int (0 : Int32))] (.int (0 : Int32)) := (Arv.new Ar15 (by decide)).pad (fun i => pad_rep [] (.int (0 : Int32)) 1 i)
      refine own_by st15 ?_
      show own_Go p e below (Q0 Z p1 p2 p3 p4 h0 n0) (own_Fr s room_1.cells room_1.slots) (T15.setTop (mkF m 51 #[.val (.int p1), .val (.int p2), .val (.int p3), .val (.int p4), .val (.int v1), .val (.int v3), .val (.int v5), .val (.int v7), .unset, .unset] [(.ref a15)]))
      refine own_dup (pc' := 52) X15 hx rfl (hb hby at_51) rfl ?_
      refine own_iconst (pc' := 53) X15 hx (0 : Int32) (by decide) (hb hby at_52) rfl ?_
      refine own_iloadN (pc' := 54) X15 hx rfl (hb hby at_53) rfl ?_
      obtain ⟨v17, hv17⟩ : ∃ z, p2.toInt8.toInt32 = z := ⟨_, rfl⟩
      have f18 : (v17.toInt - p2.toInt) % 256 = 0 ∧ -128 ≤ v17.toInt ∧ v17.toInt < 128 := by rw [← hv17]; exact c_i2b p2
      refine own_i2b (pc' := 55) X15 hx (z := v17) hv17 (hb hby at_54) rfl ?_
      obtain ⟨c19, B19, q19, s19, u19, H19, G19⟩ := id A15
      obtain ⟨T19, h19, X19, e19, W19, st19⟩ := stB X15 hx hZ e15 B19 (j := (0 : Int32)) (x := v17) (inb_of s19 (by decide)) (g := (mkF m 55 #[.val (.int p1), .val (.int p2), .val (.int p3), .val (.int p4), .val (.int v1), .val (.int v3), .val (.int v5), .val (.int v7), .unset, .unset] [(.int v17), (.int (0 : Int32)), (.ref a15), (.ref a15)])) rfl rfl (hb hby at_55)
      have m19 : nar .byte v17 = v17 := own_nb (by omega)
      rw [m19] at W19
      have A19 : Arv Z h19 a15 cA15 .byte (1 : Int32) [(.int v17)] (.int (0 : Int32)) := Arv.set B19 q19 s19 u19 H19 G19 (own_fb (by omega)) W19 0 (by decide) (by simp)
      have Z20 : n0 ≤ h19.size := Nat.le_trans Z16 (Nat.le_of_eq W19.size.symm)
      have N21 := Fr.snoc X19 N0 fr15
      refine own_by st19 ?_
      show own_Go p e below (Q0 Z p1 p2 p3 p4 h0 n0) (own_Fr s room_1.cells room_1.slots) (T19.setTop (mkF m 56 #[.val (.int p1), .val (.int p2), .val (.int p3), .val (.int p4), .val (.int v1), .val (.int v3), .val (.int v5), .val (.int v7), .unset, .unset] [(.ref a15)]))
      refine own_astore (pc' := 58) X19 hx #[.val (.int p1), .val (.int p2), .val (.int p3), .val (.int p4), .val (.int v1), .val (.int v3), .val (.int v5), .val (.int v7), .val (.ref a15), .unset] rfl rfl (hb hby at_56) rfl ?_
      refine own_iload (pc' := 60) X19 hx rfl (hb hby at_58) rfl ?_
      by_cases b22 : v3.toInt = 0
      · refine own_ifNo (pc' := 63) X19 hx (own_z (own_no_ne rfl (by decide) b22)) (hb hby at_60) rfl ?_
        refine own_sipush (pc' := 66) X19 hx (256 : Int32) (by decide) (hb hby at_63) rfl ?_
        refine own_goto (pc' := 71) X19 hx (hb hby at_66) (by decide) (by decide) ?_
        refine own_istore (pc' := 73) X19 hx #[.val (.int p1), .val (.int p2), .val (.int p3), .val (.int p4), .val (.int v1), .val (.int v3), .val (.int v5), .val (.int v7), .val (.ref a15), .val (.int (256 : Int32))] rfl (hb hby at_71) rfl ?_
        refine own_goto (pc' := 171) X19 hx (hb hby at_73) (by decide) (by decide) ?_
        refine own_aload (pc' := 173) X19 hx rfl rfl (hb hby at_171) rfl ?_
        obtain ⟨_, _, ⟨T23, L23, k23, n23⟩, -, X23, ⟨Lc23, hQ23, l23, y23, z23⟩, st23⟩ := Jvm.LawKit.callS X19 hx (y := (⟨"com/example/handclasp/handclasp/Apdu", "ne", "([B)I"⟩ : MethodName)) hown (mvT hZ (hw _ (List.mem_of_getElem? (i := 1) rfl))) (mvT hZ (hw _ (List.mem_of_getElem? (i := 2) rfl))) (mvT hZ (hw _ (List.mem_of_getElem? (i := 3) rfl))) (mvT hZ (hw _ (List.mem_of_getElem? (i := 4) rfl))) (by decide) (backOf (W := 0) (rm11 l Z a0 hw [] a15 cA15 v17 h19 n0 Z20 A19 (by omega)) hZ (hw _ (List.mem_of_getElem? (i := 4) rfl)) (hw _ (List.mem_of_getElem? (i := 3) rfl)) (by decide) (by decide)) (g := (mkF m 173 #[.val (.int p1), .val (.int p2), .val (.int p3), .val (.int p4), .val (.int v1), .val (.int v3), .val (.int v5), .val (.int v7), .val (.ref a15), .val (.int (256 : Int32))] [(.ref a15)])) rfl (by rw [hml]; rfl) (argsL := [(.ref a15)]) (rest := []) (lenOf pd_0 rfl) rfl (by show 2 * 0 + _ ≤ _; exact Nat.le_of_eq rfl) (hb hby at_173) (fun _ _ => ⟨rfl, e19, (by decide : 1 + 0 ≤ _), (by decide : 1 + 0 ≤ _)⟩)
        dsimp only [Pt.U, Pt.locs, Pt.cells, Pt.slots] at X23 l23 y23 z23 st23 hQ23
        subst l23 y23 z23
        obtain ⟨o23, rfl, p23, N23, e23⟩ := hQ23
        have ro23 := rng32 o23
        have N23a := Fr.app N21 N23
        refine own_by st23 ?_
        show own_Go p e below (Q0 Z p1 p2 p3 p4 h0 n0) (own_Fr s room_1.cells room_1.slots) (T23.setTop (mkF m 176 #[.val (.int p1), .val (.int p2), .val (.int p3), .val (.int p4), .val (.int v1), .val (.int v3), .val (.int v5), .val (.int v7), .val (.ref a15), .val (.int (256 : Int32))] [(.int o23)]))
        refine own_iload (pc' := 178) X23 hx rfl (hb hby at_176) rfl ?_
        have b24 : o23.toInt = 256 := by omega
        refine own_icmpNo (pc' := 181) X23 hx (own_no_ne rfl (by decide) b24) (hb hby at_178) rfl ?_
        refine own_iconst (pc' := 182) X23 hx (1 : Int32) (by decide) (hb hby at_181) rfl ?_
        refine own_goto (pc' := 186) X23 hx (hb hby at_182) (by decide) (by decide) ?_
        refine own_ret X23 hx Bd.returns Bd.notSynchronized (Or.inl ⟨rfl, by simp, _, rfl⟩) (hb hby at_186) rfl (by decide) (by decide) ?_
        show Q0 Z p1 p2 p3 p4 h0 n0 _ T23.heap _
        rw [e23]
        exact ⟨rfl, N23a⟩
      · refine own_ifYes (pc' := 69) X19 hx (hb hby at_60) (own_z (own_yes_ne rfl (by decide) b22)) (by decide) (by decide) ?_
        refine own_iload (pc' := 71) X19 hx rfl (hb hby at_69) rfl ?_
        refine own_istore (pc' := 73) X19 hx #[.val (.int p1), .val (.int p2), .val (.int p3), .val (.int p4), .val (.int v1), .val (.int v3), .val (.int v5), .val (.int v7), .val (.ref a15), .val (.int v3)] rfl (hb hby at_71) rfl ?_
        refine own_goto (pc' := 171) X19 hx (hb hby at_73) (by decide) (by decide) ?_
        refine own_aload (pc' := 173) X19 hx rfl rfl (hb hby at_171) rfl ?_
        obtain ⟨_, _, ⟨T25, L25, k25, n25⟩, -, X25, ⟨Lc25, hQ25, l25, y25, z25⟩, st25⟩ := Jvm.LawKit.callS X19 hx (y := (⟨"com/example/handclasp/handclasp/Apdu", "ne", "([B)I"⟩ : MethodName)) hown (mvT hZ (hw _ (List.mem_of_getElem? (i := 1) rfl))) (mvT hZ (hw _ (List.mem_of_getElem? (i := 2) rfl))) (mvT hZ (hw _ (List.mem_of_getElem? (i := 3) rfl))) (mvT hZ (hw _ (List.mem_of_getElem? (i := 4) rfl))) (by decide) (backOf (W := 0) (rm11 l Z a0 hw [] a15 cA15 v17 h19 n0 Z20 A19 (by omega)) hZ (hw _ (List.mem_of_getElem? (i := 4) rfl)) (hw _ (List.mem_of_getElem? (i := 3) rfl)) (by decide) (by decide)) (g := (mkF m 173 #[.val (.int p1), .val (.int p2), .val (.int p3), .val (.int p4), .val (.int v1), .val (.int v3), .val (.int v5), .val (.int v7), .val (.ref a15), .val (.int v3)] [(.ref a15)])) rfl (by rw [hml]; rfl) (argsL := [(.ref a15)]) (rest := []) (lenOf pd_0 rfl) rfl (by show 2 * 0 + _ ≤ _; exact Nat.le_of_eq rfl) (hb hby at_173) (fun _ _ => ⟨rfl, e19, (by decide : 1 + 0 ≤ _), (by decide : 1 + 0 ≤ _)⟩)
        dsimp only [Pt.U, Pt.locs, Pt.cells, Pt.slots] at X25 l25 y25 z25 st25 hQ25
        subst l25 y25 z25
        obtain ⟨o25, rfl, p25, N25, e25⟩ := hQ25
        have ro25 := rng32 o25
        have N25a := Fr.app N21 N25
        refine own_by st25 ?_
        show own_Go p e below (Q0 Z p1 p2 p3 p4 h0 n0) (own_Fr s room_1.cells room_1.slots) (T25.setTop (mkF m 176 #[.val (.int p1), .val (.int p2), .val (.int p3), .val (.int p4), .val (.int v1), .val (.int v3), .val (.int v5), .val (.int v7), .val (.ref a15), .val (.int v3)] [(.int o25)]))
        refine own_iload (pc' := 178) X25 hx rfl (hb hby at_176) rfl ?_
        have b26 : o25.toInt = v3.toInt := by omega
        refine own_icmpNo (pc' := 181) X25 hx (own_no_ne rfl rfl b26) (hb hby at_178) rfl ?_
        refine own_iconst (pc' := 182) X25 hx (1 : Int32) (by decide) (hb hby at_181) rfl ?_
        refine own_goto (pc' := 186) X25 hx (hb hby at_182) (by decide) (by decide) ?_
        refine own_ret X25 hx Bd.returns Bd.notSynchronized (Or.inl ⟨rfl, by simp, _, rfl⟩) (hb hby at_186) rfl (by decide) (by decide) ?_
        show Q0 Z p1 p2 p3 p4 h0 n0 _ T25.heap _
        rw [e25]
        exact ⟨rfl, N25a⟩
    · refine own_icmpYes (pc' := 76) X0 hx (hb hby at_45) (own_yes_ne rfl (by decide) b14) (by decide) (by decide) ?_
      refine own_iload (pc' := 78) X0 hx rfl (hb hby at_76) rfl ?_
      refine own_iconst (pc' := 79) X0 hx (2 : Int32) (by decide) (hb hby at_78) rfl ?_
      by_cases b27 : v1.toInt = 2
      · refine own_icmpNo (pc' := 82) X0 hx (own_no_ne rfl (by decide) b27) (hb hby at_79) rfl ?_
        refine own_iconst (pc' := 83) X0 hx (2 : Int32) (by decide) (hb hby at_82) rfl ?_
        obtain ⟨T28, h28, cA28, X28, e28, E28, Ar28, st28⟩ := newP X0 hx hZ (hw _ (List.mem_of_getElem? (i := 0) rfl)) e0 (g := (mkF m 83 #[.val (.int p1), .val (.int p2), .val (.int p3), .val (.int p4), .val (.int v1), .val (.int v3), .val (.int v5), .val (.int v7), .unset, .unset] [(.int (2 : Int32))])) rfl (hb hby at_83) (n := (2 : Int32)) rfl (by decide) (cap := 2) (by decide) (by decide) (by decide) (by decide)
        obtain ⟨a28, ga28⟩ : ∃ z, z = h0.size := ⟨_, rfl⟩
        rw [← ga28] at Ar28 st28
        have fr28 : n0 ≤ a28 := Nat.le_trans Z0 (Nat.le_of_eq ga28.symm)
        have Z29 : n0 ≤ h28.size := Nat.le_trans Z0 E28.1
        have A28 : Arv Z h28 a28 cA28 .byte (2 : Int32) [(.int (0 : Int32)), (.int (0 : Int32))] (.int (0 : Int32)) := (Arv.new Ar28 (by decide)).pad (fun i => pad_rep [] (.int (0 : Int32)) 2 i)
        refine own_by st28 ?_
        show own_Go p e below (Q0 Z p1 p2 p3 p4 h0 n0) (own_Fr s room_1.cells room_1.slots) (T28.setTop (mkF m 85 #[.val (.int p1), .val (.int p2), .val (.int p3), .val (.int p4), .val (.int v1), .val (.int v3), .val (.int v5), .val (.int v7), .unset, .unset] [(.ref a28)]))
        refine own_dup (pc' := 86) X28 hx rfl (hb hby at_85) rfl ?_
        refine own_iconst (pc' := 87) X28 hx (0 : Int32) (by decide) (hb hby at_86) rfl ?_
        refine own_iloadN (pc' := 88) X28 hx rfl (hb hby at_87) rfl ?_
        obtain ⟨v30, hv30⟩ : ∃ z, p2.toInt8.toInt32 = z := ⟨_, rfl⟩
        have f31 : (v30.toInt - p2.toInt) % 256 = 0 ∧ -128 ≤ v30.toInt ∧ v30.toInt < 128 := by rw [← hv30]; exact c_i2b p2
        refine own_i2b (pc' := 89) X28 hx (z := v30) hv30 (hb hby at_88) rfl ?_
        obtain ⟨c32, B32, q32, s32, u32, H32, G32⟩ := id A28
        obtain ⟨T32, h32, X32, e32, W32, st32⟩ := stB X28 hx hZ e28 B32 (j := (0 : Int32)) (x := v30) (inb_of s32 (by decide)) (g := (mkF m 89 #[.val (.int p1), .val (.int p2), .val (.int p3), .val (.int p4), .val (.int v1), .val (.int v3), .val (.int v5), .val (.int v7), .unset, .unset] [(.int v30), (.int (0 : Int32)), (.ref a28), (.ref a28)])) rfl rfl (hb hby at_89)
        have m32 : nar .byte v30 = v30 := own_nb (by omega)
        rw [m32] at W32
        have A32 : Arv Z h32 a28 cA28 .byte (2 : Int32) [(.int v30), (.int (0 : Int32))] (.int (0 : Int32)) := Arv.set B32 q32 s32 u32 H32 G32 (own_fb (by omega)) W32 0 (by decide) (by simp)
        have Z33 : n0 ≤ h32.size := Nat.le_trans Z29 (Nat.le_of_eq W32.size.symm)
        have N34 := Fr.snoc X32 N0 fr28
        refine own_by st32 ?_
        show own_Go p e below (Q0 Z p1 p2 p3 p4 h0 n0) (own_Fr s room_1.cells room_1.slots) (T32.setTop (mkF m 90 #[.val (.int p1), .val (.int p2), .val (.int p3), .val (.int p4), .val (.int v1), .val (.int v3), .val (.int v5), .val (.int v7), .unset, .unset] [(.ref a28)]))
        refine own_dup (pc' := 91) X32 hx rfl (hb hby at_90) rfl ?_
        refine own_iconst (pc' := 92) X32 hx (1 : Int32) (by decide) (hb hby at_91) rfl ?_
        refine own_iloadN (pc' := 93) X32 hx rfl (hb hby at_92) rfl ?_
        obtain ⟨v35, hv35⟩ : ∃ z, p3.toInt8.toInt32 = z := ⟨_, rfl⟩
        have f36 : (v35.toInt - p3.toInt) % 256 = 0 ∧ -128 ≤ v35.toInt ∧ v35.toInt < 128 := by rw [← hv35]; exact c_i2b p3
        refine own_i2b (pc' := 94) X32 hx (z := v35) hv35 (hb hby at_93) rfl ?_
        obtain ⟨c37, B37, q37, s37, u37, H37, G37⟩ := id A32
        obtain ⟨T37, h37, X37, e37, W37, st37⟩ := stB X32 hx hZ e32 B37 (j := (1 : Int32)) (x := v35) (inb_of s37 (by decide)) (g := (mkF m 94 #[.val (.int p1), .val (.int p2), .val (.int p3), .val (.int p4), .val (.int v1), .val (.int v3), .val (.int v5), .val (.int v7), .unset, .unset] [(.int v35), (.int (1 : Int32)), (.ref a28), (.ref a28)])) rfl rfl (hb hby at_94)
        have m37 : nar .byte v35 = v35 := own_nb (by omega)
        rw [m37] at W37
        have A37 : Arv Z h37 a28 cA28 .byte (2 : Int32) [(.int v30), (.int v35)] (.int (0 : Int32)) := Arv.set B37 q37 s37 u37 H37 G37 (own_fb (by omega)) W37 1 (by decide) (by simp)
        have Z38 : n0 ≤ h37.size := Nat.le_trans Z33 (Nat.le_of_eq W37.size.symm)
        have N39 := Fr.snoc X37 N34 fr28
        refine own_by st37 ?_
        show own_Go p e below (Q0 Z p1 p2 p3 p4 h0 n0) (own_Fr s room_1.cells room_1.slots) (T37.setTop (mkF m 95 #[.val (.int p1), .val (.int p2), .val (.int p3), .val (.int p4), .val (.int v1), .val (.int v3), .val (.int v5), .val (.int v7), .unset, .unset] [(.ref a28)]))
        refine own_astore (pc' := 97) X37 hx #[.val (.int p1), .val (.int p2), .val (.int p3), .val (.int p4), .val (.int v1), .val (.int v3), .val (.int v5), .val (.int v7), .val (.ref a28), .unset] rfl rfl (hb hby at_95) rfl ?_
        refine own_iload (pc' := 99) X37 hx rfl (hb hby at_97) rfl ?_
        by_cases b40 : v3.toInt = 0
        · refine own_ifNo (pc' := 102) X37 hx (own_z (own_no_ne rfl (by decide) b40)) (hb hby at_99) rfl ?_
          refine own_iload (pc' := 104) X37 hx rfl (hb hby at_102) rfl ?_
          by_cases b41 : v5.toInt = 0
          · refine own_ifNo (pc' := 107) X37 hx (own_z (own_no_ne rfl (by decide) b41)) (hb hby at_104) rfl ?_
            refine own_ldcInt (pc' := 109) X37 hx hZ hown (hw _ (List.mem_of_getElem? (i := 5) rfl)) (hb hby at_107) rfl ?_
            refine own_goto (pc' := 121) X37 hx (hb hby at_109) (by decide) (by decide) ?_
            refine own_istore (pc' := 123) X37 hx #[.val (.int p1), .val (.int p2), .val (.int p3), .val (.int p4), .val (.int v1), .val (.int v3), .val (.int v5), .val (.int v7), .val (.ref a28), .val (.int (65536 : Int32))] rfl (hb hby at_121) rfl ?_
            refine own_goto (pc' := 171) X37 hx (hb hby at_123) (by decide) (by decide) ?_
            refine own_aload (pc' := 173) X37 hx rfl rfl (hb hby at_171) rfl ?_
            obtain ⟨_, _, ⟨T42, L42, k42, n42⟩, -, X42, ⟨Lc42, hQ42, l42, y42, z42⟩, st42⟩ := Jvm.LawKit.callS X37 hx (y := (⟨"com/example/handclasp/handclasp/Apdu", "ne", "([B)I"⟩ : MethodName)) hown (mvT hZ (hw _ (List.mem_of_getElem? (i := 1) rfl))) (mvT hZ (hw _ (List.mem_of_getElem? (i := 2) rfl))) (mvT hZ (hw _ (List.mem_of_getElem? (i := 3) rfl))) (mvT hZ (hw _ (List.mem_of_getElem? (i := 4) rfl))) (by decide) (backOf (W := 0) (rm12 l Z a0 hw [] a28 cA28 v30 v35 h37 n0 Z38 A37 (by omega) (by omega)) hZ (hw _ (List.mem_of_getElem? (i := 4) rfl)) (hw _ (List.mem_of_getElem? (i := 3) rfl)) (by decide) (by decide)) (g := (mkF m 173 #[.val (.int p1), .val (.int p2), .val (.int p3), .val (.int p4), .val (.int v1), .val (.int v3), .val (.int v5), .val (.int v7), .val (.ref a28), .val (.int (65536 : Int32))] [(.ref a28)])) rfl (by rw [hml]; rfl) (argsL := [(.ref a28)]) (rest := []) (lenOf pd_0 rfl) rfl (by show 2 * 0 + _ ≤ _; exact Nat.le_of_eq rfl) (hb hby at_173) (fun _ _ => ⟨rfl, e37, (by decide : 1 + 0 ≤ _), (by decide : 2 + 0 ≤ _)⟩)
            dsimp only [Pt.U, Pt.locs, Pt.cells, Pt.slots] at X42 l42 y42 z42 st42 hQ42
            subst l42 y42 z42
            obtain ⟨o42, rfl, p42, N42, e42⟩ := hQ42
            have ro42 := rng32 o42
            have N42a := Fr.app N39 N42
            refine own_by st42 ?_
            show own_Go p e below (Q0 Z p1 p2 p3 p4 h0 n0) (own_Fr s room_1.cells room_1.slots) (T42.setTop (mkF m 176 #[.val (.int p1), .val (.int p2), .val (.int p3), .val (.int p4), .val (.int v1), .val (.int v3), .val (.int v5), .val (.int v7), .val (.ref a28), .val (.int (65536 : Int32))] [(.int o42)]))
            refine own_iload (pc' := 178) X42 hx rfl (hb hby at_176) rfl ?_
            have b43 : o42.toInt = 65536 := by omega
            refine own_icmpNo (pc' := 181) X42 hx (own_no_ne rfl (by decide) b43) (hb hby at_178) rfl ?_
            refine own_iconst (pc' := 182) X42 hx (1 : Int32) (by decide) (hb hby at_181) rfl ?_
            refine own_goto (pc' := 186) X42 hx (hb hby at_182) (by decide) (by decide) ?_
            refine own_ret X42 hx Bd.returns Bd.notSynchronized (Or.inl ⟨rfl, by simp, _, rfl⟩) (hb hby at_186) rfl (by decide) (by decide) ?_
            show Q0 Z p1 p2 p3 p4 h0 n0 _ T42.heap _
            rw [e42]
            exact ⟨rfl, N42a⟩
          · refine own_ifYes (pc' := 112) X37 hx (hb hby at_104) (own_z (own_yes_ne rfl (by decide) b41)) (by decide) (by decide) ?_
            refine own_iload (pc' := 114) X37 hx rfl (hb hby at_112) rfl ?_
            refine own_sipush (pc' := 117) X37 hx (256 : Int32) (by decide) (hb hby at_114) rfl ?_
            obtain ⟨v44, hv44⟩ : ∃ z, v3 * (256 : Int32) = z := ⟨_, rfl⟩
            have f45 : (v44.toInt - (v3.toInt * 256)) % 4294967296 = 0 := by rw [← hv44]; exact c_imul v3 (256 : Int32)
            have rv44 := rng32 v44
            replace f45 : v44.toInt = v3.toInt * 256 := by omega
            refine own_imul (pc' := 118) X37 hx (z := v44) hv44 (hb hby at_117) rfl ?_
            refine own_iload (pc' := 120) X37 hx rfl (hb hby at_118) rfl ?_
            obtain ⟨v46, hv46⟩ : ∃ z, v44 + v5 = z := ⟨_, rfl⟩
            have f47 : (v46.toInt - (v44.toInt + v5.toInt)) % 4294967296 = 0 := by rw [← hv46]; exact c_iadd v44 v5
            have rv46 := rng32 v46
            replace f47 : v46.toInt = v44.toInt + v5.toInt := by omega
            refine own_iadd (pc' := 121) X37 hx (z := v46) hv46 (hb hby at_120) rfl ?_
            refine own_istore (pc' := 123) X37 hx #[.val (.int p1), .val (.int p2), .val (.int p3), .val (.int p4), .val (.int v1), .val (.int v3), .val (.int v5), .val (.int v7), .val (.ref a28), .val (.int v46)] rfl (hb hby at_121) rfl ?_
            refine own_goto (pc' := 171) X37 hx (hb hby at_123) (by decide) (by decide) ?_
            refine own_aload (pc' := 173) X37 hx rfl rfl (hb hby at_171) rfl ?_
            obtain ⟨_, _, ⟨T48, L48, k48, n48⟩, -, X48, ⟨Lc48, hQ48, l48, y48, z48⟩, st48⟩ := Jvm.LawKit.callS X37 hx (y := (⟨"com/example/handclasp/handclasp/Apdu", "ne", "([B)I"⟩ : MethodName)) hown (mvT hZ (hw _ (List.mem_of_getElem? (i := 1) rfl))) (mvT hZ (hw _ (List.mem_of_getElem? (i := 2) rfl))) (mvT hZ (hw _ (List.mem_of_getElem? (i := 3) rfl))) (mvT hZ (hw _ (List.mem_of_getElem? (i := 4) rfl))) (by decide) (backOf (W := 0) (rm12 l Z a0 hw [] a28 cA28 v30 v35 h37 n0 Z38 A37 (by omega) (by omega)) hZ (hw _ (List.mem_of_getElem? (i := 4) rfl)) (hw _ (List.mem_of_getElem? (i := 3) rfl)) (by decide) (by decide)) (g := (mkF m 173 #[.val (.int p1), .val (.int p2), .val (.int p3), .val (.int p4), .val (.int v1), .val (.int v3), .val (.int v5), .val (.int v7), .val (.ref a28), .val (.int v46)] [(.ref a28)])) rfl (by rw [hml]; rfl) (argsL := [(.ref a28)]) (rest := []) (lenOf pd_0 rfl) rfl (by show 2 * 0 + _ ≤ _; exact Nat.le_of_eq rfl) (hb hby at_173) (fun _ _ => ⟨rfl, e37, (by decide : 1 + 0 ≤ _), (by decide : 2 + 0 ≤ _)⟩)
            dsimp only [Pt.U, Pt.locs, Pt.cells, Pt.slots] at X48 l48 y48 z48 st48 hQ48
            subst l48 y48 z48
            obtain ⟨o48, rfl, p48, N48, e48⟩ := hQ48
            have ro48 := rng32 o48
            have N48a := Fr.app N39 N48
            refine own_by st48 ?_
            show own_Go p e below (Q0 Z p1 p2 p3 p4 h0 n0) (own_Fr s room_1.cells room_1.slots) (T48.setTop (mkF m 176 #[.val (.int p1), .val (.int p2), .val (.int p3), .val (.int p4), .val (.int v1), .val (.int v3), .val (.int v5), .val (.int v7), .val (.ref a28), .val (.int v46)] [(.int o48)]))
            refine own_iload (pc' := 178) X48 hx rfl (hb hby at_176) rfl ?_
            have b49 : o48.toInt = v46.toInt := by omega
            refine own_icmpNo (pc' := 181) X48 hx (own_no_ne rfl rfl b49) (hb hby at_178) rfl ?_
            refine own_iconst (pc' := 182) X48 hx (1 : Int32) (by decide) (hb hby at_181) rfl ?_
            refine own_goto (pc' := 186) X48 hx (hb hby at_182) (by decide) (by decide) ?_
            refine own_ret X48 hx Bd.returns Bd.notSynchronized (Or.inl ⟨rfl, by simp, _, rfl⟩) (hb hby at_186) rfl (by decide) (by decide) ?_
            show Q0 Z p1 p2 p3 p4 h0 n0 _ T48.heap _
            rw [e48]
            exact ⟨rfl, N48a⟩
        · refine own_ifYes (pc' := 112) X37 hx (hb hby at_99) (own_z (own_yes_ne rfl (by decide) b40)) (by decide) (by decide) ?_
          refine own_iload (pc' := 114) X37 hx rfl (hb hby at_112) rfl ?_
          refine own_sipush (pc' := 117) X37 hx (256 : Int32) (by decide) (hb hby at_114) rfl ?_
          obtain ⟨v50, hv50⟩ : ∃ z, v3 * (256 : Int32) = z := ⟨_, rfl⟩
          have f51 : (v50.toInt - (v3.toInt * 256)) % 4294967296 = 0 := by rw [← hv50]; exact c_imul v3 (256 : Int32)
          have rv50 := rng32 v50
          replace f51 : v50.toInt = v3.toInt * 256 := by omega
          refine own_imul (pc' := 118) X37 hx (z := v50) hv50 (hb hby at_117) rfl ?_
          refine own_iload (pc' := 120) X37 hx rfl (hb hby at_118) rfl ?_
          obtain ⟨v52, hv52⟩ : ∃ z, v50 + v5 = z := ⟨_, rfl⟩
          have f53 : (v52.toInt - (v50.toInt + v5.toInt)) % 4294967296 = 0 := by rw [← hv52]; exact c_iadd v50 v5
          have rv52 := rng32 v52
          replace f53 : v52.toInt = v50.toInt + v5.toInt := by omega
          refine own_iadd (pc' := 121) X37 hx (z := v52) hv52 (hb hby at_120) rfl ?_
          refine own_istore (pc' := 123) X37 hx #[.val (.int p1), .val (.int p2), .val (.int p3), .val (.int p4), .val (.int v1), .val (.int v3), .val (.int v5), .val (.int v7), .val (.ref a28), .val (.int v52)] rfl (hb hby at_121) rfl ?_
          refine own_goto (pc' := 171) X37 hx (hb hby at_123) (by decide) (by decide) ?_
          refine own_aload (pc' := 173) X37 hx rfl rfl (hb hby at_171) rfl ?_
          obtain ⟨_, _, ⟨T54, L54, k54, n54⟩, -, X54, ⟨Lc54, hQ54, l54, y54, z54⟩, st54⟩ := Jvm.LawKit.callS X37 hx (y := (⟨"com/example/handclasp/handclasp/Apdu", "ne", "([B)I"⟩ : MethodName)) hown (mvT hZ (hw _ (List.mem_of_getElem? (i := 1) rfl))) (mvT hZ (hw _ (List.mem_of_getElem? (i := 2) rfl))) (mvT hZ (hw _ (List.mem_of_getElem? (i := 3) rfl))) (mvT hZ (hw _ (List.mem_of_getElem? (i := 4) rfl))) (by decide) (backOf (W := 0) (rm12 l Z a0 hw [] a28 cA28 v30 v35 h37 n0 Z38 A37 (by omega) (by omega)) hZ (hw _ (List.mem_of_getElem? (i := 4) rfl)) (hw _ (List.mem_of_getElem? (i := 3) rfl)) (by decide) (by decide)) (g := (mkF m 173 #[.val (.int p1), .val (.int p2), .val (.int p3), .val (.int p4), .val (.int v1), .val (.int v3), .val (.int v5), .val (.int v7), .val (.ref a28), .val (.int v52)] [(.ref a28)])) rfl (by rw [hml]; rfl) (argsL := [(.ref a28)]) (rest := []) (lenOf pd_0 rfl) rfl (by show 2 * 0 + _ ≤ _; exact Nat.le_of_eq rfl) (hb hby at_173) (fun _ _ => ⟨rfl, e37, (by decide : 1 + 0 ≤ _), (by decide : 2 + 0 ≤ _)⟩)
          dsimp only [Pt.U, Pt.locs, Pt.cells, Pt.slots] at X54 l54 y54 z54 st54 hQ54
          subst l54 y54 z54
          obtain ⟨o54, rfl, p54, N54, e54⟩ := hQ54
          have ro54 := rng32 o54
          have N54a := Fr.app N39 N54
          refine own_by st54 ?_
          show own_Go p e below (Q0 Z p1 p2 p3 p4 h0 n0) (own_Fr s room_1.cells room_1.slots) (T54.setTop (mkF m 176 #[.val (.int p1), .val (.int p2), .val (.int p3), .val (.int p4), .val (.int v1), .val (.int v3), .val (.int v5), .val (.int v7), .val (.ref a28), .val (.int v52)] [(.int o54)]))
          refine own_iload (pc' := 178) X54 hx rfl (hb hby at_176) rfl ?_
          have b55 : o54.toInt = v52.toInt := by omega
          refine own_icmpNo (pc' := 181) X54 hx (own_no_ne rfl rfl b55) (hb hby at_178) rfl ?_
          refine own_iconst (pc' := 182) X54 hx (1 : Int32) (by decide) (hb hby at_181) rfl ?_
          refine own_goto (pc' := 186) X54 hx (hb hby at_182) (by decide) (by decide) ?_
          refine own_ret X54 hx Bd.returns Bd.notSynchronized (Or.inl ⟨rfl, by simp, _, rfl⟩) (hb hby at_186) rfl (by decide) (by decide) ?_
          show Q0 Z p1 p2 p3 p4 h0 n0 _ T54.heap _
          rw [e54]
          exact ⟨rfl, N54a⟩
      · refine own_icmpYes (pc' := 126) X0 hx (hb hby at_79) (own_yes_ne rfl (by decide) b27) (by decide) (by decide) ?_
        refine own_iconst (pc' := 127) X0 hx (3 : Int32) (by decide) (hb hby at_126) rfl ?_
        obtain ⟨T56, h56, cA56, X56, e56, E56, Ar56, st56⟩ := newP X0 hx hZ (hw _ (List.mem_of_getElem? (i := 0) rfl)) e0 (g := (mkF m 127 #[.val (.int p1), .val (.int p2), .val (.int p3), .val (.int p4), .val (.int v1), .val (.int v3), .val (.int v5), .val (.int v7), .unset, .unset] [(.int (3 : Int32))])) rfl (hb hby at_127) (n := (3 : Int32)) rfl (by decide) (cap := 3) (by decide) (by decide) (by decide) (by decide)
        obtain ⟨a56, ga56⟩ : ∃ z, z = h0.size := ⟨_, rfl⟩
        rw [← ga56] at Ar56 st56
        have fr56 : n0 ≤ a56 := Nat.le_trans Z0 (Nat.le_of_eq ga56.symm)
        have Z57 : n0 ≤ h56.size := Nat.le_trans Z0 E56.1
        have A56 : Arv Z h56 a56 cA56 .byte (3 : Int32) [(.int (0 : Int32)), (.int (0 : Int32)), (.int (0 : Int32))] (.int (0 : Int32)) := (Arv.new Ar56 (by decide)).pad (fun i => pad_rep [] (.int (0 : Int32)) 3 i)
        refine own_by st56 ?_
        show own_Go p e below (Q0 Z p1 p2 p3 p4 h0 n0) (own_Fr s room_1.cells room_1.slots) (T56.setTop (mkF m 129 #[.val (.int p1), .val (.int p2), .val (.int p3), .val (.int p4), .val (.int v1), .val (.int v3), .val (.int v5), .val (.int v7), .unset, .unset] [(.ref a56)]))
        refine own_dup (pc' := 130) X56 hx rfl (hb hby at_129) rfl ?_
        refine own_iconst (pc' := 131) X56 hx (0 : Int32) (by decide) (hb hby at_130) rfl ?_
        refine own_iconst (pc' := 132) X56 hx (0 : Int32) (by decide) (hb hby at_131) rfl ?_
        obtain ⟨c58, B58, q58, s58, u58, H58, G58⟩ := id A56
        obtain ⟨T58, h58, X58, e58, W58, st58⟩ := stB X56 hx hZ e56 B58 (j := (0 : Int32)) (x := (0 : Int32)) (inb_of s58 (by decide)) (g := (mkF m 132 #[.val (.int p1), .val (.int p2), .val (.int p3), .val (.int p4), .val (.int v1), .val (.int v3), .val (.int v5), .val (.int v7), .unset, .unset] [(.int (0 : Int32)), (.int (0 : Int32)), (.ref a56), (.ref a56)])) rfl rfl (hb hby at_132)
        have m58 : nar .byte (0 : Int32) = (0 : Int32) := by decide
        rw [m58] at W58
        have A58 : Arv Z h58 a56 cA56 .byte (3 : Int32) [(.int (0 : Int32)), (.int (0 : Int32)), (.int (0 : Int32))] (.int (0 : Int32)) := Arv.set B58 q58 s58 u58 H58 G58 (by decide) W58 0 (by decide) (by simp)
        have Z59 : n0 ≤ h58.size := Nat.le_trans Z57 (Nat.le_of_eq W58.size.symm)
        have N60 := Fr.snoc X58 N0 fr56
        refine own_by st58 ?_
        show own_Go p e below (Q0 Z p1 p2 p3 p4 h0 n0) (own_Fr s room_1.cells room_1.slots) (T58.setTop (mkF m 133 #[.val (.int p1), .val (.int p2), .val (.int p3), .val (.int p4), .val (.int v1), .val (.int v3), .val (.int v5), .val (.int v7), .unset, .unset] [(.ref a56)]))
        refine own_dup (pc' := 134) X58 hx rfl (hb hby at_133) rfl ?_
        refine own_iconst (pc' := 135) X58 hx (1 : Int32) (by decide) (hb hby at_134) rfl ?_
        refine own_iloadN (pc' := 136) X58 hx rfl (hb hby at_135) rfl ?_
        obtain ⟨v61, hv61⟩ : ∃ z, p3.toInt8.toInt32 = z := ⟨_, rfl⟩
        have f62 : (v61.toInt - p3.toInt) % 256 = 0 ∧ -128 ≤ v61.toInt ∧ v61.toInt < 128 := by rw [← hv61]; exact c_i2b p3
        refine own_i2b (pc' := 137) X58 hx (z := v61) hv61 (hb hby at_136) rfl ?_
        obtain ⟨c63, B63, q63, s63, u63, H63, G63⟩ := id A58
        obtain ⟨T63, h63, X63, e63, W63, st63⟩ := stB X58 hx hZ e58 B63 (j := (1 : Int32)) (x := v61) (inb_of s63 (by decide)) (g := (mkF m 137 #[.val (.int p1), .val (.int p2), .val (.int p3), .val (.int p4), .val (.int v1), .val (.int v3), .val (.int v5), .val (.int v7), .unset, .unset] [(.int v61), (.int (1 : Int32)), (.ref a56), (.ref a56)])) rfl rfl (hb hby at_137)
        have m63 : nar .byte v61 = v61 := own_nb (by omega)
        rw [m63] at W63
        have A63 : Arv Z h63 a56 cA56 .byte (3 : Int32) [(.int (0 : Int32)), (.int v61), (.int (0 : Int32))] (.int (0 : Int32)) := Arv.set B63 q63 s63 u63 H63 G63 (own_fb (by omega)) W63 1 (by decide) (by simp)
        have Z64 : n0 ≤ h63.size := Nat.le_trans Z59 (Nat.le_of_eq W63.size.symm)
        have N65 := Fr.snoc X63 N60 fr56
        refine own_by st63 ?_
        show own_Go p e below (Q0 Z p1 p2 p3 p4 h0 n0) (own_Fr s room_1.cells room_1.slots) (T63.setTop (mkF m 138 #[.val (.int p1), .val (.int p2), .val (.int p3), .val (.int p4), .val (.int v1), .val (.int v3), .val (.int v5), .val (.int v7), .unset, .unset] [(.ref a56)]))
        refine own_dup (pc' := 139) X63 hx rfl (hb hby at_138) rfl ?_
        refine own_iconst (pc' := 140) X63 hx (2 : Int32) (by decide) (hb hby at_139) rfl ?_
        refine own_iloadN (pc' := 141) X63 hx rfl (hb hby at_140) rfl ?_
        obtain ⟨v66, hv66⟩ : ∃ z, p4.toInt8.toInt32 = z := ⟨_, rfl⟩
        have f67 : (v66.toInt - p4.toInt) % 256 = 0 ∧ -128 ≤ v66.toInt ∧ v66.toInt < 128 := by rw [← hv66]; exact c_i2b p4
        refine own_i2b (pc' := 142) X63 hx (z := v66) hv66 (hb hby at_141) rfl ?_
        obtain ⟨c68, B68, q68, s68, u68, H68, G68⟩ := id A63
        obtain ⟨T68, h68, X68, e68, W68, st68⟩ := stB X63 hx hZ e63 B68 (j := (2 : Int32)) (x := v66) (inb_of s68 (by decide)) (g := (mkF m 142 #[.val (.int p1), .val (.int p2), .val (.int p3), .val (.int p4), .val (.int v1), .val (.int v3), .val (.int v5), .val (.int v7), .unset, .unset] [(.int v66), (.int (2 : Int32)), (.ref a56), (.ref a56)])) rfl rfl (hb hby at_142)
        have m68 : nar .byte v66 = v66 := own_nb (by omega)
        rw [m68] at W68
        have A68 : Arv Z h68 a56 cA56 .byte (3 : Int32) [(.int (0 : Int32)), (.int v61), (.int v66)] (.int (0 : Int32)) := Arv.set B68 q68 s68 u68 H68 G68 (own_fb (by omega)) W68 2 (by decide) (by simp)
        have Z69 : n0 ≤ h68.size := Nat.le_trans Z64 (Nat.le_of_eq W68.size.symm)
        have N70 := Fr.snoc X68 N65 fr56
        refine own_by st68 ?_
        show own_Go p e below (Q0 Z p1 p2 p3 p4 h0 n0) (own_Fr s room_1.cells room_1.slots) (T68.setTop (mkF m 143 #[.val (.int p1), .val (.int p2), .val (.int p3), .val (.int p4), .val (.int v1), .val (.int v3), .val (.int v5), .val (.int v7), .unset, .unset] [(.ref a56)]))
        refine own_astore (pc' := 145) X68 hx #[.val (.int p1), .val (.int p2), .val (.int p3), .val (.int p4), .val (.int v1), .val (.int v3), .val (.int v5), .val (.int v7), .val (.ref a56), .unset] rfl rfl (hb hby at_143) rfl ?_
        refine own_iload (pc' := 147) X68 hx rfl (hb hby at_145) rfl ?_
        by_cases b71 : v5.toInt = 0
        · refine own_ifNo (pc' := 150) X68 hx (own_z (own_no_ne rfl (by decide) b71)) (hb hby at_147) rfl ?_
          refine own_iload (pc' := 152) X68 hx rfl (hb hby at_150) rfl ?_
          by_cases b72 : v7.toInt = 0
          · refine own_ifNo (pc' := 155) X68 hx (own_z (own_no_ne rfl (by decide) b72)) (hb hby at_152) rfl ?_
            refine own_ldcInt (pc' := 157) X68 hx hZ hown (hw _ (List.mem_of_getElem? (i := 5) rfl)) (hb hby at_155) rfl ?_
            refine own_goto (pc' := 169) X68 hx (hb hby at_157) (by decide) (by decide) ?_
            refine own_istore (pc' := 171) X68 hx #[.val (.int p1), .val (.int p2), .val (.int p3), .val (.int p4), .val (.int v1), .val (.int v3), .val (.int v5), .val (.int v7), .val (.ref a56), .val (.int (65536 : Int32))] rfl (hb hby at_169) rfl ?_
            refine own_aload (pc' := 173) X68 hx rfl rfl (hb hby at_171) rfl ?_
            have kq74 : (0 : Int32).toInt = 0 := by decide
            obtain ⟨_, _, ⟨T73, L73, k73, n73⟩, -, X73, ⟨Lc73, hQ73, l73, y73, z73⟩, st73⟩ := Jvm.LawKit.callS X68 hx (y := (⟨"com/example/handclasp/handclasp/Apdu", "ne", "([B)I"⟩ : MethodName)) hown (mvT hZ (hw _ (List.mem_of_getElem? (i := 1) rfl))) (mvT hZ (hw _ (List.mem_of_getElem? (i := 2) rfl))) (mvT hZ (hw _ (List.mem_of_getElem? (i := 3) rfl))) (mvT hZ (hw _ (List.mem_of_getElem? (i := 4) rfl))) (by decide) (backOf (W := 0) (rm13 l Z a0 hw [] a56 cA56 (0 : Int32) v61 v66 h68 n0 Z69 A68 (by omega) (by omega) (by omega)) hZ (hw _ (List.mem_of_getElem? (i := 4) rfl)) (hw _ (List.mem_of_getElem? (i := 3) rfl)) (by decide) (by decide)) (g := (mkF m 173 #[.val (.int p1), .val (.int p2), .val (.int p3), .val (.int p4), .val (.int v1), .val (.int v3), .val (.int v5), .val (.int v7), .val (.ref a56), .val (.int (65536 : Int32))] [(.ref a56)])) rfl (by rw [hml]; rfl) (argsL := [(.ref a56)]) (rest := []) (lenOf pd_0 rfl) rfl (by show 2 * 0 + _ ≤ _; exact Nat.le_of_eq rfl) (hb hby at_173) (fun _ _ => ⟨rfl, e68, (by decide : 1 + 0 ≤ _), (by decide : 3 + 0 ≤ _)⟩)
            dsimp only [Pt.U, Pt.locs, Pt.cells, Pt.slots] at X73 l73 y73 z73 st73 hQ73
            subst l73 y73 z73
            obtain ⟨o73, rfl, p73, N73, e73⟩ := hQ73
            have ro73 := rng32 o73
            have N73a := Fr.app N70 N73
            refine own_by st73 ?_
            show own_Go p e below (Q0 Z p1 p2 p3 p4 h0 n0) (own_Fr s room_1.cells room_1.slots) (T73.setTop (mkF m 176 #[.val (.int p1), .val (.int p2), .val (.int p3), .val (.int p4), .val (.int v1), .val (.int v3), .val (.int v5), .val (.int v7), .val (.ref a56), .val (.int (65536 : Int32))] [(.int o73)]))
            refine own_iload (pc' := 178) X73 hx rfl (hb hby at_176) rfl ?_
            have b75 : o73.toInt = 65536 := by omega
            refine own_icmpNo (pc' := 181) X73 hx (own_no_ne rfl (by decide) b75) (hb hby at_178) rfl ?_
            refine own_iconst (pc' := 182) X73 hx (1 : Int32) (by decide) (hb hby at_181) rfl ?_
            refine own_goto (pc' := 186) X73 hx (hb hby at_182) (by decide) (by decide) ?_
            refine own_ret X73 hx Bd.returns Bd.notSynchronized (Or.inl ⟨rfl, by simp, _, rfl⟩) (hb hby at_186) rfl (by decide) (by decide) ?_
            show Q0 Z p1 p2 p3 p4 h0 n0 _ T73.heap _
            rw [e73]
            exact ⟨rfl, N73a⟩
          · refine own_ifYes (pc' := 160) X68 hx (hb hby at_152) (own_z (own_yes_ne rfl (by decide) b72)) (by decide) (by decide) ?_
            refine own_iload (pc' := 162) X68 hx rfl (hb hby at_160) rfl ?_
            refine own_sipush (pc' := 165) X68 hx (256 : Int32) (by decide) (hb hby at_162) rfl ?_
            obtain ⟨v76, hv76⟩ : ∃ z, v5 * (256 : Int32) = z := ⟨_, rfl⟩
            have f77 : (v76.toInt - (v5.toInt * 256)) % 4294967296 = 0 := by rw [← hv76]; exact c_imul v5 (256 : Int32)
            have rv76 := rng32 v76
            replace f77 : v76.toInt = v5.toInt * 256 := by omega
            refine own_imul (pc' := 166) X68 hx (z := v76) hv76 (hb hby at_165) rfl ?_
            refine own_iload (pc' := 168) X68 hx rfl (hb hby at_166) rfl ?_
            obtain ⟨v78, hv78⟩ : ∃ z, v76 + v7 = z := ⟨_, rfl⟩
            have f79 : (v78.toInt - (v76.toInt + v7.toInt)) % 4294967296 = 0 := by rw [← hv78]; exact c_iadd v76 v7
            have rv78 := rng32 v78
            replace f79 : v78.toInt = v76.toInt + v7.toInt := by omega
            refine own_iadd (pc' := 169) X68 hx (z := v78) hv78 (hb hby at_168) rfl ?_
            refine own_istore (pc' := 171) X68 hx #[.val (.int p1), .val (.int p2), .val (.int p3), .val (.int p4), .val (.int v1), .val (.int v3), .val (.int v5), .val (.int v7), .val (.ref a56), .val (.int v78)] rfl (hb hby at_169) rfl ?_
            refine own_aload (pc' := 173) X68 hx rfl rfl (hb hby at_171) rfl ?_
            have kq81 : (0 : Int32).toInt = 0 := by decide
            obtain ⟨_, _, ⟨T80, L80, k80, n80⟩, -, X80, ⟨Lc80, hQ80, l80, y80, z80⟩, st80⟩ := Jvm.LawKit.callS X68 hx (y := (⟨"com/example/handclasp/handclasp/Apdu", "ne", "([B)I"⟩ : MethodName)) hown (mvT hZ (hw _ (List.mem_of_getElem? (i := 1) rfl))) (mvT hZ (hw _ (List.mem_of_getElem? (i := 2) rfl))) (mvT hZ (hw _ (List.mem_of_getElem? (i := 3) rfl))) (mvT hZ (hw _ (List.mem_of_getElem? (i := 4) rfl))) (by decide) (backOf (W := 0) (rm13 l Z a0 hw [] a56 cA56 (0 : Int32) v61 v66 h68 n0 Z69 A68 (by omega) (by omega) (by omega)) hZ (hw _ (List.mem_of_getElem? (i := 4) rfl)) (hw _ (List.mem_of_getElem? (i := 3) rfl)) (by decide) (by decide)) (g := (mkF m 173 #[.val (.int p1), .val (.int p2), .val (.int p3), .val (.int p4), .val (.int v1), .val (.int v3), .val (.int v5), .val (.int v7), .val (.ref a56), .val (.int v78)] [(.ref a56)])) rfl (by rw [hml]; rfl) (argsL := [(.ref a56)]) (rest := []) (lenOf pd_0 rfl) rfl (by show 2 * 0 + _ ≤ _; exact Nat.le_of_eq rfl) (hb hby at_173) (fun _ _ => ⟨rfl, e68, (by decide : 1 + 0 ≤ _), (by decide : 3 + 0 ≤ _)⟩)
            dsimp only [Pt.U, Pt.locs, Pt.cells, Pt.slots] at X80 l80 y80 z80 st80 hQ80
            subst l80 y80 z80
            obtain ⟨o80, rfl, p80, N80, e80⟩ := hQ80
            have ro80 := rng32 o80
            have N80a := Fr.app N70 N80
            refine own_by st80 ?_
            show own_Go p e below (Q0 Z p1 p2 p3 p4 h0 n0) (own_Fr s room_1.cells room_1.slots) (T80.setTop (mkF m 176 #[.val (.int p1), .val (.int p2), .val (.int p3), .val (.int p4), .val (.int v1), .val (.int v3), .val (.int v5), .val (.int v7), .val (.ref a56), .val (.int v78)] [(.int o80)]))
            refine own_iload (pc' := 178) X80 hx rfl (hb hby at_176) rfl ?_
            have b82 : o80.toInt = v78.toInt := by omega
            refine own_icmpNo (pc' := 181) X80 hx (own_no_ne rfl rfl b82) (hb hby at_178) rfl ?_
            refine own_iconst (pc' := 182) X80 hx (1 : Int32) (by decide) (hb hby at_181) rfl ?_
            refine own_goto (pc' := 186) X80 hx (hb hby at_182) (by decide) (by decide) ?_
            refine own_ret X80 hx Bd.returns Bd.notSynchronized (Or.inl ⟨rfl, by simp, _, rfl⟩) (hb hby at_186) rfl (by decide) (by decide) ?_
            show Q0 Z p1 p2 p3 p4 h0 n0 _ T80.heap _
            rw [e80]
            exact ⟨rfl, N80a⟩
        · refine own_ifYes (pc' := 160) X68 hx (hb hby at_147) (own_z (own_yes_ne rfl (by decide) b71)) (by decide) (by decide) ?_
          refine own_iload (pc' := 162) X68 hx rfl (hb hby at_160) rfl ?_
          refine own_sipush (pc' := 165) X68 hx (256 : Int32) (by decide) (hb hby at_162) rfl ?_
          obtain ⟨v83, hv83⟩ : ∃ z, v5 * (256 : Int32) = z := ⟨_, rfl⟩
          have f84 : (v83.toInt - (v5.toInt * 256)) % 4294967296 = 0 := by rw [← hv83]; exact c_imul v5 (256 : Int32)
          have rv83 := rng32 v83
          replace f84 : v83.toInt = v5.toInt * 256 := by omega
          refine own_imul (pc' := 166) X68 hx (z := v83) hv83 (hb hby at_165) rfl ?_
          refine own_iload (pc' := 168) X68 hx rfl (hb hby at_166) rfl ?_
          obtain ⟨v85, hv85⟩ : ∃ z, v83 + v7 = z := ⟨_, rfl⟩
          have f86 : (v85.toInt - (v83.toInt + v7.toInt)) % 4294967296 = 0 := by rw [← hv85]; exact c_iadd v83 v7
          have rv85 := rng32 v85
          replace f86 : v85.toInt = v83.toInt + v7.toInt := by omega
          refine own_iadd (pc' := 169) X68 hx (z := v85) hv85 (hb hby at_168) rfl ?_
          refine own_istore (pc' := 171) X68 hx #[.val (.int p1), .val (.int p2), .val (.int p3), .val (.int p4), .val (.int v1), .val (.int v3), .val (.int v5), .val (.int v7), .val (.ref a56), .val (.int v85)] rfl (hb hby at_169) rfl ?_
          refine own_aload (pc' := 173) X68 hx rfl rfl (hb hby at_171) rfl ?_
          have kq88 : (0 : Int32).toInt = 0 := by decide
          obtain ⟨_, _, ⟨T87, L87, k87, n87⟩, -, X87, ⟨Lc87, hQ87, l87, y87, z87⟩, st87⟩ := Jvm.LawKit.callS X68 hx (y := (⟨"com/example/handclasp/handclasp/Apdu", "ne", "([B)I"⟩ : MethodName)) hown (mvT hZ (hw _ (List.mem_of_getElem? (i := 1) rfl))) (mvT hZ (hw _ (List.mem_of_getElem? (i := 2) rfl))) (mvT hZ (hw _ (List.mem_of_getElem? (i := 3) rfl))) (mvT hZ (hw _ (List.mem_of_getElem? (i := 4) rfl))) (by decide) (backOf (W := 0) (rm13 l Z a0 hw [] a56 cA56 (0 : Int32) v61 v66 h68 n0 Z69 A68 (by omega) (by omega) (by omega)) hZ (hw _ (List.mem_of_getElem? (i := 4) rfl)) (hw _ (List.mem_of_getElem? (i := 3) rfl)) (by decide) (by decide)) (g := (mkF m 173 #[.val (.int p1), .val (.int p2), .val (.int p3), .val (.int p4), .val (.int v1), .val (.int v3), .val (.int v5), .val (.int v7), .val (.ref a56), .val (.int v85)] [(.ref a56)])) rfl (by rw [hml]; rfl) (argsL := [(.ref a56)]) (rest := []) (lenOf pd_0 rfl) rfl (by show 2 * 0 + _ ≤ _; exact Nat.le_of_eq rfl) (hb hby at_173) (fun _ _ => ⟨rfl, e68, (by decide : 1 + 0 ≤ _), (by decide : 3 + 0 ≤ _)⟩)
          dsimp only [Pt.U, Pt.locs, Pt.cells, Pt.slots] at X87 l87 y87 z87 st87 hQ87
          subst l87 y87 z87
          obtain ⟨o87, rfl, p87, N87, e87⟩ := hQ87
          have ro87 := rng32 o87
          have N87a := Fr.app N70 N87
          refine own_by st87 ?_
          show own_Go p e below (Q0 Z p1 p2 p3 p4 h0 n0) (own_Fr s room_1.cells room_1.slots) (T87.setTop (mkF m 176 #[.val (.int p1), .val (.int p2), .val (.int p3), .val (.int p4), .val (.int v1), .val (.int v3), .val (.int v5), .val (.int v7), .val (.ref a56), .val (.int v85)] [(.int o87)]))
          refine own_iload (pc' := 178) X87 hx rfl (hb hby at_176) rfl ?_
          have b89 : o87.toInt = v85.toInt := by omega
          refine own_icmpNo (pc' := 181) X87 hx (own_no_ne rfl rfl b89) (hb hby at_178) rfl ?_
          refine own_iconst (pc' := 182) X87 hx (1 : Int32) (by decide) (hb hby at_181) rfl ?_
          refine own_goto (pc' := 186) X87 hx (hb hby at_182) (by decide) (by decide) ?_
          refine own_ret X87 hx Bd.returns Bd.notSynchronized (Or.inl ⟨rfl, by simp, _, rfl⟩) (hb hby at_186) rfl (by decide) (by decide) ?_
          show Q0 Z p1 p2 p3 p4 h0 n0 _ T87.heap _
          rw [e87]
          exact ⟨rfl, N87a⟩
set_option maxRecDepth 65536 in
set_option maxHeartbeats 40000000 in
theorem comes_1 {Post : Tables → Env → Array Value → State → Outcome → State → Prop} (hpost : ∀ tb e args s v u, (limb_1_1.after args s (.returned v) u = true ∧ limb_1_2.after args s (.returned v) u = true ∧ True) → FrameEnd s (.returned v) u (Jvm.fieldLocs frame_1_writes args s ++ Jvm.arrayLocs frame_1_arrays args s ++ Jvm.staticLocs frame_1_statics s) 16 128 → Post tb e args s (.returned v) u) :
    ArmFor flags0 classFile x code maxLocals ret World_1 tables_1 room_1 Calls_1 rest_1 Pre_1 Post := by
  intro l hfl _ _ p e ha hc hk s m args below hf hA hF happ hP
  obtain ⟨hcalls, hrest, hpre⟩ := hP
  obtain ⟨-, -, -, hnamed, -, -, -, hat⟩ := (Spec.applies_iff hf).mp happ
  obtain ⟨hg, hn⟩ := and_e (Cond.before_iff.mp (show (Jvm.Cond.and given_1 narrow_1).before args s = true from hpre))
  obtain ⟨g0, gr0⟩ := and_e hg
  obtain ⟨g1, gr1⟩ := and_e gr0
  obtain ⟨g2, gr2⟩ := and_e gr1
  obtain ⟨g3, gr3⟩ := and_e gr2
  obtain ⟨w0, w1, w2, w3, rfl⟩ : ∃ w0 w1 w2 w3 : Value, args = #[w0, w1, w2, w3] := by
    have hs : args.size = 4 := by simpa [Cond.value, given_1] using g0
    obtain ⟨L⟩ := args
    match L, hs with
    | [w0, w1, w2, w3], _ => exact ⟨w0, w1, w2, w3, rfl⟩
  have hw := fun d (hd : d ∈ tables_1) => atoms_spec (ws := Jvm.Cond.code x code maxLocals ret :: tables_1) hat d (List.mem_cons_of_mem _ hd)
  obtain ⟨i0, ev0⟩ := is_v g1
  obtain rfl : w0 = (.int i0) := Option.some.inj ev0
  obtain ⟨i1, ev1⟩ := is_v g2
  obtain rfl : w1 = (.int i1) := Option.some.inj ev1
  obtain ⟨i2, ev2⟩ := is_v g3
  obtain rfl : w2 = (.int i2) := Option.some.inj ev2
  obtain ⟨i3, ev3⟩ := is_v gr3
  obtain rfl : w3 = (.int i3) := Option.some.inj ev3
  obtain ⟨n, o, h1, h2, h3, _, L, rfl, ⟨rfl, N⟩, hq⟩ := rm0 l s _ hw tables_1 i0 i1 i2 i3  s.heap s.heap.size (Nat.le_refl _)  p e ha hc hk s m _ below hf ((Spec.applies_iff_loose hf).mp happ).1 ⟨rfl, State.Warmed39.refl s, rfl⟩ trivial
  refine ⟨n, _, h1, h2, h3, hpost _ _ _ _ _ _ ⟨Cond.after_iff.mpr rfl, Cond.after_iff.mpr (eq_i res_at (Term.int_eval (1)) rfl), trivial⟩ ⟨hq.1, hq.2.1, (hq.2.2.sift fun y hy => Or.inr (N y hy)).mono (by decide) (by decide)⟩⟩
theorem main_1_1 : Claimed_1_1 := comes_1 fun _ _ _ _ _ _ h hF => ⟨h.1, hF⟩
theorem main_1_2 : Claimed_1_2 := comes_1 fun _ _ _ _ _ _ h hF => ⟨h.2.1, hF⟩
end Jvm.Pilot.@@N@@
namespace Jvm.Pilot.@@N@@
open Jvm Jvm.ClassFile Sem Op Lib Jvm.Free Jvm.Stand Jvm.Pilot.@@N@@.Jvm.D
/-! MADE BY PROGRAM (witnessworld.py) out of the Statement's table words and the real class files: 10 classes; the members and pool entries that the words name. The judged class is class 1, her method 1. -/
namespace start1
open Jvm.ClassFile
def u (s : String) : CpInfo := .utf8 (stringToUtf16 s)
/-- a pool by its gaps: so many unusable entries, then the entry; so many at the end -/
def gap : Nat → List CpInfo → List CpInfo
  | 0, r => r
  | n + 1, r => .unusable :: gap n r
def poolList (es : List (Nat × CpInfo)) (last : Nat) : List CpInfo := es.foldr (fun e r => gap e.1 (e.2 :: r)) (gap last [])
def pool (es : List (Nat × CpInfo)) (last : Nat) : Array CpInfo := ⟨poolList es last⟩
def fileOf (pool : Array CpInfo) (this : Nat) (attrs : Array Attribute := #[]) (ms : Array MethodInfo := #[]) (fl : Nat := 33) (sup : Nat := 0) (ifs : Array Nat := #[]) (fds : Array FieldInfo := #[]) : ClassFile where
  minorVersion := 0
  majorVersion := 65
  constantPool := pool
  accessFlags := fl
  thisClass := this
  superClass := sup
  interfaces := ifs
  fields := fds
  methods := ms
  attributes := attrs
def plain (name : String) (sup : Option ClassId) : Class where
  name := name
  kind := .ordinary
  loader := none
  accessFlags := 33
  super := sup
  interfaces := #[]
  cf := none
  fields := #[]
  methods := #[]
  instanceTypes := #[]
  staticTypes := #[]
  resolved := #[]
  callSites := []
  init := .initialized
  statics := none
  mirror := none

def pool0 : Array CpInfo := pool [(5, u "<init>"), (0, u "()V"), (1, .class_ 10), (1, u "java/lang/Object")] 113

def k0m0 : Method := { name := "<init>", desc := "()V", sig := { parameters := [], returnType := none }, accessFlags := 1, code := none }
/-- java/lang/Object -/
def k0 : Class := { plain "java/lang/Object" none with
  accessFlags := 33
  interfaces := #[]
  cf := some (fileOf pool0 8 #[] #[{ accessFlags := 1, nameIndex := 5, descriptorIndex := 6, attributes := #[] }] 33 0 #[] #[])
  fields := #[]
  methods := #[k0m0]
  instanceTypes := #[]
  staticTypes := #[]
  resolved := Array.replicate 124 none
  statics := none }

def pool1 : Array CpInfo := pool [(2, .class_ 4), (1, u "java/lang/Object"), (0, u "<init>"), (0, u "()V"), (0, .integer 65536), (0, .methodref 9 10), (0, .class_ 11), (0, .nameAndType 12 13), (0, u "com/example/handclasp/handclasp/Apdu"), (0, u "ne"), (0, u "([B)I"), (0, .class_ 15), (0, u "com/example/handclasp/handclasp/ApduNePinLaw"), (2, u "law"), (0, u "(IIII)Z")] 5

def k1m0 : Method := { name := "<init>", desc := "()V", sig := { parameters := [], returnType := none }, accessFlags := 2, code := none }
def k1c1 : Code := { maxStack := 4, maxLocals := 10, code := code, exceptionTable := #[], attributes := #[] }
def k1m1 : Method := { name := "law", desc := "(IIII)Z", sig := { parameters := [.int, .int, .int, .int], returnType := some .boolean }, accessFlags := 9, code := some k1c1 }
/-- com/example/handclasp/handclasp/ApduNePinLaw -/
def k1 : Class := { plain "com/example/handclasp/handclasp/ApduNePinLaw" (some 0) with
  accessFlags := 49
  interfaces := #[]
  cf := some (fileOf pool1 14 #[] #[{ accessFlags := 2, nameIndex := 5, descriptorIndex := 6, attributes := #[] }, { accessFlags := 9, nameIndex := 18, descriptorIndex := 19, attributes := #[] }] 49 2 #[] #[])
  fields := #[]
  methods := #[k1m0, k1m1]
  instanceTypes := #[]
  staticTypes := #[]
  resolved := Array.replicate 25 none
  statics := none }

def pool2 : Array CpInfo := pool [(2, .class_ 4), (1, u "java/lang/Object"), (0, u "<init>"), (0, u "()V"), (0, .class_ 8), (0, u "java/lang/Record")] 13

def k2m0 : Method := { name := "<init>", desc := "()V", sig := { parameters := [], returnType := none }, accessFlags := 4, code := none }
/-- java/lang/Record -/
def k2 : Class := { plain "java/lang/Record" (some 0) with
  accessFlags := 1057
  interfaces := #[]
  cf := some (fileOf pool2 7 #[] #[{ accessFlags := 4, nameIndex := 5, descriptorIndex := 6, attributes := #[] }] 1057 2 #[] #[])
  fields := #[]
  methods := #[k2m0]
  instanceTypes := #[]
  staticTypes := #[]
  resolved := Array.replicate 22 none
  statics := none }

def pool3 : Array CpInfo := pool [(2, .class_ 4), (1, u "java/lang/Record"), (11, .class_ 17), (0, u "com/example/handclasp/handclasp/Apdu"), (1, .integer 65536), (4, u "cla"), (0, u "I"), (2, u "ins"), (2, u "p1"), (2, u "p2"), (2, u "data"), (0, u "[B"), (2, u "ne"), (41, u "([B)I"), (40, u "HEADER_LENGTH"), (2, u "SHORT_DATA"), (1, u "SHORT_NE"), (1, u "EXTENDED_DATA"), (0, u "EXTENDED_NE"), (22, .class_ 156), (0, u "com/example/handclasp/handclasp/Apdu$Response")] 48

def k3c0 : Code := { maxStack := 3, maxLocals := 6, code := prog_3_method_6_code, exceptionTable := #[], attributes := #[] }
def k3m0 : Method := { name := "ne", desc := "([B)I", sig := { parameters := [(.array .byte)], returnType := some .int }, accessFlags := 8, code := some k3c0 }
/-- com/example/handclasp/handclasp/Apdu -/
def k3 : Class := { plain "com/example/handclasp/handclasp/Apdu" (some 2) with
  accessFlags := 48
  interfaces := #[]
  cf := some (fileOf pool3 16 #[.nestMembers #[155]] #[{ accessFlags := 8, nameIndex := 41, descriptorIndex := 83, attributes := #[] }] 48 2 #[] #[{ accessFlags := 18, nameIndex := 24, descriptorIndex := 25, attributes := #[] }, { accessFlags := 18, nameIndex := 28, descriptorIndex := 25, attributes := #[] }, { accessFlags := 18, nameIndex := 31, descriptorIndex := 25, attributes := #[] }, { accessFlags := 18, nameIndex := 34, descriptorIndex := 25, attributes := #[] }, { accessFlags := 18, nameIndex := 37, descriptorIndex := 38, attributes := #[] }, { accessFlags := 18, nameIndex := 41, descriptorIndex := 25, attributes := #[] }, { accessFlags := 24, nameIndex := 124, descriptorIndex := 25, attributes := #[] }, { accessFlags := 26, nameIndex := 127, descriptorIndex := 25, attributes := #[] }, { accessFlags := 26, nameIndex := 129, descriptorIndex := 25, attributes := #[] }, { accessFlags := 26, nameIndex := 131, descriptorIndex := 25, attributes := #[] }, { accessFlags := 26, nameIndex := 132, descriptorIndex := 25, attributes := #[] }])
  fields := #[{ name := "cla", type := .int, accessFlags := 18, slot := 0, constantValue := 0 }, { name := "ins", type := .int, accessFlags := 18, slot := 1, constantValue := 0 }, { name := "p1", type := .int, accessFlags := 18, slot := 2, constantValue := 0 }, { name := "p2", type := .int, accessFlags := 18, slot := 3, constantValue := 0 }, { name := "data", type := (.array .byte), accessFlags := 18, slot := 4, constantValue := 0 }, { name := "ne", type := .int, accessFlags := 18, slot := 5, constantValue := 0 }, { name := "HEADER_LENGTH", type := .int, accessFlags := 24, slot := 0, constantValue := 0 }, { name := "SHORT_DATA", type := .int, accessFlags := 26, slot := 1, constantValue := 0 }, { name := "SHORT_NE", type := .int, accessFlags := 26, slot := 2, constantValue := 0 }, { name := "EXTENDED_DATA", type := .int, accessFlags := 26, slot := 3, constantValue := 0 }, { name := "EXTENDED_NE", type := .int, accessFlags := 26, slot := 4, constantValue := 0 }]
  methods := #[k3m0]
  instanceTypes := #[.int, .int, .int, .int, (.array .byte), .int]
  staticTypes := #[.int, .int, .int, .int, .int]
  resolved := Array.replicate 205 none
  statics := none }

def pool4 : Array CpInfo := pool [(1, u "java/lang/Cloneable"), (0, .class_ 1), (0, u "java/lang/Object"), (0, .class_ 3)] 3

/-- java/lang/Cloneable -/
def k4 : Class := { plain "java/lang/Cloneable" (some 0) with
  accessFlags := 1537
  interfaces := #[]
  cf := some (fileOf pool4 2 #[] #[] 1537 4 #[] #[])
  fields := #[]
  methods := #[]
  instanceTypes := #[]
  staticTypes := #[]
  resolved := Array.replicate 8 none
  statics := none }

def pool5 : Array CpInfo := pool [(1, u "java/io/Serializable"), (0, .class_ 1), (0, u "java/lang/Object"), (0, .class_ 3)] 3

/-- java/io/Serializable -/
def k5 : Class := { plain "java/io/Serializable" (some 0) with
  accessFlags := 1537
  interfaces := #[]
  cf := some (fileOf pool5 2 #[] #[] 1537 4 #[] #[])
  fields := #[]
  methods := #[]
  instanceTypes := #[]
  staticTypes := #[]
  resolved := Array.replicate 8 none
  statics := none }

/-- the primitive byte -/
def k6 : Class := { plain "byte" none with kind := .primitive 'B', accessFlags := 0x411 }
/-- [B -/
def k7 : Class := { plain "[B" (some 0) with kind := .array 6 .byte, interfaces := #[4, 5], accessFlags := 1041 }

/-- the primitive int -/
def k8 : Class := { plain "int" none with kind := .primitive 'I', accessFlags := 0x411 }
/-- [I -/
def k9 : Class := { plain "[I" (some 0) with kind := .array 8 .int, interfaces := #[4, 5], accessFlags := 1041 }

def heap : Heap := #[]
def classes : Array Class := #[k0, k1, k2, k3, k4, k5, k6, k7, k8, k9]
def interned : List (Array UInt16 × Addr) := []
def slotsUsed : Nat := 0
def theMethod : MethodId := ⟨1, 1⟩
def args0 : Array Value := #[.int 1, .int 3, .int 4, .int 5]
def aboutOver (below : List Frame) : State where
  vm := { classes := classes, interned := interned.toArray }
  heap := heap
  slotsUsed := slotsUsed
  threads := #[{ frames := .invoking theMethod args0 :: below }]
def below0 : List Frame := [.native { method := ⟨0, 0⟩, args := #[] }]
def about1 : State := aboutOver below0
def p0 : Program := .bare "" "" ""
def e0 : Env := launch0.env 0 0 0
theorem w_frames : about1.frames = Frame.invoking theMethod args0 :: below0 := rfl
set_option maxRecDepth 65536 in
theorem w_args : argsFit about1.vm theMethod args0 = true := by decide +kernel
set_option maxRecDepth 65536 in
theorem w_heap : heapFits about1 = true := by decide +kernel
set_option maxRecDepth 65536 in
theorem w_runnable : about1.curStatus? = some .runnable := by decide +kernel
set_option maxRecDepth 65536 in
theorem w_alone : about1.alone = true := by decide +kernel
set_option maxRecDepth 65536 in
theorem w_named : about1.methodNamed? x = some theMethod := by decide +kernel
set_option maxRecDepth 65536 in
theorem w_hears : about1.hears theMethod below0 = true := by decide +kernel
set_option maxRecDepth 65536 in
theorem w_ripe : about1.ripe theMethod args0 below0 = true := by decide +kernel
theorem w_running : about1.status = .running := rfl
set_option maxRecDepth 65536 in
theorem w_room : about1.hasRoom e0.platform room_1 = true :=
  launch0.hasRoom_least _ room_1 (by decide +kernel) (by decide +kernel) (by decide +kernel) (by decide +kernel) (by decide +kernel) (by decide +kernel)
theorem allAtoms_all (ts : List Jvm.Cond) (a : Array Jvm.Value) (st : Jvm.State) : (allAtoms ts).before a st = ts.all (fun c => c.before a st) := by
  induction ts with
  | nil => rfl
  | cons c t ih =>
    show (Jvm.Cond.and c (allAtoms t)).before a st = _
    rw [Jvm.Cond.before_and, ih, List.all_cons]
def words1 : List Jvm.Cond := Jvm.Cond.code x code maxLocals ret :: tables_1
/-- a 'code' word, met by the world's own term for the bytes: nothing is compared byte by byte -/
theorem code_word {y : MethodName} {bytes : ByteArray} {mx : Nat} {rt : Option FieldType} {a : Array Value} {s : State} {m : MethodId} {meth : Method} {c : Code} (h1 : s.methodNamed? y = some m) (h2 : s.vm.method? m = some meth) (h3 : meth.code = some c) (h4 : c.code = bytes)
    (h5 : (c.maxLocals == mx && c.exceptionTable.isEmpty && decide (c.maxStack ≤ mostOperands) && decide (meth.sig.returnType = rt) && !meth.locks && decide (parseMethodDescriptor y.desc = some meth.sig)) = true) : (Jvm.Cond.code y bytes mx rt).before a s = true := by
  simp only [Bool.and_eq_true, beq_iff_eq, Bool.not_eq_true', decide_eq_true_eq] at h5
  obtain ⟨⟨⟨⟨⟨g1, g2⟩, g3⟩, g4⟩, g5⟩, g6⟩ := h5
  simp [Cond.before, Cond.holds, Cond.value, h1, h2, h3, h4, g1, g2, g3, g4, g5, g6]
def isCode : Jvm.Cond → Bool
  | .code _ _ _ _ => true
  | _ => false
theorem all_split {L : List Jvm.Cond} {P : Jvm.Cond → Bool} (h1 : L.all (fun c => isCode c || P c) = true) (h2 : ∀ c ∈ L.filter isCode, P c = true) : L.all P = true := by
  refine List.all_eq_true.mpr fun c hc => ?_
  have h := List.all_eq_true.mp h1 c hc
  rcases Bool.eq_false_or_eq_true (isCode c) with hi | hi
  · exact h2 c (List.mem_filter.mpr ⟨hc, hi⟩)
  · simpa [hi] using h
set_option maxRecDepth 65536 in
theorem w_c0 : (Jvm.Cond.code x code maxLocals ret).before args0 about1 = true := code_word (m := ⟨1, 1⟩) (meth := k1m1) (c := k1c1) (by decide +kernel) rfl rfl rfl (by decide +kernel)
set_option maxRecDepth 65536 in
theorem w_c1 : (Jvm.Cond.code ({ cls := "com/example/handclasp/handclasp/Apdu", name := "ne", desc := "([B)I" } : Jvm.MethodName) prog_3_method_6_code (6 : Nat) (Option.some Jvm.ClassFile.FieldType.int)).before args0 about1 = true := code_word (m := ⟨3, 0⟩) (meth := k3m0) (c := k3c0) (by decide +kernel) rfl rfl rfl (by decide +kernel)
def codes1 : List Jvm.Cond := [Jvm.Cond.code x code maxLocals ret, Jvm.Cond.code ({ cls := "com/example/handclasp/handclasp/Apdu", name := "ne", desc := "([B)I" } : Jvm.MethodName) prog_3_method_6_code (6 : Nat) (Option.some Jvm.ClassFile.FieldType.int)]
set_option maxRecDepth 65536 in
theorem codes_eq : words1.filter isCode = codes1 := rfl
theorem w_codes : ∀ c ∈ words1.filter isCode, c.before args0 about1 = true := by
  rw [codes_eq]
  intro c hc
  simp only [codes1, List.mem_cons, List.not_mem_nil, or_false] at hc
  rcases hc with rfl | rfl
  · exact w_c0
  · exact w_c1
set_option maxRecDepth 65536 in
theorem w_t1 : words1.all (fun c => isCode c || c.before args0 about1) = true := by decide +kernel
theorem w_tables : (allAtoms (Jvm.Cond.code x code maxLocals ret :: tables_1)).before args0 about1 = true := by
  rw [allAtoms_all]
  show words1.all (fun c => c.before args0 about1) = true
  refine all_split ?_ w_codes
  rw [w_t1]
set_option maxRecDepth 65536 in
theorem w_case : (Jvm.Cond.and given_1 narrow_1).before args0 about1 = true := by decide +kernel
theorem w_applies : (headSpec (Jvm.Cond.code x code maxLocals ret :: tables_1) room_1).applies x e0.platform about1 = true :=
  (Spec.applies_iff w_frames).mpr ⟨w_running, w_runnable, w_alone, w_named, w_hears, w_ripe, w_room, w_tables⟩
theorem atStart : AtStart classFile x code maxLocals ret World_1 tables_1 room_1 Calls_1 rest_1 Pre_1 launch0 p0 e0 about1 theMethod args0 below0 :=
  ⟨lists_1, trivial, launch0.admits_env _ _ _, launch0.least_env, fairChoices_fair.cas, fairChoices_fair.clock, w_frames, w_args, w_heap, w_applies, trivial, trivial, w_case⟩
end start1
theorem witness_1 : WitnessClaimed_1 := ⟨start1.p0, start1.e0, start1.about1, start1.theMethod, start1.args0, start1.below0, start1.atStart⟩
end Jvm.Pilot.@@N@@
