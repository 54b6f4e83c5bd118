import JvmDerived
import JvmDerived.Pilot.@@N@@Statement
import JvmDerived.Pilot.@@N@@Code
set_option linter.unusedVariables false
set_option linter.unusedSimpArgs false
namespace Jvm.Pilot.@@N@@
open Jvm Jvm.ClassFile Sem Op Lib Jvm.Free Jvm.Stand Jvm.LawKit Jvm.RoadKit Bundle Jvm.Pilot.@@N@@.Jvm.D
section OwnKit
variable {p : Program} {l : Launch} {e : Env} {R : Room} {s : State} {m : MethodId} {args : Array Value} {below : List Frame} {meth : Method} {c : Code} {T : State} {locs : List Loc} {cells slots : Nat}
/-- from U the walk comes to its end, and there Q holds -/
def own_Go (p : Program) (e : Env) (below : List Frame) (Q : Option Value → Heap → List Loc → Prop) (F : List Loc → Outcome → State → Prop) (U : State) : Prop :=
  ∃ t o, Steps p.tables e below U t ∧ t.status = .running ∧ Ended t below o ∧ ∃ v L, o = .returned v ∧ Q v t.heap L ∧ F L o t
def own_Fr (s : State) (C S : Nat) (L : List Loc) (o : Outcome) (t : State) : Prop := FrameEnd s o t L C S
def own_FrW (s : State) (C S : Nat) (L : List Loc) (o : Outcome) (t : State) : Prop := ReturnedEndW s o t L C S
variable {Q : Option Value → Heap → List Loc → Prop} {F : List Loc → Outcome → State → Prop} {C S : Nat}
theorem own_by {U U' : State} (k : ∀ t, Steps p.tables e below U' t → Steps p.tables e below U t) (h : own_Go p e below Q F U') : own_Go p e below Q F U := by
  obtain ⟨t, o, h1, h2⟩ := h
  exact ⟨t, o, k t h1, h2⟩
theorem own_via {U U' : State} (k : Steps p.tables e below U U') (h : own_Go p e below Q F U') : own_Go p e below Q F U := own_by (fun _ q => k.trans q) h
theorem own_ret (X : Stand p l e R s m args below meth c T locs cells slots) (hx : p.tables.exec = Jvm.exec) {pc : Nat} {Ls : Array Slot} {w : Value} {t : FieldType} {i : Instr} {rest : List Value} (hret : meth.sig.returnType = some t) (hlocks : meth.locks = false)
    (hi : (i = .ireturn ∧ (t = .int ∨ t = .boolean ∨ t = .byte ∨ t = .char ∨ t = .short) ∧ ∃ z, w = .int z) ∨ (i = .lreturn ∧ t = .long ∧ ∃ z, w = .long z) ∨ (i = .dreturn ∧ t = .double ∧ ∃ z, w = .double z) ∨ (i = .freturn ∧ t = .float ∧ ∃ z, w = .float z) ∨ (i = .areturn ∧ t.isReference = true ∧ w.isRef = true))
    (hd : decode c.code pc = .ok (i, 1)) (hn : narrow t w = w) (hc : cells ≤ C) (hs : slots ≤ S) (hQ : Q (some w) T.heap locs) : own_Go p e below Q (own_Fr s C S) (T.setTop (mkF m pc Ls (w :: rest))) := by
  obtain ⟨fs, hr, hrun, hended, hW, hsame⟩ := X.leave (v := some w) (fun h => by rw [hret] at h; cases h) hlocks
  exact ⟨_, _, retOut X hx hret hn hi hd hr, hrun, hended, _, _, rfl, hQ, ⟨_, rfl⟩, hW, hsame.mono hc hs⟩
theorem own_ret0 (X : Stand p l e R s m args below meth c T locs cells slots) (hx : p.tables.exec = Jvm.exec) {pc : Nat} {Ls : Array Slot} {st : List Value} (hret : meth.sig.returnType = none) (hlocks : meth.locks = false)
    (hd : decode c.code pc = .ok (.return_, 1)) (hst : st = []) (hc : cells ≤ C) (hs : slots ≤ S) (hQ : Q none T.heap locs) : own_Go p e below Q (own_Fr s C S) (T.setTop (mkF m pc Ls st)) := by
  subst hst
  obtain ⟨fs, hr, hrun, hended, hW, hsame⟩ := X.leave (v := none) (fun _ => rfl) hlocks
  exact ⟨_, _, X.returnOut hx hret hd hr, hrun, hended, _, _, rfl, hQ, ⟨_, rfl⟩, hW, hsame.mono hc hs⟩
theorem own_retW {s : State} {vm₁ : Vm} {nn : Nat} (X : Stand p l e R (s.setVm vm₁) m args below meth c T locs cells slots) (hx : p.tables.exec = Jvm.exec) {pc : Nat} {Ls : Array Slot} {w : Value} {t : FieldType} {i : Instr} {rest : List Value} (hret : meth.sig.returnType = some t) (hlocks : meth.locks = false) (hS : s.Since vm₁ nn) (hk : nn ≤ T.heap.size)
    (hi : (i = .ireturn ∧ (t = .int ∨ t = .boolean ∨ t = .byte ∨ t = .char ∨ t = .short) ∧ ∃ z, w = .int z) ∨ (i = .lreturn ∧ t = .long ∧ ∃ z, w = .long z) ∨ (i = .dreturn ∧ t = .double ∧ ∃ z, w = .double z) ∨ (i = .freturn ∧ t = .float ∧ ∃ z, w = .float z) ∨ (i = .areturn ∧ t.isReference = true ∧ w.isRef = true))
    (hd : decode c.code pc = .ok (i, 1)) (hn : narrow t w = w) (hc : cells ≤ C) (hs : slots ≤ S) (hQ : Q (some w) T.heap locs) : own_Go p e below Q (own_FrW s C S) (T.setTop (mkF m pc Ls (w :: rest))) := by
  obtain ⟨fs, hr, hrun, hended, hW⟩ := X.leaveW hS hk (v := some w) (fun h => by rw [hret] at h; cases h) hlocks
  exact ⟨_, _, retOut X hx hret hn hi hd hr, hrun, hended, _, _, rfl, hQ, hW.1, hW.2.1, hW.2.2.1, hW.2.2.2.mono hc hs⟩
theorem own_nz {z : Int32} (h : z.toInt = 0 ∨ z.toInt = 1) : narrow .boolean (.int z) = .int z := by
  rcases h with h | h
  · obtain rfl : z = 0 := Int32.toInt_inj.mp h
    rfl
  · obtain rfl : z = 1 := Int32.toInt_inj.mp h
    rfl
theorem own_nb {z : Int32} (h : -128 ≤ z.toInt ∧ z.toInt < 128) : nar .byte z = z := by
  have q := c_i2b z
  exact Int32.toInt_inj.mp (by show z.toInt8.toInt32.toInt = z.toInt; omega)
theorem own_fb {z : Int32} (h : -128 ≤ z.toInt ∧ z.toInt < 128) : fits .byte (.int z) = true := by
  have q := fits_nar_byte z
  rw [show z.toInt8.toInt32 = z from own_nb h] at q
  exact q
theorem own_b01 {z : Int32} (h : z.toInt = 0 ∨ z.toInt = 1) : z = 0 ∨ z = 1 := h.imp (fun q => Int32.toInt_inj.mp q) (fun q => Int32.toInt_inj.mp q)
theorem own_nbool {z : Int32} (h : z.toInt = 0 ∨ z.toInt = 1) : nar .boolean z = z := by rcases own_b01 h with rfl | rfl <;> decide
theorem own_fbool {z : Int32} (h : z.toInt = 0 ∨ z.toInt = 1) : fits .boolean (.int z) = true := by rcases own_b01 h with rfl | rfl <;> decide
theorem own_lt {x y : Int32} : x.toInt < y.toInt ↔ x < y := Int32.lt_iff_toInt_lt.symm
theorem own_yes_lt {x y : Int32} {a b : Int} (ha : x.toInt = a) (hb : y.toInt = b) (h : a < b) : if_icmp.holds .lt x y = true := by subst ha hb; exact (tlt (own_lt.mp h)).1
theorem own_no_lt {x y : Int32} {a b : Int} (ha : x.toInt = a) (hb : y.toInt = b) (h : ¬ a < b) : if_icmp.holds .lt x y = false := by subst ha hb; exact (flt (fun q => h (own_lt.mpr q))).1
theorem own_yes_ge {x y : Int32} {a b : Int} (ha : x.toInt = a) (hb : y.toInt = b) (h : ¬ a < b) : if_icmp.holds .ge x y = true := by subst ha hb; exact (flt (fun q => h (own_lt.mpr q))).2.1
theorem own_no_ge {x y : Int32} {a b : Int} (ha : x.toInt = a) (hb : y.toInt = b) (h : a < b) : if_icmp.holds .ge x y = false := by subst ha hb; exact (tlt (own_lt.mp h)).2.1
theorem own_yes_gt {x y : Int32} {a b : Int} (ha : x.toInt = a) (hb : y.toInt = b) (h : b < a) : if_icmp.holds .gt x y = true := by subst ha hb; exact (tlt (own_lt.mp h)).2.2.1
theorem own_no_gt {x y : Int32} {a b : Int} (ha : x.toInt = a) (hb : y.toInt = b) (h : ¬ b < a) : if_icmp.holds .gt x y = false := by subst ha hb; exact (flt (fun q => h (own_lt.mpr q))).2.2.1
theorem own_yes_le {x y : Int32} {a b : Int} (ha : x.toInt = a) (hb : y.toInt = b) (h : ¬ b < a) : if_icmp.holds .le x y = true := by subst ha hb; exact (flt (fun q => h (own_lt.mpr q))).2.2.2
theorem own_no_le {x y : Int32} {a b : Int} (ha : x.toInt = a) (hb : y.toInt = b) (h : b < a) : if_icmp.holds .le x y = false := by subst ha hb; exact (tlt (own_lt.mp h)).2.2.2
theorem own_yes_eq {x y : Int32} {a b : Int} (ha : x.toInt = a) (hb : y.toInt = b) (h : a = b) : if_icmp.holds .eq x y = true := by subst ha hb; exact (teq (Int32.toInt_inj.mp h)).1
theorem own_no_eq {x y : Int32} {a b : Int} (ha : x.toInt = a) (hb : y.toInt = b) (h : ¬ a = b) : if_icmp.holds .eq x y = false := by subst ha hb; exact (feq (fun q => h (congrArg Int32.toInt q))).1
theorem own_yes_ne {x y : Int32} {a b : Int} (ha : x.toInt = a) (hb : y.toInt = b) (h : ¬ a = b) : if_icmp.holds .ne x y = true := by subst ha hb; exact (feq (fun q => h (congrArg Int32.toInt q))).2
theorem own_no_ne {x y : Int32} {a b : Int} (ha : x.toInt = a) (hb : y.toInt = b) (h : a = b) : if_icmp.holds .ne x y = false := by subst ha hb; exact (teq (Int32.toInt_inj.mp h)).2
theorem own_z {cd : ClassFile.Cond} {x : Int32} {b : Bool} (h : if_icmp.holds cd x 0 = b) : ifCond.holds cd x = b := (if0 cd x).trans h
theorem own_lcm {x y : Int64} {a b : Int} (ha : x.toInt = a) (hb : y.toInt = b) : (a < b ∧ (lcmpW x y).toInt = -1) ∨ (a = b ∧ (lcmpW x y).toInt = 0) ∨ (b < a ∧ (lcmpW x y).toInt = 1) := by
  subst ha hb
  obtain ⟨h1, h2, h3⟩ := c_lcmp x y
  omega
theorem own_ne0 {x : Int32} {a : Int} (ha : x.toInt = a) (h : ¬ a = 0) : x ≠ 0 := fun q => h (by rw [← ha, q]; rfl)
theorem own_iloadN (X : Stand p l e R s m args below meth c T locs cells slots) (hx : p.tables.exec = Jvm.exec) {pc pc' : Nat} {Ls : Array Slot} {st : List Value} {k : Fin 4} {v : Int32} (hl : Ls[k.val]? = some (.val (.int v))) (hd : decode c.code pc = .ok (.iload_n k, 1)) (hp : pc + 1 = pc') (h : own_Go p e below Q F (T.setTop (mkF m pc' Ls (.int v :: st)))) : own_Go p e below Q F (T.setTop (mkF m pc Ls st)) := by
  subst hp
  exact own_by (fun _ q => XS.iloadN X.here hx rfl hd hl q) h
theorem own_iload (X : Stand p l e R s m args below meth c T locs cells slots) (hx : p.tables.exec = Jvm.exec) {pc pc' : Nat} {Ls : Array Slot} {st : List Value} {k : Nat} {v : Int32} (hl : Ls[k]? = some (.val (.int v))) (hd : decode c.code pc = .ok (.iload k, 2)) (hp : pc + 2 = pc') (h : own_Go p e below Q F (T.setTop (mkF m pc' Ls (.int v :: st)))) : own_Go p e below Q F (T.setTop (mkF m pc Ls st)) := by
  subst hp
  exact own_by (fun _ q => XS.iload X.here hx rfl hd hl q) h
theorem own_lloadN (X : Stand p l e R s m args below meth c T locs cells slots) (hx : p.tables.exec = Jvm.exec) {pc pc' : Nat} {Ls : Array Slot} {st : List Value} {k : Fin 4} {v : Int64} (hl : Ls[k.val]? = some (.val (.long v))) (hd : decode c.code pc = .ok (.lload_n k, 1)) (hp : pc + 1 = pc') (h : own_Go p e below Q F (T.setTop (mkF m pc' Ls (.long v :: st)))) : own_Go p e below Q F (T.setTop (mkF m pc Ls st)) := by
  subst hp
  exact own_by (fun _ q => XS.lloadN X.here hx rfl hd hl q) h
theorem own_lload (X : Stand p l e R s m args below meth c T locs cells slots) (hx : p.tables.exec = Jvm.exec) {pc pc' : Nat} {Ls : Array Slot} {st : List Value} {k : Nat} {v : Int64} (hl : Ls[k]? = some (.val (.long v))) (hd : decode c.code pc = .ok (.lload k, 2)) (hp : pc + 2 = pc') (h : own_Go p e below Q F (T.setTop (mkF m pc' Ls (.long v :: st)))) : own_Go p e below Q F (T.setTop (mkF m pc Ls st)) := by
  subst hp
  exact own_by (fun _ q => XS.lload X.here hx rfl hd hl q) h
theorem own_aloadN (X : Stand p l e R s m args below meth c T locs cells slots) (hx : p.tables.exec = Jvm.exec) {pc pc' : Nat} {Ls : Array Slot} {st : List Value} {k : Fin 4} {v : Value} (hl : Ls[k.val]? = some (.val v)) (hv : v.isRef = true) (hd : decode c.code pc = .ok (.aload_n k, 1)) (hp : pc + 1 = pc') (h : own_Go p e below Q F (T.setTop (mkF m pc' Ls (v :: st)))) : own_Go p e below Q F (T.setTop (mkF m pc Ls st)) := by
  subst hp
  exact own_by (fun _ q => XS.aloadN X.here hx rfl hd hl hv q) h
theorem own_aload (X : Stand p l e R s m args below meth c T locs cells slots) (hx : p.tables.exec = Jvm.exec) {pc pc' : Nat} {Ls : Array Slot} {st : List Value} {k : Nat} {v : Value} (hl : Ls[k]? = some (.val v)) (hv : v.isRef = true) (hd : decode c.code pc = .ok (.aload k, 2)) (hp : pc + 2 = pc') (h : own_Go p e below Q F (T.setTop (mkF m pc' Ls (v :: st)))) : own_Go p e below Q F (T.setTop (mkF m pc Ls st)) := by
  subst hp
  exact own_by (fun _ q => XS.aload X.here hx rfl hd hl hv q) h
theorem own_iconst (X : Stand p l e R s m args below meth c T locs cells slots) (hx : p.tables.exec = Jvm.exec) {pc pc' : Nat} {Ls : Array Slot} {st : List Value} {i : Int} (z : Int32) (hz : Int32.ofInt i = z) (hd : decode c.code pc = .ok (.iconst i, 1)) (hp : pc + 1 = pc') (h : own_Go p e below Q F (T.setTop (mkF m pc' Ls (.int z :: st)))) : own_Go p e below Q F (T.setTop (mkF m pc Ls st)) := by
  subst hp hz
  exact own_by (fun _ q => XS.iconst X.here hx rfl hd q) h
theorem own_bipush (X : Stand p l e R s m args below meth c T locs cells slots) (hx : p.tables.exec = Jvm.exec) {pc pc' : Nat} {Ls : Array Slot} {st : List Value} {i : Int} (z : Int32) (hz : (Int8.ofInt i).toInt32 = z) (hd : decode c.code pc = .ok (.bipush i, 2)) (hp : pc + 2 = pc') (h : own_Go p e below Q F (T.setTop (mkF m pc' Ls (.int z :: st)))) : own_Go p e below Q F (T.setTop (mkF m pc Ls st)) := by
  subst hp hz
  exact own_by (fun _ q => XS.bipush X.here hx rfl hd q) h
theorem own_sipush (X : Stand p l e R s m args below meth c T locs cells slots) (hx : p.tables.exec = Jvm.exec) {pc pc' : Nat} {Ls : Array Slot} {st : List Value} {i : Int} (z : Int32) (hz : (Int16.ofInt i).toInt32 = z) (hd : decode c.code pc = .ok (.sipush i, 3)) (hp : pc + 3 = pc') (h : own_Go p e below Q F (T.setTop (mkF m pc' Ls (.int z :: st)))) : own_Go p e below Q F (T.setTop (mkF m pc Ls st)) := by
  subst hp hz
  exact own_by (fun _ q => XS.sipush X.here hx rfl hd q) h
theorem own_lconst (X : Stand p l e R s m args below meth c T locs cells slots) (hx : p.tables.exec = Jvm.exec) {pc pc' : Nat} {Ls : Array Slot} {st : List Value} {k : Fin 2} (z : Int64) (hz : Int64.ofNat k = z) (hd : decode c.code pc = .ok (.lconst k, 1)) (hp : pc + 1 = pc') (h : own_Go p e below Q F (T.setTop (mkF m pc' Ls (.long z :: st)))) : own_Go p e below Q F (T.setTop (mkF m pc Ls st)) := by
  subst hp hz
  exact own_by (fun _ q => XS.lconst X.here hx rfl hd q) h
theorem own_aconstNull (X : Stand p l e R s m args below meth c T locs cells slots) (hx : p.tables.exec = Jvm.exec) {pc pc' : Nat} {Ls : Array Slot} {st : List Value}  (hd : decode c.code pc = .ok (.aconst_null, 1)) (hp : pc + 1 = pc') (h : own_Go p e below Q F (T.setTop (mkF m pc' Ls (.null :: st)))) : own_Go p e below Q F (T.setTop (mkF m pc Ls st)) := by
  subst hp
  exact own_by (fun _ q => XS.aconstNull X.here hx rfl hd q) h
theorem own_iadd (X : Stand p l e R s m args below meth c T locs cells slots) (hx : p.tables.exec = Jvm.exec) {pc pc' : Nat} {Ls : Array Slot} {st : List Value} {x y z : Int32} (hz : x + y = z) (hd : decode c.code pc = .ok (.iadd, 1)) (hp : pc + 1 = pc') (h : own_Go p e below Q F (T.setTop (mkF m pc' Ls (.int z :: st)))) : own_Go p e below Q F (T.setTop (mkF m pc Ls (.int y :: .int x :: st))) := by
  subst hp hz
  exact own_by (fun _ q => XS.iadd X.here hx rfl hd rfl q) h
theorem own_isub (X : Stand p l e R s m args below meth c T locs cells slots) (hx : p.tables.exec = Jvm.exec) {pc pc' : Nat} {Ls : Array Slot} {st : List Value} {x y z : Int32} (hz : x - y = z) (hd : decode c.code pc = .ok (.isub, 1)) (hp : pc + 1 = pc') (h : own_Go p e below Q F (T.setTop (mkF m pc' Ls (.int z :: st)))) : own_Go p e below Q F (T.setTop (mkF m pc Ls (.int y :: .int x :: st))) := by
  subst hp hz
  exact own_by (fun _ q => XS.isub X.here hx rfl hd rfl q) h
theorem own_imul (X : Stand p l e R s m args below meth c T locs cells slots) (hx : p.tables.exec = Jvm.exec) {pc pc' : Nat} {Ls : Array Slot} {st : List Value} {x y z : Int32} (hz : x * y = z) (hd : decode c.code pc = .ok (.imul, 1)) (hp : pc + 1 = pc') (h : own_Go p e below Q F (T.setTop (mkF m pc' Ls (.int z :: st)))) : own_Go p e below Q F (T.setTop (mkF m pc Ls (.int y :: .int x :: st))) := by
  subst hp hz
  exact own_by (fun _ q => XS.imul X.here hx rfl hd rfl q) h
theorem own_iand (X : Stand p l e R s m args below meth c T locs cells slots) (hx : p.tables.exec = Jvm.exec) {pc pc' : Nat} {Ls : Array Slot} {st : List Value} {x y z : Int32} (hz : x &&& y = z) (hd : decode c.code pc = .ok (.iand, 1)) (hp : pc + 1 = pc') (h : own_Go p e below Q F (T.setTop (mkF m pc' Ls (.int z :: st)))) : own_Go p e below Q F (T.setTop (mkF m pc Ls (.int y :: .int x :: st))) := by
  subst hp hz
  exact own_by (fun _ q => XS.iand X.here hx rfl hd rfl q) h
theorem own_ior (X : Stand p l e R s m args below meth c T locs cells slots) (hx : p.tables.exec = Jvm.exec) {pc pc' : Nat} {Ls : Array Slot} {st : List Value} {x y z : Int32} (hz : x ||| y = z) (hd : decode c.code pc = .ok (.ior, 1)) (hp : pc + 1 = pc') (h : own_Go p e below Q F (T.setTop (mkF m pc' Ls (.int z :: st)))) : own_Go p e below Q F (T.setTop (mkF m pc Ls (.int y :: .int x :: st))) := by
  subst hp hz
  exact own_by (fun _ q => XS.ior X.here hx rfl hd rfl q) h
theorem own_ixor (X : Stand p l e R s m args below meth c T locs cells slots) (hx : p.tables.exec = Jvm.exec) {pc pc' : Nat} {Ls : Array Slot} {st : List Value} {x y z : Int32} (hz : x ^^^ y = z) (hd : decode c.code pc = .ok (.ixor, 1)) (hp : pc + 1 = pc') (h : own_Go p e below Q F (T.setTop (mkF m pc' Ls (.int z :: st)))) : own_Go p e below Q F (T.setTop (mkF m pc Ls (.int y :: .int x :: st))) := by
  subst hp hz
  exact own_by (fun _ q => XS.ixor X.here hx rfl hd rfl q) h
theorem own_ishl (X : Stand p l e R s m args below meth c T locs cells slots) (hx : p.tables.exec = Jvm.exec) {pc pc' : Nat} {Ls : Array Slot} {st : List Value} {x y z : Int32} (hz : x <<< (y &&& 31) = z) (hd : decode c.code pc = .ok (.ishl, 1)) (hp : pc + 1 = pc') (h : own_Go p e below Q F (T.setTop (mkF m pc' Ls (.int z :: st)))) : own_Go p e below Q F (T.setTop (mkF m pc Ls (.int y :: .int x :: st))) := by
  subst hp hz
  exact own_by (fun _ q => XS.ishl X.here hx rfl hd rfl q) h
theorem own_ishr (X : Stand p l e R s m args below meth c T locs cells slots) (hx : p.tables.exec = Jvm.exec) {pc pc' : Nat} {Ls : Array Slot} {st : List Value} {x y z : Int32} (hz : x >>> (y &&& 31) = z) (hd : decode c.code pc = .ok (.ishr, 1)) (hp : pc + 1 = pc') (h : own_Go p e below Q F (T.setTop (mkF m pc' Ls (.int z :: st)))) : own_Go p e below Q F (T.setTop (mkF m pc Ls (.int y :: .int x :: st))) := by
  subst hp hz
  exact own_by (fun _ q => XS.ishr X.here hx rfl hd rfl q) h
theorem own_iushr (X : Stand p l e R s m args below meth c T locs cells slots) (hx : p.tables.exec = Jvm.exec) {pc pc' : Nat} {Ls : Array Slot} {st : List Value} {x y z : Int32} (hz : (x.toUInt32 >>> (y &&& 31).toUInt32).toInt32 = z) (hd : decode c.code pc = .ok (.iushr, 1)) (hp : pc + 1 = pc') (h : own_Go p e below Q F (T.setTop (mkF m pc' Ls (.int z :: st)))) : own_Go p e below Q F (T.setTop (mkF m pc Ls (.int y :: .int x :: st))) := by
  subst hp hz
  exact own_by (fun _ q => XS.iushr X.here hx rfl hd rfl q) h
theorem own_idiv (X : Stand p l e R s m args below meth c T locs cells slots) (hx : p.tables.exec = Jvm.exec) {pc pc' : Nat} {Ls : Array Slot} {st : List Value} {x y z : Int32} (hy : y ≠ 0) (hz : x / y = z) (hd : decode c.code pc = .ok (.idiv, 1)) (hp : pc + 1 = pc') (h : own_Go p e below Q F (T.setTop (mkF m pc' Ls (.int z :: st)))) : own_Go p e below Q F (T.setTop (mkF m pc Ls (.int y :: .int x :: st))) := by
  subst hp hz
  exact own_by (fun _ q => XS.idiv X.here hx rfl hd rfl hy q) h
theorem own_irem (X : Stand p l e R s m args below meth c T locs cells slots) (hx : p.tables.exec = Jvm.exec) {pc pc' : Nat} {Ls : Array Slot} {st : List Value} {x y z : Int32} (hy : y ≠ 0) (hz : x % y = z) (hd : decode c.code pc = .ok (.irem, 1)) (hp : pc + 1 = pc') (h : own_Go p e below Q F (T.setTop (mkF m pc' Ls (.int z :: st)))) : own_Go p e below Q F (T.setTop (mkF m pc Ls (.int y :: .int x :: st))) := by
  subst hp hz
  exact own_by (fun _ q => iremM X hx rfl hd rfl hy q) h
theorem own_ladd (X : Stand p l e R s m args below meth c T locs cells slots) (hx : p.tables.exec = Jvm.exec) {pc pc' : Nat} {Ls : Array Slot} {st : List Value} {x y z : Int64} (hz : x + y = z) (hd : decode c.code pc = .ok (.ladd, 1)) (hp : pc + 1 = pc') (h : own_Go p e below Q F (T.setTop (mkF m pc' Ls (.long z :: st)))) : own_Go p e below Q F (T.setTop (mkF m pc Ls (.long y :: .long x :: st))) := by
  subst hp hz
  exact own_by (fun _ q => XS.ladd X.here hx rfl hd rfl q) h
theorem own_lsub (X : Stand p l e R s m args below meth c T locs cells slots) (hx : p.tables.exec = Jvm.exec) {pc pc' : Nat} {Ls : Array Slot} {st : List Value} {x y z : Int64} (hz : x - y = z) (hd : decode c.code pc = .ok (.lsub, 1)) (hp : pc + 1 = pc') (h : own_Go p e below Q F (T.setTop (mkF m pc' Ls (.long z :: st)))) : own_Go p e below Q F (T.setTop (mkF m pc Ls (.long y :: .long x :: st))) := by
  subst hp hz
  exact own_by (fun _ q => XS.lsub X.here hx rfl hd rfl q) h
theorem own_lmul (X : Stand p l e R s m args below meth c T locs cells slots) (hx : p.tables.exec = Jvm.exec) {pc pc' : Nat} {Ls : Array Slot} {st : List Value} {x y z : Int64} (hz : x * y = z) (hd : decode c.code pc = .ok (.lmul, 1)) (hp : pc + 1 = pc') (h : own_Go p e below Q F (T.setTop (mkF m pc' Ls (.long z :: st)))) : own_Go p e below Q F (T.setTop (mkF m pc Ls (.long y :: .long x :: st))) := by
  subst hp hz
  exact own_by (fun _ q => XS.lmul X.here hx rfl hd rfl q) h
theorem own_land (X : Stand p l e R s m args below meth c T locs cells slots) (hx : p.tables.exec = Jvm.exec) {pc pc' : Nat} {Ls : Array Slot} {st : List Value} {x y z : Int64} (hz : x &&& y = z) (hd : decode c.code pc = .ok (.land, 1)) (hp : pc + 1 = pc') (h : own_Go p e below Q F (T.setTop (mkF m pc' Ls (.long z :: st)))) : own_Go p e below Q F (T.setTop (mkF m pc Ls (.long y :: .long x :: st))) := by
  subst hp hz
  exact own_by (fun _ q => XS.land X.here hx rfl hd rfl q) h
theorem own_lor (X : Stand p l e R s m args below meth c T locs cells slots) (hx : p.tables.exec = Jvm.exec) {pc pc' : Nat} {Ls : Array Slot} {st : List Value} {x y z : Int64} (hz : x ||| y = z) (hd : decode c.code pc = .ok (.lor, 1)) (hp : pc + 1 = pc') (h : own_Go p e below Q F (T.setTop (mkF m pc' Ls (.long z :: st)))) : own_Go p e below Q F (T.setTop (mkF m pc Ls (.long y :: .long x :: st))) := by
  subst hp hz
  exact own_by (fun _ q => XS.lor X.here hx rfl hd rfl q) h
theorem own_lcmp (X : Stand p l e R s m args below meth c T locs cells slots) (hx : p.tables.exec = Jvm.exec) {pc pc' : Nat} {Ls : Array Slot} {st : List Value} {x y : Int64} {z : Int32} (hz : lcmpW x y = z) (hd : decode c.code pc = .ok (.lcmp, 1)) (hp : pc + 1 = pc') (h : own_Go p e below Q F (T.setTop (mkF m pc' Ls (.int z :: st)))) : own_Go p e below Q F (T.setTop (mkF m pc Ls (.long y :: .long x :: st))) := by
  subst hp hz
  exact own_by (fun _ q => XS.lcmp X.here hx rfl hd rfl q) h
theorem own_ineg (X : Stand p l e R s m args below meth c T locs cells slots) (hx : p.tables.exec = Jvm.exec) {pc pc' : Nat} {Ls : Array Slot} {st : List Value} {x z : Int32} (hz : -x = z) (hd : decode c.code pc = .ok (.ineg, 1)) (hp : pc + 1 = pc') (h : own_Go p e below Q F (T.setTop (mkF m pc' Ls (.int z :: st)))) : own_Go p e below Q F (T.setTop (mkF m pc Ls (.int x :: st))) := by
  subst hp hz
  exact own_by (fun _ q => XS.ineg X.here hx rfl hd rfl q) h
theorem own_i2l (X : Stand p l e R s m args below meth c T locs cells slots) (hx : p.tables.exec = Jvm.exec) {pc pc' : Nat} {Ls : Array Slot} {st : List Value} {x : Int32} {z : Int64} (hz : x.toInt64 = z) (hd : decode c.code pc = .ok (.i2l, 1)) (hp : pc + 1 = pc') (h : own_Go p e below Q F (T.setTop (mkF m pc' Ls (.long z :: st)))) : own_Go p e below Q F (T.setTop (mkF m pc Ls (.int x :: st))) := by
  subst hp hz
  exact own_by (fun _ q => XS.i2l X.here hx rfl hd rfl q) h
theorem own_l2i (X : Stand p l e R s m args below meth c T locs cells slots) (hx : p.tables.exec = Jvm.exec) {pc pc' : Nat} {Ls : Array Slot} {st : List Value} {x : Int64} {z : Int32} (hz : x.toInt32 = z) (hd : decode c.code pc = .ok (.l2i, 1)) (hp : pc + 1 = pc') (h : own_Go p e below Q F (T.setTop (mkF m pc' Ls (.int z :: st)))) : own_Go p e below Q F (T.setTop (mkF m pc Ls (.long x :: st))) := by
  subst hp hz
  exact own_by (fun _ q => XS.l2i X.here hx rfl hd rfl q) h
theorem own_i2b (X : Stand p l e R s m args below meth c T locs cells slots) (hx : p.tables.exec = Jvm.exec) {pc pc' : Nat} {Ls : Array Slot} {st : List Value} {x z : Int32} (hz : x.toInt8.toInt32 = z) (hd : decode c.code pc = .ok (.i2b, 1)) (hp : pc + 1 = pc') (h : own_Go p e below Q F (T.setTop (mkF m pc' Ls (.int z :: st)))) : own_Go p e below Q F (T.setTop (mkF m pc Ls (.int x :: st))) := by
  subst hp hz
  exact own_by (fun _ q => XS.i2b X.here hx rfl hd rfl q) h
theorem own_i2c (X : Stand p l e R s m args below meth c T locs cells slots) (hx : p.tables.exec = Jvm.exec) {pc pc' : Nat} {Ls : Array Slot} {st : List Value} {x z : Int32} (hz : x.toUInt32.toUInt16.toUInt32.toInt32 = z) (hd : decode c.code pc = .ok (.i2c, 1)) (hp : pc + 1 = pc') (h : own_Go p e below Q F (T.setTop (mkF m pc' Ls (.int z :: st)))) : own_Go p e below Q F (T.setTop (mkF m pc Ls (.int x :: st))) := by
  subst hp hz
  exact own_by (fun _ q => XS.i2c X.here hx rfl hd rfl q) h
theorem own_i2s (X : Stand p l e R s m args below meth c T locs cells slots) (hx : p.tables.exec = Jvm.exec) {pc pc' : Nat} {Ls : Array Slot} {st : List Value} {x z : Int32} (hz : x.toInt16.toInt32 = z) (hd : decode c.code pc = .ok (.i2s, 1)) (hp : pc + 1 = pc') (h : own_Go p e below Q F (T.setTop (mkF m pc' Ls (.int z :: st)))) : own_Go p e below Q F (T.setTop (mkF m pc Ls (.int x :: st))) := by
  subst hp hz
  exact own_by (fun _ q => XS.i2s X.here hx rfl hd rfl q) h
theorem own_dup (X : Stand p l e R s m args below meth c T locs cells slots) (hx : p.tables.exec = Jvm.exec) {pc pc' : Nat} {Ls : Array Slot} {st : List Value} {x : Value} (hc : x.category = 1) (hd : decode c.code pc = .ok (.dup, 1)) (hp : pc + 1 = pc') (h : own_Go p e below Q F (T.setTop (mkF m pc' Ls (x :: x :: st)))) : own_Go p e below Q F (T.setTop (mkF m pc Ls (x :: st))) := by
  subst hp
  exact own_by (fun _ q => XS.dup X.here hx rfl hd rfl hc q) h
theorem own_dupX1 (X : Stand p l e R s m args below meth c T locs cells slots) (hx : p.tables.exec = Jvm.exec) {pc pc' : Nat} {Ls : Array Slot} {st : List Value} {x y : Value} (hc : x.category = 1) (hc2 : y.category = 1) (hd : decode c.code pc = .ok (.dup_x1, 1)) (hp : pc + 1 = pc') (h : own_Go p e below Q F (T.setTop (mkF m pc' Ls (x :: y :: x :: st)))) : own_Go p e below Q F (T.setTop (mkF m pc Ls (x :: y :: st))) := by
  subst hp
  exact own_by (fun _ q => XS.dupX1 X.here hx rfl hd rfl hc hc2 q) h
theorem own_pop (X : Stand p l e R s m args below meth c T locs cells slots) (hx : p.tables.exec = Jvm.exec) {pc pc' : Nat} {Ls : Array Slot} {st : List Value} {x : Value} (hc : x.category = 1) (hd : decode c.code pc = .ok (.pop, 1)) (hp : pc + 1 = pc') (h : own_Go p e below Q F (T.setTop (mkF m pc' Ls st))) : own_Go p e below Q F (T.setTop (mkF m pc Ls (x :: st))) := by
  subst hp
  exact own_by (fun _ q => XS.pop X.here hx rfl hd rfl hc q) h
theorem own_istoreN (X : Stand p l e R s m args below meth c T locs cells slots) (hx : p.tables.exec = Jvm.exec) {pc pc' : Nat} {Ls : Array Slot} {st : List Value} {k : Fin 4} {x : Int32} (L' : Array Slot) (hl : storeLocals Ls k.val (.int x) = some L') (hd : decode c.code pc = .ok (.istore_n k, 1)) (hp : pc + 1 = pc') (h : own_Go p e below Q F (T.setTop (mkF m pc' L' st))) : own_Go p e below Q F (T.setTop (mkF m pc Ls (.int x :: st))) := by
  subst hp
  exact own_by (fun _ q => XS.istoreN X.here hx rfl hd rfl hl q) h
theorem own_istore (X : Stand p l e R s m args below meth c T locs cells slots) (hx : p.tables.exec = Jvm.exec) {pc pc' : Nat} {Ls : Array Slot} {st : List Value} {k : Nat} {x : Int32} (L' : Array Slot) (hl : storeLocals Ls k (.int x) = some L') (hd : decode c.code pc = .ok (.istore k, 2)) (hp : pc + 2 = pc') (h : own_Go p e below Q F (T.setTop (mkF m pc' L' st))) : own_Go p e below Q F (T.setTop (mkF m pc Ls (.int x :: st))) := by
  subst hp
  exact own_by (fun _ q => XS.istore X.here hx rfl hd rfl hl q) h
theorem own_lstoreN (X : Stand p l e R s m args below meth c T locs cells slots) (hx : p.tables.exec = Jvm.exec) {pc pc' : Nat} {Ls : Array Slot} {st : List Value} {k : Fin 4} {x : Int64} (L' : Array Slot) (hl : storeLocals Ls k.val (.long x) = some L') (hd : decode c.code pc = .ok (.lstore_n k, 1)) (hp : pc + 1 = pc') (h : own_Go p e below Q F (T.setTop (mkF m pc' L' st))) : own_Go p e below Q F (T.setTop (mkF m pc Ls (.long x :: st))) := by
  subst hp
  exact own_by (fun _ q => XS.lstoreN X.here hx rfl hd rfl hl q) h
theorem own_lstore (X : Stand p l e R s m args below meth c T locs cells slots) (hx : p.tables.exec = Jvm.exec) {pc pc' : Nat} {Ls : Array Slot} {st : List Value} {k : Nat} {x : Int64} (L' : Array Slot) (hl : storeLocals Ls k (.long x) = some L') (hd : decode c.code pc = .ok (.lstore k, 2)) (hp : pc + 2 = pc') (h : own_Go p e below Q F (T.setTop (mkF m pc' L' st))) : own_Go p e below Q F (T.setTop (mkF m pc Ls (.long x :: st))) := by
  subst hp
  exact own_by (fun _ q => XS.lstore X.here hx rfl hd rfl hl q) h
theorem own_astoreN (X : Stand p l e R s m args below meth c T locs cells slots) (hx : p.tables.exec = Jvm.exec) {pc pc' : Nat} {Ls : Array Slot} {st : List Value} {k : Fin 4} {x : Value} (L' : Array Slot) (hv : x.isRef = true) (hl : storeLocals Ls k.val x = some L') (hd : decode c.code pc = .ok (.astore_n k, 1)) (hp : pc + 1 = pc') (h : own_Go p e below Q F (T.setTop (mkF m pc' L' st))) : own_Go p e below Q F (T.setTop (mkF m pc Ls (x :: st))) := by
  subst hp
  exact own_by (fun _ q => XS.astoreN X.here hx rfl hd rfl hv hl q) h
theorem own_astore (X : Stand p l e R s m args below meth c T locs cells slots) (hx : p.tables.exec = Jvm.exec) {pc pc' : Nat} {Ls : Array Slot} {st : List Value} {k : Nat} {x : Value} (L' : Array Slot) (hv : x.isRef = true) (hl : storeLocals Ls k x = some L') (hd : decode c.code pc = .ok (.astore k, 2)) (hp : pc + 2 = pc') (h : own_Go p e below Q F (T.setTop (mkF m pc' L' st))) : own_Go p e below Q F (T.setTop (mkF m pc Ls (x :: st))) := by
  subst hp
  exact own_by (fun _ q => XS.astore X.here hx rfl hd rfl hv hl q) h
theorem own_iinc (X : Stand p l e R s m args below meth c T locs cells slots) (hx : p.tables.exec = Jvm.exec) {pc pc' : Nat} {Ls : Array Slot} {st : List Value} {k : Nat} {cst : Int} {x z : Int32} (L' : Array Slot) (hv : Ls[k]? = some (.val (.int x))) (hz : x + Int32.ofInt cst = z) (hl : storeLocals Ls k (.int z) = some L') (hd : decode c.code pc = .ok (.iinc k cst, 3)) (hp : pc + 3 = pc') (h : own_Go p e below Q F (T.setTop (mkF m pc' L' st))) : own_Go p e below Q F (T.setTop (mkF m pc Ls st)) := by
  subst hp hz
  exact own_by (fun _ q => XS.iinc X.here hx rfl hd hv hl q) h
theorem own_goto (X : Stand p l e R s m args below meth c T locs cells slots) (hx : p.tables.exec = Jvm.exec) {pc pc' : Nat} {Ls : Array Slot} {st : List Value} {o : Int}  (hd : decode c.code pc = .ok (.goto o, 3))  (ho : 0 ≤ (pc : Int) + o) (hp : ((pc : Int) + o).toNat = pc') (h : own_Go p e below Q F (T.setTop (mkF m pc' Ls st))) : own_Go p e below Q F (T.setTop (mkF m pc Ls st)) := by
  exact own_by (fun _ q => XS.goto X.here hx rfl rfl hd ho hp q) h
theorem own_ifYes (X : Stand p l e R s m args below meth c T locs cells slots) (hx : p.tables.exec = Jvm.exec) {pc pc' : Nat} {Ls : Array Slot} {st : List Value} {o : Int} {cd : ClassFile.Cond} {x : Int32} (hd : decode c.code pc = .ok (.ifCond cd o, 3)) (hc : ifCond.holds cd x = true) (ho : 0 ≤ (pc : Int) + o) (hp : ((pc : Int) + o).toNat = pc') (h : own_Go p e below Q F (T.setTop (mkF m pc' Ls st))) : own_Go p e below Q F (T.setTop (mkF m pc Ls (.int x :: st))) := by
  exact own_by (fun _ q => XS.ifYes X.here hx rfl rfl hd rfl hc ho hp q) h
theorem own_icmpYes (X : Stand p l e R s m args below meth c T locs cells slots) (hx : p.tables.exec = Jvm.exec) {pc pc' : Nat} {Ls : Array Slot} {st : List Value} {o : Int} {cd : ClassFile.Cond} {x y : Int32} (hd : decode c.code pc = .ok (.if_icmp cd o, 3)) (hc : if_icmp.holds cd x y = true) (ho : 0 ≤ (pc : Int) + o) (hp : ((pc : Int) + o).toNat = pc') (h : own_Go p e below Q F (T.setTop (mkF m pc' Ls st))) : own_Go p e below Q F (T.setTop (mkF m pc Ls (.int y :: .int x :: st))) := by
  exact own_by (fun _ q => XS.icmpYes X.here hx rfl rfl hd rfl hc ho hp q) h
theorem own_ifnullYes (X : Stand p l e R s m args below meth c T locs cells slots) (hx : p.tables.exec = Jvm.exec) {pc pc' : Nat} {Ls : Array Slot} {st : List Value} {o : Int}  (hd : decode c.code pc = .ok (.ifnull o, 3))  (ho : 0 ≤ (pc : Int) + o) (hp : ((pc : Int) + o).toNat = pc') (h : own_Go p e below Q F (T.setTop (mkF m pc' Ls st))) : own_Go p e below Q F (T.setTop (mkF m pc Ls (.null :: st))) := by
  exact own_by (fun _ q => XS.ifnullYes X.here hx rfl rfl hd rfl ho hp q) h
theorem own_ifnonnullYes (X : Stand p l e R s m args below meth c T locs cells slots) (hx : p.tables.exec = Jvm.exec) {pc pc' : Nat} {Ls : Array Slot} {st : List Value} {o : Int} {b : Addr} (hd : decode c.code pc = .ok (.ifnonnull o, 3))  (ho : 0 ≤ (pc : Int) + o) (hp : ((pc : Int) + o).toNat = pc') (h : own_Go p e below Q F (T.setTop (mkF m pc' Ls st))) : own_Go p e below Q F (T.setTop (mkF m pc Ls (.ref b :: st))) := by
  exact own_by (fun _ q => XS.ifnonnullYes X.here hx rfl rfl hd rfl ho hp q) h
theorem own_acmpYes (X : Stand p l e R s m args below meth c T locs cells slots) (hx : p.tables.exec = Jvm.exec) {pc pc' : Nat} {Ls : Array Slot} {st : List Value} {o : Int} {cd : ClassFile.ACond} {a b : Addr} (hd : decode c.code pc = .ok (.if_acmp cd o, 3)) (hc : if_acmp.holds cd (some a) (some b) = true) (ho : 0 ≤ (pc : Int) + o) (hp : ((pc : Int) + o).toNat = pc') (h : own_Go p e below Q F (T.setTop (mkF m pc' Ls st))) : own_Go p e below Q F (T.setTop (mkF m pc Ls (.ref b :: .ref a :: st))) := by
  exact own_by (fun _ q => XS.acmpYes X.here hx rfl rfl hd rfl hc ho hp q) h
theorem own_ifNo (X : Stand p l e R s m args below meth c T locs cells slots) (hx : p.tables.exec = Jvm.exec) {pc pc' : Nat} {Ls : Array Slot} {st : List Value} {cd : ClassFile.Cond} {x : Int32} {o : Int} (hc : ifCond.holds cd x = false) (hd : decode c.code pc = .ok (.ifCond cd o, 3)) (hp : pc + 3 = pc') (h : own_Go p e below Q F (T.setTop (mkF m pc' Ls st))) : own_Go p e below Q F (T.setTop (mkF m pc Ls (.int x :: st))) := by
  subst hp
  exact own_by (fun _ q => XS.ifNo X.here hx rfl hd rfl hc q) h
theorem own_icmpNo (X : Stand p l e R s m args below meth c T locs cells slots) (hx : p.tables.exec = Jvm.exec) {pc pc' : Nat} {Ls : Array Slot} {st : List Value} {cd : ClassFile.Cond} {x y : Int32} {o : Int} (hc : if_icmp.holds cd x y = false) (hd : decode c.code pc = .ok (.if_icmp cd o, 3)) (hp : pc + 3 = pc') (h : own_Go p e below Q F (T.setTop (mkF m pc' Ls st))) : own_Go p e below Q F (T.setTop (mkF m pc Ls (.int y :: .int x :: st))) := by
  subst hp
  exact own_by (fun _ q => XS.icmpNo X.here hx rfl hd rfl hc q) h
theorem own_ifnullNo (X : Stand p l e R s m args below meth c T locs cells slots) (hx : p.tables.exec = Jvm.exec) {pc pc' : Nat} {Ls : Array Slot} {st : List Value} {b : Addr} {o : Int}  (hd : decode c.code pc = .ok (.ifnull o, 3)) (hp : pc + 3 = pc') (h : own_Go p e below Q F (T.setTop (mkF m pc' Ls st))) : own_Go p e below Q F (T.setTop (mkF m pc Ls (.ref b :: st))) := by
  subst hp
  exact own_by (fun _ q => XS.ifnullNo X.here hx rfl hd rfl q) h
theorem own_ifnonnullNo (X : Stand p l e R s m args below meth c T locs cells slots) (hx : p.tables.exec = Jvm.exec) {pc pc' : Nat} {Ls : Array Slot} {st : List Value} {o : Int}  (hd : decode c.code pc = .ok (.ifnonnull o, 3)) (hp : pc + 3 = pc') (h : own_Go p e below Q F (T.setTop (mkF m pc' Ls st))) : own_Go p e below Q F (T.setTop (mkF m pc Ls (.null :: st))) := by
  subst hp
  exact own_by (fun _ q => XS.ifnonnullNo X.here hx rfl hd rfl q) h
theorem own_acmpNo (X : Stand p l e R s m args below meth c T locs cells slots) (hx : p.tables.exec = Jvm.exec) {pc pc' : Nat} {Ls : Array Slot} {st : List Value} {cd : ClassFile.ACond} {a b : Addr} {o : Int} (hc : if_acmp.holds cd (some a) (some b) = false) (hd : decode c.code pc = .ok (.if_acmp cd o, 3)) (hp : pc + 3 = pc') (h : own_Go p e below Q F (T.setTop (mkF m pc' Ls st))) : own_Go p e below Q F (T.setTop (mkF m pc Ls (.ref b :: .ref a :: st))) := by
  subst hp
  exact own_by (fun _ q => XS.acmpNo X.here hx rfl hd rfl hc q) h
theorem own_ldcInt (X : Stand p l e R s m args below meth c T locs cells slots) (hx : p.tables.exec = Jvm.exec) {pc pc' : Nat} {Ls : Array Slot} {st : List Value} {Z : State} {a0 : Array Value} {own : String} {index : Nat} {v : Int32} (hZ : Z.Warmed39 s.vm) (hown : s.vm.findClass own = some m.cls) (w : (Jvm.Cond.constant own index v).before a0 Z = true) (hd : decode c.code pc = .ok (.ldc index, 2)) (hp : pc + 2 = pc') (h : own_Go p e below Q F (T.setTop (mkF m pc' Ls (.int v :: st)))) : own_Go p e below Q F (T.setTop (mkF m pc Ls st)) := by
  subst hp
  exact own_by (fun _ q => X.ldcInt hx hown (mv hZ w) (g := mkF m pc Ls st) rfl hd _ q) h
theorem own_ldc2Long (X : Stand p l e R s m args below meth c T locs cells slots) (hx : p.tables.exec = Jvm.exec) {pc pc' : Nat} {Ls : Array Slot} {st : List Value} {Z : State} {a0 : Array Value} {own : String} {index : Nat} {v : Int64} (hZ : Z.Warmed39 s.vm) (hown : s.vm.findClass own = some m.cls) (w : (Jvm.Cond.constantLong own index v).before a0 Z = true) (hd : decode c.code pc = .ok (.ldc2_w index, 3)) (hp : pc + 3 = pc') (h : own_Go p e below Q F (T.setTop (mkF m pc' Ls (.long v :: st)))) : own_Go p e below Q F (T.setTop (mkF m pc Ls st)) := by
  subst hp
  exact own_by (fun _ q => X.ldc2Long hx hown (mv hZ w) (g := mkF m pc Ls st) rfl hd _ q) h
theorem own_lyes_lt {x y : Int64} {a b : Int} (ha : x.toInt = a) (hb : y.toInt = b) (h : a < b) : ifCond.holds .lt (lcmpW x y) = true := by
  have q := own_lcm ha hb
  have r :  (lcmpW x y).toInt < 0 := by omega
  exact own_z (own_yes_lt rfl rfl r)
theorem own_lno_lt {x y : Int64} {a b : Int} (ha : x.toInt = a) (hb : y.toInt = b) (h : ¬ a < b) : ifCond.holds .lt (lcmpW x y) = false := by
  have q := own_lcm ha hb
  have r : ¬ (lcmpW x y).toInt < 0 := by omega
  exact own_z (own_no_lt rfl rfl r)
theorem own_lyes_ge {x y : Int64} {a b : Int} (ha : x.toInt = a) (hb : y.toInt = b) (h : ¬ a < b) : ifCond.holds .ge (lcmpW x y) = true := by
  have q := own_lcm ha hb
  have r : ¬ (lcmpW x y).toInt < 0 := by omega
  exact own_z (own_yes_ge rfl rfl r)
theorem own_lno_ge {x y : Int64} {a b : Int} (ha : x.toInt = a) (hb : y.toInt = b) (h : a < b) : ifCond.holds .ge (lcmpW x y) = false := by
  have q := own_lcm ha hb
  have r :  (lcmpW x y).toInt < 0 := by omega
  exact own_z (own_no_ge rfl rfl r)
theorem own_lyes_gt {x y : Int64} {a b : Int} (ha : x.toInt = a) (hb : y.toInt = b) (h : b < a) : ifCond.holds .gt (lcmpW x y) = true := by
  have q := own_lcm ha hb
  have r :  0 < (lcmpW x y).toInt := by omega
  exact own_z (own_yes_gt rfl rfl r)
theorem own_lno_gt {x y : Int64} {a b : Int} (ha : x.toInt = a) (hb : y.toInt = b) (h : ¬ b < a) : ifCond.holds .gt (lcmpW x y) = false := by
  have q := own_lcm ha hb
  have r : ¬ 0 < (lcmpW x y).toInt := by omega
  exact own_z (own_no_gt rfl rfl r)
theorem own_lyes_le {x y : Int64} {a b : Int} (ha : x.toInt = a) (hb : y.toInt = b) (h : ¬ b < a) : ifCond.holds .le (lcmpW x y) = true := by
  have q := own_lcm ha hb
  have r : ¬ 0 < (lcmpW x y).toInt := by omega
  exact own_z (own_yes_le rfl rfl r)
theorem own_lno_le {x y : Int64} {a b : Int} (ha : x.toInt = a) (hb : y.toInt = b) (h : b < a) : ifCond.holds .le (lcmpW x y) = false := by
  have q := own_lcm ha hb
  have r :  0 < (lcmpW x y).toInt := by omega
  exact own_z (own_no_le rfl rfl r)
theorem own_lyes_eq {x y : Int64} {a b : Int} (ha : x.toInt = a) (hb : y.toInt = b) (h : a = b) : ifCond.holds .eq (lcmpW x y) = true := by
  have q := own_lcm ha hb
  have r :  (lcmpW x y).toInt = 0 := by omega
  exact own_z (own_yes_eq rfl rfl r)
theorem own_lno_eq {x y : Int64} {a b : Int} (ha : x.toInt = a) (hb : y.toInt = b) (h : ¬ a = b) : ifCond.holds .eq (lcmpW x y) = false := by
  have q := own_lcm ha hb
  have r : ¬ (lcmpW x y).toInt = 0 := by omega
  exact own_z (own_no_eq rfl rfl r)
theorem own_lyes_ne {x y : Int64} {a b : Int} (ha : x.toInt = a) (hb : y.toInt = b) (h : ¬ a = b) : ifCond.holds .ne (lcmpW x y) = true := by
  have q := own_lcm ha hb
  have r : ¬ (lcmpW x y).toInt = 0 := by omega
  exact own_z (own_yes_ne rfl rfl r)
theorem own_lno_ne {x y : Int64} {a b : Int} (ha : x.toInt = a) (hb : y.toInt = b) (h : a = b) : ifCond.holds .ne (lcmpW x y) = false := by
  have q := own_lcm ha hb
  have r :  (lcmpW x y).toInt = 0 := by omega
  exact own_z (own_no_ne rfl rfl r)
theorem own_tswIn (X : Stand p l e R s m args below meth c T locs cells slots) (hx : p.tables.exec = Jvm.exec) {pc pc' : Nat} {Ls : Array Slot} {st : List Value} {dflt low high : Int} {offs : Array Int} {len : Nat} (o : Int) {i : Int32} (hd : decode c.code pc = .ok (.tableswitch dflt low high offs, len)) (hin : ¬ (i.toInt < low ∨ i.toInt > high)) (hoff : offs[(i.toInt - low).toNat]? = some o) (ho : 0 ≤ (pc : Int) + o) (hp : ((pc : Int) + o).toNat = pc') (h : own_Go p e below Q F (T.setTop (mkF m pc' Ls st))) : own_Go p e below Q F (T.setTop (mkF m pc Ls (.int i :: st))) := by
  exact own_by (fun _ q => XS.tswIn X.here hx rfl rfl hd rfl hin hoff ho hp q) h
theorem own_tswOut (X : Stand p l e R s m args below meth c T locs cells slots) (hx : p.tables.exec = Jvm.exec) {pc pc' : Nat} {Ls : Array Slot} {st : List Value} {dflt low high : Int} {offs : Array Int} {len : Nat} {i : Int32} (hd : decode c.code pc = .ok (.tableswitch dflt low high offs, len)) (hout : i.toInt < low ∨ i.toInt > high) (ho : 0 ≤ (pc : Int) + dflt) (hp : ((pc : Int) + dflt).toNat = pc') (h : own_Go p e below Q F (T.setTop (mkF m pc' Ls st))) : own_Go p e below Q F (T.setTop (mkF m pc Ls (.int i :: st))) := by
  exact own_by (fun _ q => XS.tswOut X.here hx rfl rfl hd rfl hout ho hp q) h
end OwnKit
theorem own_fldv {args : Array Value} {s : State} {t : Term} {a : Addr} {C n d : String} {k : Int32} (ht : t.eval args s none [] s = some (.ref a)) (h : (Jvm.Cond.eq (Term.field t C n d) (Term.int k)).value args s none s [] = some true) : s.fieldOf? a C n d = some (.int k) := by
  have e := fld_at (C := C) (n := n) (dd := d) ht
  simp only [Cond.value, e, Term.int_eval] at h
  cases hf : s.fieldOf? a C n d with
  | none => rw [hf] at h; simp at h
  | some v =>
    rw [hf] at h
    cases v <;> simp at h
    rw [h]
theorem pd_0 : parseMethodDescriptor "(I)Lcom/example/handclasp/handclasp/Binding;" = some ⟨[.int], some (.object "com/example/handclasp/handclasp/Binding")⟩ := by decide +kernel
theorem d10_0 : decode method_2_code 0 = .ok (.iload_n 0, 1) := by decide +kernel
theorem d10_1 : decode method_2_code 1 = .ok (.ifCond .ne 7, 3) := by decide +kernel
theorem d10_4 : decode method_2_code 4 = .ok (.getstatic 7, 3) := by decide +kernel
theorem d10_7 : decode method_2_code 7 = .ok (.areturn, 1) := by decide +kernel
theorem d10_8 : decode method_2_code 8 = .ok (.iload_n 0, 1) := by decide +kernel
theorem d10_9 : decode method_2_code 9 = .ok (.iconst 1, 1) := by decide +kernel
theorem d10_10 : decode method_2_code 10 = .ok (.if_icmp .ne 7, 3) := by decide +kernel
theorem d10_13 : decode method_2_code 13 = .ok (.getstatic 13, 3) := by decide +kernel
theorem d10_16 : decode method_2_code 16 = .ok (.areturn, 1) := by decide +kernel
theorem d10_17 : decode method_2_code 17 = .ok (.getstatic 16, 3) := by decide +kernel
theorem d10_20 : decode method_2_code 20 = .ok (.areturn, 1) := by decide +kernel
theorem pn_0 : plainName "com/example/handclasp/handclasp/BindingAnswersPinLaw" = true := by first | (simp [plainName, overriddenIn]; done) | decide +kernel
theorem ef_10 (m : MethodId)  : entryFrame m #[(.int (0 : Int32))] 1 = mkF m 0 #[.val (.int (0 : Int32))] [] := by first | (simp [entryFrame, mkF, argsToLocals, Value.category, maxLocals]; done) | rfl
def Q10 (Z : State)  (aN : Addr) (h0 : Heap) (n0 : Nat) (v : Option Value) (h : Heap) (L : List Loc) : Prop := v = some (.ref aN) ∧ (True) ∧ Fr n0 L ∧ h = h0
set_option maxRecDepth 65536 in
set_option maxHeartbeats 40000000 in
theorem rm10 (l : Launch) (Z : State) (a0 : Array Value) (hw : ∀ d ∈ tables_1, d.before a0 Z = true) (ws : List Jvm.Cond)  (aN : Addr) (h0 : Heap) (n0 : Nat) (Z0 : n0 ≤ h0.size) (S_NONE : Sta Z h0 "com/example/handclasp/handclasp/Binding" "NONE" "Lcom/example/handclasp/handclasp/Binding;" (.ref aN)) :
    MetFree l (⟨"com/example/handclasp/handclasp/BindingAnswersPinLaw", "pick", "(I)Lcom/example/handclasp/handclasp/Binding;"⟩ : MethodName) (head1 (Jvm.Cond.code (⟨"com/example/handclasp/handclasp/BindingAnswersPinLaw", "pick", "(I)Lcom/example/handclasp/handclasp/Binding;"⟩ : MethodName) method_2_code 1 (some (.object "com/example/handclasp/handclasp/Binding")) :: ws) ({ frames := 0, cells := 0, slots := 0, locals := 0 } : Room)) (fun a U => a = #[(.int (0 : Int32))] ∧ Z.Warmed39 U.vm ∧ U.heap = h0) (fun _ _ _ _ _ => True) (fun _ U o U' => ∃ v L, o = .returned v ∧ Q10 Z aN h0 n0 v U'.heap L ∧ FrameEnd U o U' L ({ frames := 0, cells := 0, slots := 0, locals := 0 } : Room).cells ({ frames := 0, cells := 0, slots := 0, locals := 0 } : Room).slots) := by
  refine MetFree.of_bodySF (plainFor_of_name pn_0) hisR ?_
  intro p e s m args below meth c s₁ Bd hml0 hP hK
  obtain ⟨rfl, hZ, hh⟩ := hP
  have hx := Bd.exec
  have hby := Bd.bytes
  have hml : c.maxLocals = 1 := hml0
  have hown : s.vm.findClass "com/example/handclasp/handclasp/BindingAnswersPinLaw" = some m.cls := findClass_of_methodNamed Bd.named
  have hnm := (name_of_methodNamed Bd.named Bd.method).1
  have X0 : Stand p l e ({ frames := 0, cells := 0, slots := 0, locals := 0 } : Room) s m #[(.int (0 : Int32))] below meth c s₁ [] 0 0 := Stand.of_body Bd
  have e0 : s₁.heap = h0 := by rw [← hh, Bd.state]; rfl
  have N0 := Fr.nil n0
  change own_Go p e below (Q10 Z aN h0 n0) (own_Fr s ({ frames := 0, cells := 0, slots := 0, locals := 0 } : Room).cells ({ frames := 0, cells := 0, slots := 0, locals := 0 } : Room).slots) (s₁.setTop (entryFrame m #[(.int (0 : Int32))] 1))
  rw [ef_10 m ]
  refine own_iloadN (pc' := 1) X0 hx rfl (hb hby d10_0) rfl ?_
  refine own_ifNo (pc' := 4) X0 hx (by decide) (hb hby d10_1) rfl ?_
  obtain ⟨T1, X1, e1, st1⟩ := getS X0 hx hZ (host := "") hown (hw _ (List.mem_of_getElem? (i := 5) rfl)) Via.refl e0 S_NONE (g := (mkF m 4 #[.val (.int (0 : Int32))] [])) rfl (hb hby d10_4)
  refine own_by st1 ?_
  show own_Go p e below (Q10 Z aN h0 n0) (own_Fr s ({ frames := 0, cells := 0, slots := 0, locals := 0 } : Room).cells ({ frames := 0, cells := 0, slots := 0, locals := 0 } : Room).slots) (T1.setTop (mkF m 7 #[.val (.int (0 : Int32))] [(.ref aN)]))
  refine own_ret X1 hx Bd.returns Bd.notSynchronized (Or.inr (Or.inr (Or.inr (Or.inr ⟨rfl, rfl, rfl⟩)))) (hb hby d10_7) rfl (by decide) (by decide) ?_
  show Q10 Z aN h0 n0 _ T1.heap _
  rw [e1]
  exact ⟨rfl, trivial, N0, rfl⟩
theorem ef_11 (m : MethodId)  : entryFrame m #[(.int (1 : Int32))] 1 = mkF m 0 #[.val (.int (1 : Int32))] [] := by first | (simp [entryFrame, mkF, argsToLocals, Value.category, maxLocals]; done) | rfl
def Q11 (Z : State)  (aU : Addr) (h0 : Heap) (n0 : Nat) (v : Option Value) (h : Heap) (L : List Loc) : Prop := v = some (.ref aU) ∧ (True) ∧ Fr n0 L ∧ h = h0
set_option maxRecDepth 65536 in
set_option maxHeartbeats 40000000 in
theorem rm11 (l : Launch) (Z : State) (a0 : Array Value) (hw : ∀ d ∈ tables_1, d.before a0 Z = true) (ws : List Jvm.Cond)  (aU : Addr) (h0 : Heap) (n0 : Nat) (Z0 : n0 ≤ h0.size) (S_USED : Sta Z h0 "com/example/handclasp/handclasp/Binding" "USED" "Lcom/example/handclasp/handclasp/Binding;" (.ref aU)) :
    MetFree l (⟨"com/example/handclasp/handclasp/BindingAnswersPinLaw", "pick", "(I)Lcom/example/handclasp/handclasp/Binding;"⟩ : MethodName) (head1 (Jvm.Cond.code (⟨"com/example/handclasp/handclasp/BindingAnswersPinLaw", "pick", "(I)Lcom/example/handclasp/handclasp/Binding;"⟩ : MethodName) method_2_code 1 (some (.object "com/example/handclasp/handclasp/Binding")) :: ws) ({ frames := 0, cells := 0, slots := 0, locals := 0 } : Room)) (fun a U => a = #[(.int (1 : Int32))] ∧ Z.Warmed39 U.vm ∧ U.heap = h0) (fun _ _ _ _ _ => True) (fun _ U o U' => ∃ v L, o = .returned v ∧ Q11 Z aU h0 n0 v U'.heap L ∧ FrameEnd U o U' L ({ frames := 0, cells := 0, slots := 0, locals := 0 } : Room).cells ({ frames := 0, cells := 0, slots := 0, locals := 0 } : Room).slots) := by
  refine MetFree.of_bodySF (plainFor_of_name pn_0) hisR ?_
  intro p e s m args below meth c s₁ Bd hml0 hP hK
  obtain ⟨rfl, hZ, hh⟩ := hP
  have hx := Bd.exec
  have hby := Bd.bytes
  have hml : c.maxLocals = 1 := hml0
  have hown : s.vm.findClass "com/example/handclasp/handclasp/BindingAnswersPinLaw" = some m.cls := findClass_of_methodNamed Bd.named
  have hnm := (name_of_methodNamed Bd.named Bd.method).1
  have X0 : Stand p l e ({ frames := 0, cells := 0, slots := 0, locals := 0 } : Room) s m #[(.int (1 : Int32))] below meth c s₁ [] 0 0 := Stand.of_body Bd
  have e0 : s₁.heap = h0 := by rw [← hh, Bd.state]; rfl
  have N0 := Fr.nil n0
  change own_Go p e below (Q11 Z aU h0 n0) (own_Fr s ({ frames := 0, cells := 0, slots := 0, locals := 0 } : Room).cells ({ frames := 0, cells := 0, slots := 0, locals := 0 } : Room).slots) (s₁.setTop (entryFrame m #[(.int (1 : Int32))] 1))
  rw [ef_11 m ]
  refine own_iloadN (pc' := 1) X0 hx rfl (hb hby d10_0) rfl ?_
  refine own_ifYes (pc' := 8) X0 hx (hb hby d10_1) (by decide) (by decide) (by decide) ?_
  refine own_iloadN (pc' := 9) X0 hx rfl (hb hby d10_8) rfl ?_
  refine own_iconst (pc' := 10) X0 hx (1 : Int32) (by decide) (hb hby d10_9) rfl ?_
  refine own_icmpNo (pc' := 13) X0 hx (by decide) (hb hby d10_10) rfl ?_
  obtain ⟨T1, X1, e1, st1⟩ := getS X0 hx hZ (host := "") hown (hw _ (List.mem_of_getElem? (i := 19) rfl)) Via.refl e0 S_USED (g := (mkF m 13 #[.val (.int (1 : Int32))] [])) rfl (hb hby d10_13)
  refine own_by st1 ?_
  show own_Go p e below (Q11 Z aU h0 n0) (own_Fr s ({ frames := 0, cells := 0, slots := 0, locals := 0 } : Room).cells ({ frames := 0, cells := 0, slots := 0, locals := 0 } : Room).slots) (T1.setTop (mkF m 16 #[.val (.int (1 : Int32))] [(.ref aU)]))
  refine own_ret X1 hx Bd.returns Bd.notSynchronized (Or.inr (Or.inr (Or.inr (Or.inr ⟨rfl, rfl, rfl⟩)))) (hb hby d10_16) rfl (by decide) (by decide) ?_
  show Q11 Z aU h0 n0 _ T1.heap _
  rw [e1]
  exact ⟨rfl, trivial, N0, rfl⟩
theorem ef_12 (m : MethodId)  : entryFrame m #[(.int (2 : Int32))] 1 = mkF m 0 #[.val (.int (2 : Int32))] [] := by first | (simp [entryFrame, mkF, argsToLocals, Value.category, maxLocals]; done) | rfl
def Q12 (Z : State)  (aC : Addr) (h0 : Heap) (n0 : Nat) (v : Option Value) (h : Heap) (L : List Loc) : Prop := v = some (.ref aC) ∧ (True) ∧ Fr n0 L ∧ h = h0
set_option maxRecDepth 65536 in
set_option maxHeartbeats 40000000 in
theorem rm12 (l : Launch) (Z : State) (a0 : Array Value) (hw : ∀ d ∈ tables_1, d.before a0 Z = true) (ws : List Jvm.Cond)  (aC : Addr) (h0 : Heap) (n0 : Nat) (Z0 : n0 ≤ h0.size) (S_CREATED : Sta Z h0 "com/example/handclasp/handclasp/Binding" "CREATED" "Lcom/example/handclasp/handclasp/Binding;" (.ref aC)) :
    MetFree l (⟨"com/example/handclasp/handclasp/BindingAnswersPinLaw", "pick", "(I)Lcom/example/handclasp/handclasp/Binding;"⟩ : MethodName) (head1 (Jvm.Cond.code (⟨"com/example/handclasp/handclasp/BindingAnswersPinLaw", "pick", "(I)Lcom/example/handclasp/handclasp/Binding;"⟩ : MethodName) method_2_code 1 (some (.object "com/example/handclasp/handclasp/Binding")) :: ws) ({ frames := 0, cells := 0, slots := 0, locals := 0 } : Room)) (fun a U => a = #[(.int (2 : Int32))] ∧ Z.Warmed39 U.vm ∧ U.heap = h0) (fun _ _ _ _ _ => True) (fun _ U o U' => ∃ v L, o = .returned v ∧ Q12 Z aC h0 n0 v U'.heap L ∧ FrameEnd U o U' L ({ frames := 0, cells := 0, slots := 0, locals := 0 } : Room).cells ({ frames := 0, cells := 0, slots := 0, locals := 0 } : Room).slots) := by
  refine MetFree.of_bodySF (plainFor_of_name pn_0) hisR ?_
  intro p e s m args below meth c s₁ Bd hml0 hP hK
  obtain ⟨rfl, hZ, hh⟩ := hP
  have hx := Bd.exec
  have hby := Bd.bytes
  have hml : c.maxLocals = 1 := hml0
  have hown : s.vm.findClass "com/example/handclasp/handclasp/BindingAnswersPinLaw" = some m.cls := findClass_of_methodNamed Bd.named
  have hnm := (name_of_methodNamed Bd.named Bd.method).1
  have X0 : Stand p l e ({ frames := 0, cells := 0, slots := 0, locals := 0 } : Room) s m #[(.int (2 : Int32))] below meth c s₁ [] 0 0 := Stand.of_body Bd
  have e0 : s₁.heap = h0 := by rw [← hh, Bd.state]; rfl
  have N0 := Fr.nil n0
  change own_Go p e below (Q12 Z aC h0 n0) (own_Fr s ({ frames := 0, cells := 0, slots := 0, locals := 0 } : Room).cells ({ frames := 0, cells := 0, slots := 0, locals := 0 } : Room).slots) (s₁.setTop (entryFrame m #[(.int (2 : Int32))] 1))
  rw [ef_12 m ]
  refine own_iloadN (pc' := 1) X0 hx rfl (hb hby d10_0) rfl ?_
  refine own_ifYes (pc' := 8) X0 hx (hb hby d10_1) (by decide) (by decide) (by decide) ?_
  refine own_iloadN (pc' := 9) X0 hx rfl (hb hby d10_8) rfl ?_
  refine own_iconst (pc' := 10) X0 hx (1 : Int32) (by decide) (hb hby d10_9) rfl ?_
  refine own_icmpYes (pc' := 17) X0 hx (hb hby d10_10) (by decide) (by decide) (by decide) ?_
  obtain ⟨T1, X1, e1, st1⟩ := getS X0 hx hZ (host := "") hown (hw _ (List.mem_of_getElem? (i := 16) rfl)) Via.refl e0 S_CREATED (g := (mkF m 17 #[.val (.int (2 : Int32))] [])) rfl (hb hby d10_17)
  refine own_by st1 ?_
  show own_Go p e below (Q12 Z aC h0 n0) (own_Fr s ({ frames := 0, cells := 0, slots := 0, locals := 0 } : Room).cells ({ frames := 0, cells := 0, slots := 0, locals := 0 } : Room).slots) (T1.setTop (mkF m 20 #[.val (.int (2 : Int32))] [(.ref aC)]))
  refine own_ret X1 hx Bd.returns Bd.notSynchronized (Or.inr (Or.inr (Or.inr (Or.inr ⟨rfl, rfl, rfl⟩)))) (hb hby d10_20) rfl (by decide) (by decide) ?_
  show Q12 Z aC h0 n0 _ T1.heap _
  rw [e1]
  exact ⟨rfl, trivial, N0, rfl⟩
theorem pd_1 : parseMethodDescriptor "(I)Z" = some ⟨[.int], some .boolean⟩ := by decide +kernel
theorem d2N_0 : decode prog_18_method_8_code 0 = .ok (.iload_n 1, 1) := by decide +kernel
theorem d2N_1 : decode prog_18_method_8_code 1 = .ok (.tableswitch 61 0 2 #[27, 42, 46], 27) := by decide +kernel
theorem d2N_28 : decode prog_18_method_8_code 28 = .ok (.aload_n 0, 1) := by decide +kernel
theorem d2N_29 : decode prog_18_method_8_code 29 = .ok (.getstatic 3, 3) := by decide +kernel
theorem d2N_32 : decode prog_18_method_8_code 32 = .ok (.if_acmp .ne 7, 3) := by decide +kernel
theorem d2N_35 : decode prog_18_method_8_code 35 = .ok (.iconst 1, 1) := by decide +kernel
theorem d2N_36 : decode prog_18_method_8_code 36 = .ok (.goto 27, 3) := by decide +kernel
theorem d2N_39 : decode prog_18_method_8_code 39 = .ok (.iconst 0, 1) := by decide +kernel
theorem d2N_40 : decode prog_18_method_8_code 40 = .ok (.goto 23, 3) := by decide +kernel
theorem d2N_43 : decode prog_18_method_8_code 43 = .ok (.iconst 1, 1) := by decide +kernel
theorem d2N_44 : decode prog_18_method_8_code 44 = .ok (.goto 19, 3) := by decide +kernel
theorem d2N_47 : decode prog_18_method_8_code 47 = .ok (.aload_n 0, 1) := by decide +kernel
theorem d2N_48 : decode prog_18_method_8_code 48 = .ok (.getstatic 7, 3) := by decide +kernel
theorem d2N_51 : decode prog_18_method_8_code 51 = .ok (.if_acmp .eq 7, 3) := by decide +kernel
theorem d2N_54 : decode prog_18_method_8_code 54 = .ok (.iconst 1, 1) := by decide +kernel
theorem d2N_55 : decode prog_18_method_8_code 55 = .ok (.goto 8, 3) := by decide +kernel
theorem d2N_58 : decode prog_18_method_8_code 58 = .ok (.iconst 0, 1) := by decide +kernel
theorem d2N_59 : decode prog_18_method_8_code 59 = .ok (.goto 4, 3) := by decide +kernel
theorem d2N_62 : decode prog_18_method_8_code 62 = .ok (.iconst 0, 1) := by decide +kernel
theorem d2N_63 : decode prog_18_method_8_code 63 = .ok (.ireturn, 1) := by decide +kernel
theorem pn_1 : plainName "com/example/handclasp/handclasp/Binding" = true := by first | (simp [plainName, overriddenIn]; done) | decide +kernel
theorem ef_2N (m : MethodId) (x0 : Addr) (x1 : Int32) : entryFrame m #[(.ref x0), (.int x1)] 2 = mkF m 0 #[.val (.ref x0), .val (.int x1)] [] := by first | (simp [entryFrame, mkF, argsToLocals, Value.category, maxLocals]; done) | rfl
def Q2N (Z : State) (aN : Addr) (q : Int32) (aU : Addr) (h0 : Heap) (n0 : Nat) (v : Option Value) (h : Heap) (L : List Loc) : Prop := ∃ r : Int32, v = some (.int r) ∧ ((r.toInt = 1 ∧ (q.toInt = 0 ∨ q.toInt = 1 ∨ q.toInt = 2)) ∨ (r.toInt = 0 ∧ ¬ (q.toInt = 0 ∨ q.toInt = 1 ∨ q.toInt = 2))) ∧ Fr n0 L ∧ h = h0
set_option maxRecDepth 65536 in
set_option maxHeartbeats 40000000 in
theorem rm2N (l : Launch) (Z : State) (a0 : Array Value) (hw : ∀ d ∈ tables_1, d.before a0 Z = true) (ws : List Jvm.Cond) (aN : Addr) (q : Int32) (aU : Addr) (h0 : Heap) (n0 : Nat) (Z0 : n0 ≤ h0.size) (S_NONE : Sta Z h0 "com/example/handclasp/handclasp/Binding" "NONE" "Lcom/example/handclasp/handclasp/Binding;" (.ref aN)) (S_USED : Sta Z h0 "com/example/handclasp/handclasp/Binding" "USED" "Lcom/example/handclasp/handclasp/Binding;" (.ref aU)) (ne_aN_aU : aN ≠ aU) :
    MetFree l (⟨"com/example/handclasp/handclasp/Binding", "answers", "(I)Z"⟩ : MethodName) (head1 (Jvm.Cond.code (⟨"com/example/handclasp/handclasp/Binding", "answers", "(I)Z"⟩ : MethodName) prog_18_method_8_code 2 (some .boolean) :: ws) ({ frames := 0, cells := 0, slots := 0, locals := 0 } : Room)) (fun a U => a = #[(.ref aN), (.int q)] ∧ Z.Warmed39 U.vm ∧ U.heap = h0) (fun _ _ _ _ _ => True) (fun _ U o U' => ∃ v L, o = .returned v ∧ Q2N Z aN q aU h0 n0 v U'.heap L ∧ FrameEnd U o U' L ({ frames := 0, cells := 0, slots := 0, locals := 0 } : Room).cells ({ frames := 0, cells := 0, slots := 0, locals := 0 } : Room).slots) := by
  refine MetFree.of_bodySF (plainFor_of_name pn_1) hisR ?_
  intro p e s m args below meth c s₁ Bd hml0 hP hK
  obtain ⟨rfl, hZ, hh⟩ := hP
  have hx := Bd.exec
  have hby := Bd.bytes
  have hml : c.maxLocals = 2 := hml0
  have hown : s.vm.findClass "com/example/handclasp/handclasp/Binding" = some m.cls := findClass_of_methodNamed Bd.named
  have hnm := (name_of_methodNamed Bd.named Bd.method).1
  have X0 : Stand p l e ({ frames := 0, cells := 0, slots := 0, locals := 0 } : Room) s m #[(.ref aN), (.int q)] below meth c s₁ [] 0 0 := Stand.of_body Bd
  have e0 : s₁.heap = h0 := by rw [← hh, Bd.state]; rfl
  have N0 := Fr.nil n0
  change own_Go p e below (Q2N Z aN q aU h0 n0) (own_Fr s ({ frames := 0, cells := 0, slots := 0, locals := 0 } : Room).cells ({ frames := 0, cells := 0, slots := 0, locals := 0 } : Room).slots) (s₁.setTop (entryFrame m #[(.ref aN), (.int q)] 2))
  rw [ef_2N m aN q]
  have rq := rng32 q
  refine own_iloadN (pc' := 1) X0 hx rfl (hb hby d2N_0) rfl ?_
  have b1 : q.toInt = 0 ∨ q.toInt = 1 ∨ q.toInt = 2 ∨ (q.toInt < 0 ∨ q.toInt > 2) := by omega
  rcases b1 with b1 | b1 | b1 | b1
  · refine own_tswIn (pc' := 28) X0 hx 27 (hb hby d2N_1) (by omega) (by rw [b1]; decide) (by decide) (by decide) ?_
    refine own_aloadN (pc' := 29) X0 hx rfl rfl (hb hby d2N_28) rfl ?_
    obtain ⟨T2, X2, e2, st2⟩ := getS X0 hx hZ (host := "") hown (hw _ (List.mem_of_getElem? (i := 18) rfl)) Via.refl e0 S_NONE (g := (mkF m 29 #[.val (.ref aN), .val (.int q)] [(.ref aN)])) rfl (hb hby d2N_29)
    refine own_by st2 ?_
    show own_Go p e below (Q2N Z aN q aU h0 n0) (own_Fr s ({ frames := 0, cells := 0, slots := 0, locals := 0 } : Room).cells ({ frames := 0, cells := 0, slots := 0, locals := 0 } : Room).slots) (T2.setTop (mkF m 32 #[.val (.ref aN), .val (.int q)] [(.ref aN), (.ref aN)]))
    refine own_acmpNo (pc' := 35) X2 hx (by simp [if_acmp.holds]) (hb hby d2N_32) rfl ?_
    refine own_iconst (pc' := 36) X2 hx (1 : Int32) (by decide) (hb hby d2N_35) rfl ?_
    refine own_goto (pc' := 63) X2 hx (hb hby d2N_36) (by decide) (by decide) ?_
    refine own_ret X2 hx Bd.returns Bd.notSynchronized (Or.inl ⟨rfl, by simp, _, rfl⟩) (hb hby d2N_63) rfl (by decide) (by decide) ?_
    show Q2N Z aN q aU h0 n0 _ T2.heap _
    rw [e2]
    have kc0 : ((1 : Int32)).toInt = 1 := by decide
    exact ⟨(1 : Int32), rfl, by omega, N0, rfl⟩
  · refine own_tswIn (pc' := 43) X0 hx 42 (hb hby d2N_1) (by omega) (by rw [b1]; decide) (by decide) (by decide) ?_
    refine own_iconst (pc' := 44) X0 hx (1 : Int32) (by decide) (hb hby d2N_43) rfl ?_
    refine own_goto (pc' := 63) X0 hx (hb hby d2N_44) (by decide) (by decide) ?_
    refine own_ret X0 hx Bd.returns Bd.notSynchronized (Or.inl ⟨rfl, by simp, _, rfl⟩) (hb hby d2N_63) rfl (by decide) (by decide) ?_
    show Q2N Z aN q aU h0 n0 _ s₁.heap _
    rw [e0]
    have kc0 : ((1 : Int32)).toInt = 1 := by decide
    exact ⟨(1 : Int32), rfl, by omega, N0, rfl⟩
  · refine own_tswIn (pc' := 47) X0 hx 46 (hb hby d2N_1) (by omega) (by rw [b1]; decide) (by decide) (by decide) ?_
    refine own_aloadN (pc' := 48) X0 hx rfl rfl (hb hby d2N_47) rfl ?_
    obtain ⟨T3, X3, e3, st3⟩ := getS X0 hx hZ (host := "") hown (hw _ (List.mem_of_getElem? (i := 21) rfl)) Via.refl e0 S_USED (g := (mkF m 48 #[.val (.ref aN), .val (.int q)] [(.ref aN)])) rfl (hb hby d2N_48)
    refine own_by st3 ?_
    show own_Go p e below (Q2N Z aN q aU h0 n0) (own_Fr s ({ frames := 0, cells := 0, slots := 0, locals := 0 } : Room).cells ({ frames := 0, cells := 0, slots := 0, locals := 0 } : Room).slots) (T3.setTop (mkF m 51 #[.val (.ref aN), .val (.int q)] [(.ref aU), (.ref aN)]))
    refine own_acmpNo (pc' := 54) X3 hx (by simp [if_acmp.holds, ne_aN_aU]) (hb hby d2N_51) rfl ?_
    refine own_iconst (pc' := 55) X3 hx (1 : Int32) (by decide) (hb hby d2N_54) rfl ?_
    refine own_goto (pc' := 63) X3 hx (hb hby d2N_55) (by decide) (by decide) ?_
    refine own_ret X3 hx Bd.returns Bd.notSynchronized (Or.inl ⟨rfl, by simp, _, rfl⟩) (hb hby d2N_63) rfl (by decide) (by decide) ?_
    show Q2N Z aN q aU h0 n0 _ T3.heap _
    rw [e3]
    have kc0 : ((1 : Int32)).toInt = 1 := by decide
    exact ⟨(1 : Int32), rfl, by omega, N0, rfl⟩
  · refine own_tswOut (pc' := 62) X0 hx (hb hby d2N_1) (by omega) (by decide) (by decide) ?_
    refine own_iconst (pc' := 63) X0 hx (0 : Int32) (by decide) (hb hby d2N_62) rfl ?_
    refine own_ret X0 hx Bd.returns Bd.notSynchronized (Or.inl ⟨rfl, by simp, _, rfl⟩) (hb hby d2N_63) rfl (by decide) (by decide) ?_
    show Q2N Z aN q aU h0 n0 _ s₁.heap _
    rw [e0]
    have kc0 : ((0 : Int32)).toInt = 0 := by decide
    exact ⟨(0 : Int32), rfl, by omega, N0, rfl⟩
theorem ef_2U (m : MethodId) (x0 : Addr) (x1 : Int32) : entryFrame m #[(.ref x0), (.int x1)] 2 = mkF m 0 #[.val (.ref x0), .val (.int x1)] [] := by first | (simp [entryFrame, mkF, argsToLocals, Value.category, maxLocals]; done) | rfl
def Q2U (Z : State) (aU : Addr) (q : Int32) (aN : Addr) (h0 : Heap) (n0 : Nat) (v : Option Value) (h : Heap) (L : List Loc) : Prop := ∃ r : Int32, v = some (.int r) ∧ ((r.toInt = 1 ∧ (q.toInt = 1)) ∨ (r.toInt = 0 ∧ ¬ (q.toInt = 1))) ∧ Fr n0 L ∧ h = h0
set_option maxRecDepth 65536 in
set_option maxHeartbeats 40000000 in
theorem rm2U (l : Launch) (Z : State) (a0 : Array Value) (hw : ∀ d ∈ tables_1, d.before a0 Z = true) (ws : List Jvm.Cond) (aU : Addr) (q : Int32) (aN : Addr) (h0 : Heap) (n0 : Nat) (Z0 : n0 ≤ h0.size) (S_NONE : Sta Z h0 "com/example/handclasp/handclasp/Binding" "NONE" "Lcom/example/handclasp/handclasp/Binding;" (.ref aN)) (S_USED : Sta Z h0 "com/example/handclasp/handclasp/Binding" "USED" "Lcom/example/handclasp/handclasp/Binding;" (.ref aU)) (ne_aU_aN : aU ≠ aN) :
    MetFree l (⟨"com/example/handclasp/handclasp/Binding", "answers", "(I)Z"⟩ : MethodName) (head1 (Jvm.Cond.code (⟨"com/example/handclasp/handclasp/Binding", "answers", "(I)Z"⟩ : MethodName) prog_18_method_8_code 2 (some .boolean) :: ws) ({ frames := 0, cells := 0, slots := 0, locals := 0 } : Room)) (fun a U => a = #[(.ref aU), (.int q)] ∧ Z.Warmed39 U.vm ∧ U.heap = h0) (fun _ _ _ _ _ => True) (fun _ U o U' => ∃ v L, o = .returned v ∧ Q2U Z aU q aN h0 n0 v U'.heap L ∧ FrameEnd U o U' L ({ frames := 0, cells := 0, slots := 0, locals := 0 } : Room).cells ({ frames := 0, cells := 0, slots := 0, locals := 0 } : Room).slots) := by
  refine MetFree.of_bodySF (plainFor_of_name pn_1) hisR ?_
  intro p e s m args below meth c s₁ Bd hml0 hP hK
  obtain ⟨rfl, hZ, hh⟩ := hP
  have hx := Bd.exec
  have hby := Bd.bytes
  have hml : c.maxLocals = 2 := hml0
  have hown : s.vm.findClass "com/example/handclasp/handclasp/Binding" = some m.cls := findClass_of_methodNamed Bd.named
  have hnm := (name_of_methodNamed Bd.named Bd.method).1
  have X0 : Stand p l e ({ frames := 0, cells := 0, slots := 0, locals := 0 } : Room) s m #[(.ref aU), (.int q)] below meth c s₁ [] 0 0 := Stand.of_body Bd
  have e0 : s₁.heap = h0 := by rw [← hh, Bd.state]; rfl
  have N0 := Fr.nil n0
  change own_Go p e below (Q2U Z aU q aN h0 n0) (own_Fr s ({ frames := 0, cells := 0, slots := 0, locals := 0 } : Room).cells ({ frames := 0, cells := 0, slots := 0, locals := 0 } : Room).slots) (s₁.setTop (entryFrame m #[(.ref aU), (.int q)] 2))
  rw [ef_2U m aU q]
  have rq := rng32 q
  refine own_iloadN (pc' := 1) X0 hx rfl (hb hby d2N_0) rfl ?_
  have b1 : q.toInt = 0 ∨ q.toInt = 1 ∨ q.toInt = 2 ∨ (q.toInt < 0 ∨ q.toInt > 2) := by omega
  rcases b1 with b1 | b1 | b1 | b1
  · refine own_tswIn (pc' := 28) X0 hx 27 (hb hby d2N_1) (by omega) (by rw [b1]; decide) (by decide) (by decide) ?_
    refine own_aloadN (pc' := 29) X0 hx rfl rfl (hb hby d2N_28) rfl ?_
    obtain ⟨T2, X2, e2, st2⟩ := getS X0 hx hZ (host := "") hown (hw _ (List.mem_of_getElem? (i := 18) rfl)) Via.refl e0 S_NONE (g := (mkF m 29 #[.val (.ref aU), .val (.int q)] [(.ref aU)])) rfl (hb hby d2N_29)
    refine own_by st2 ?_
    show own_Go p e below (Q2U Z aU q aN h0 n0) (own_Fr s ({ frames := 0, cells := 0, slots := 0, locals := 0 } : Room).cells ({ frames := 0, cells := 0, slots := 0, locals := 0 } : Room).slots) (T2.setTop (mkF m 32 #[.val (.ref aU), .val (.int q)] [(.ref aN), (.ref aU)]))
    refine own_acmpYes (pc' := 39) X2 hx (hb hby d2N_32) (by simp [if_acmp.holds, ne_aU_aN]) (by decide) (by decide) ?_
    refine own_iconst (pc' := 40) X2 hx (0 : Int32) (by decide) (hb hby d2N_39) rfl ?_
    refine own_goto (pc' := 63) X2 hx (hb hby d2N_40) (by decide) (by decide) ?_
    refine own_ret X2 hx Bd.returns Bd.notSynchronized (Or.inl ⟨rfl, by simp, _, rfl⟩) (hb hby d2N_63) rfl (by decide) (by decide) ?_
    show Q2U Z aU q aN h0 n0 _ T2.heap _
    rw [e2]
    have kc0 : ((0 : Int32)).toInt = 0 := by decide
    exact ⟨(0 : Int32), rfl, by omega, N0, rfl⟩
  · refine own_tswIn (pc' := 43) X0 hx 42 (hb hby d2N_1) (by omega) (by rw [b1]; decide) (by decide) (by decide) ?_
    refine own_iconst (pc' := 44) X0 hx (1 : Int32) (by decide) (hb hby d2N_43) rfl ?_
    refine own_goto (pc' := 63) X0 hx (hb hby d2N_44) (by decide) (by decide) ?_
    refine own_ret X0 hx Bd.returns Bd.notSynchronized (Or.inl ⟨rfl, by simp, _, rfl⟩) (hb hby d2N_63) rfl (by decide) (by decide) ?_
    show Q2U Z aU q aN h0 n0 _ s₁.heap _
    rw [e0]
    have kc0 : ((1 : Int32)).toInt = 1 := by decide
    exact ⟨(1 : Int32), rfl, by omega, N0, rfl⟩
  · refine own_tswIn (pc' := 47) X0 hx 46 (hb hby d2N_1) (by omega) (by rw [b1]; decide) (by decide) (by decide) ?_
    refine own_aloadN (pc' := 48) X0 hx rfl rfl (hb hby d2N_47) rfl ?_
    obtain ⟨T3, X3, e3, st3⟩ := getS X0 hx hZ (host := "") hown (hw _ (List.mem_of_getElem? (i := 21) rfl)) Via.refl e0 S_USED (g := (mkF m 48 #[.val (.ref aU), .val (.int q)] [(.ref aU)])) rfl (hb hby d2N_48)
    refine own_by st3 ?_
    show own_Go p e below (Q2U Z aU q aN h0 n0) (own_Fr s ({ frames := 0, cells := 0, slots := 0, locals := 0 } : Room).cells ({ frames := 0, cells := 0, slots := 0, locals := 0 } : Room).slots) (T3.setTop (mkF m 51 #[.val (.ref aU), .val (.int q)] [(.ref aU), (.ref aU)]))
    refine own_acmpYes (pc' := 58) X3 hx (hb hby d2N_51) (by simp [if_acmp.holds]) (by decide) (by decide) ?_
    refine own_iconst (pc' := 59) X3 hx (0 : Int32) (by decide) (hb hby d2N_58) rfl ?_
    refine own_goto (pc' := 63) X3 hx (hb hby d2N_59) (by decide) (by decide) ?_
    refine own_ret X3 hx Bd.returns Bd.notSynchronized (Or.inl ⟨rfl, by simp, _, rfl⟩) (hb hby d2N_63) rfl (by decide) (by decide) ?_
    show Q2U Z aU q aN h0 n0 _ T3.heap _
    rw [e3]
    have kc0 : ((0 : Int32)).toInt = 0 := by decide
    exact ⟨(0 : Int32), rfl, by omega, N0, rfl⟩
  · refine own_tswOut (pc' := 62) X0 hx (hb hby d2N_1) (by omega) (by decide) (by decide) ?_
    refine own_iconst (pc' := 63) X0 hx (0 : Int32) (by decide) (hb hby d2N_62) rfl ?_
    refine own_ret X0 hx Bd.returns Bd.notSynchronized (Or.inl ⟨rfl, by simp, _, rfl⟩) (hb hby d2N_63) rfl (by decide) (by decide) ?_
    show Q2U Z aU q aN h0 n0 _ s₁.heap _
    rw [e0]
    have kc0 : ((0 : Int32)).toInt = 0 := by decide
    exact ⟨(0 : Int32), rfl, by omega, N0, rfl⟩
theorem ef_2C (m : MethodId) (x0 : Addr) (x1 : Int32) : entryFrame m #[(.ref x0), (.int x1)] 2 = mkF m 0 #[.val (.ref x0), .val (.int x1)] [] := by first | (simp [entryFrame, mkF, argsToLocals, Value.category, maxLocals]; done) | rfl
def Q2C (Z : State) (aC : Addr) (q : Int32) (aN : Addr) (aU : Addr) (h0 : Heap) (n0 : Nat) (v : Option Value) (h : Heap) (L : List Loc) : Prop := ∃ r : Int32, v = some (.int r) ∧ ((r.toInt = 1 ∧ (q.toInt = 1 ∨ q.toInt = 2)) ∨ (r.toInt = 0 ∧ ¬ (q.toInt = 1 ∨ q.toInt = 2))) ∧ Fr n0 L ∧ h = h0
set_option maxRecDepth 65536 in
set_option maxHeartbeats 40000000 in
theorem rm2C (l : Launch) (Z : State) (a0 : Array Value) (hw : ∀ d ∈ tables_1, d.before a0 Z = true) (ws : List Jvm.Cond) (aC : Addr) (q : Int32) (aN : Addr) (aU : Addr) (h0 : Heap) (n0 : Nat) (Z0 : n0 ≤ h0.size) (S_NONE : Sta Z h0 "com/example/handclasp/handclasp/Binding" "NONE" "Lcom/example/handclasp/handclasp/Binding;" (.ref aN)) (S_USED : Sta Z h0 "com/example/handclasp/handclasp/Binding" "USED" "Lcom/example/handclasp/handclasp/Binding;" (.ref aU)) (ne_aC_aN : aC ≠ aN) (ne_aC_aU : aC ≠ aU) :
    MetFree l (⟨"com/example/handclasp/handclasp/Binding", "answers", "(I)Z"⟩ : MethodName) (head1 (Jvm.Cond.code (⟨"com/example/handclasp/handclasp/Binding", "answers", "(I)Z"⟩ : MethodName) prog_18_method_8_code 2 (some .boolean) :: ws) ({ frames := 0, cells := 0, slots := 0, locals := 0 } : Room)) (fun a U => a = #[(.ref aC), (.int q)] ∧ Z.Warmed39 U.vm ∧ U.heap = h0) (fun _ _ _ _ _ => True) (fun _ U o U' => ∃ v L, o = .returned v ∧ Q2C Z aC q aN aU h0 n0 v U'.heap L ∧ FrameEnd U o U' L ({ frames := 0, cells := 0, slots := 0, locals := 0 } : Room).cells ({ frames := 0, cells := 0, slots := 0, locals := 0 } : Room).slots) := by
  refine MetFree.of_bodySF (plainFor_of_name pn_1) hisR ?_
  intro p e s m args below meth c s₁ Bd hml0 hP hK
  obtain ⟨rfl, hZ, hh⟩ := hP
  have hx := Bd.exec
  have hby := Bd.bytes
  have hml : c.maxLocals = 2 := hml0
  have hown : s.vm.findClass "com/example/handclasp/handclasp/Binding" = some m.cls := findClass_of_methodNamed Bd.named
  have hnm := (name_of_methodNamed Bd.named Bd.method).1
  have X0 : Stand p l e ({ frames := 0, cells := 0, slots := 0, locals := 0 } : Room) s m #[(.ref aC), (.int q)] below meth c s₁ [] 0 0 := Stand.of_body Bd
  have e0 : s₁.heap = h0 := by rw [← hh, Bd.state]; rfl
  have N0 := Fr.nil n0
  change own_Go p e below (Q2C Z aC q aN aU h0 n0) (own_Fr s ({ frames := 0, cells := 0, slots := 0, locals := 0 } : Room).cells ({ frames := 0, cells := 0, slots := 0, locals := 0 } : Room).slots) (s₁.setTop (entryFrame m #[(.ref aC), (.int q)] 2))
  rw [ef_2C m aC q]
  have rq := rng32 q
  refine own_iloadN (pc' := 1) X0 hx rfl (hb hby d2N_0) rfl ?_
  have b1 : q.toInt = 0 ∨ q.toInt = 1 ∨ q.toInt = 2 ∨ (q.toInt < 0 ∨ q.toInt > 2) := by omega
  rcases b1 with b1 | b1 | b1 | b1
  · refine own_tswIn (pc' := 28) X0 hx 27 (hb hby d2N_1) (by omega) (by rw [b1]; decide) (by decide) (by decide) ?_
    refine own_aloadN (pc' := 29) X0 hx rfl rfl (hb hby d2N_28) rfl ?_
    obtain ⟨T2, X2, e2, st2⟩ := getS X0 hx hZ (host := "") hown (hw _ (List.mem_of_getElem? (i := 18) rfl)) Via.refl e0 S_NONE (g := (mkF m 29 #[.val (.ref aC), .val (.int q)] [(.ref aC)])) rfl (hb hby d2N_29)
    refine own_by st2 ?_
    show own_Go p e below (Q2C Z aC q aN aU h0 n0) (own_Fr s ({ frames := 0, cells := 0, slots := 0, locals := 0 } : Room).cells ({ frames := 0, cells := 0, slots := 0, locals := 0 } : Room).slots) (T2.setTop (mkF m 32 #[.val (.ref aC), .val (.int q)] [(.ref aN), (.ref aC)]))
    refine own_acmpYes (pc' := 39) X2 hx (hb hby d2N_32) (by simp [if_acmp.holds, ne_aC_aN]) (by decide) (by decide) ?_
    refine own_iconst (pc' := 40) X2 hx (0 : Int32) (by decide) (hb hby d2N_39) rfl ?_
    refine own_goto (pc' := 63) X2 hx (hb hby d2N_40) (by decide) (by decide) ?_
    refine own_ret X2 hx Bd.returns Bd.notSynchronized (Or.inl ⟨rfl, by simp, _, rfl⟩) (hb hby d2N_63) rfl (by decide) (by decide) ?_
    show Q2C Z aC q aN aU h0 n0 _ T2.heap _
    rw [e2]
    have kc0 : ((0 : Int32)).toInt = 0 := by decide
    exact ⟨(0 : Int32), rfl, by omega, N0, rfl⟩
  · refine own_tswIn (pc' := 43) X0 hx 42 (hb hby d2N_1) (by omega) (by rw [b1]; decide) (by decide) (by decide) ?_
    refine own_iconst (pc' := 44) X0 hx (1 : Int32) (by decide) (hb hby d2N_43) rfl ?_
    refine own_goto (pc' := 63) X0 hx (hb hby d2N_44) (by decide) (by decide) ?_
    refine own_ret X0 hx Bd.returns Bd.notSynchronized (Or.inl ⟨rfl, by simp, _, rfl⟩) (hb hby d2N_63) rfl (by decide) (by decide) ?_
    show Q2C Z aC q aN aU h0 n0 _ s₁.heap _
    rw [e0]
    have kc0 : ((1 : Int32)).toInt = 1 := by decide
    exact ⟨(1 : Int32), rfl, by omega, N0, rfl⟩
  · refine own_tswIn (pc' := 47) X0 hx 46 (hb hby d2N_1) (by omega) (by rw [b1]; decide) (by decide) (by decide) ?_
    refine own_aloadN (pc' := 48) X0 hx rfl rfl (hb hby d2N_47) rfl ?_
    obtain ⟨T3, X3, e3, st3⟩ := getS X0 hx hZ (host := "") hown (hw _ (List.mem_of_getElem? (i := 21) rfl)) Via.refl e0 S_USED (g := (mkF m 48 #[.val (.ref aC), .val (.int q)] [(.ref aC)])) rfl (hb hby d2N_48)
    refine own_by st3 ?_
    show own_Go p e below (Q2C Z aC q aN aU h0 n0) (own_Fr s ({ frames := 0, cells := 0, slots := 0, locals := 0 } : Room).cells ({ frames := 0, cells := 0, slots := 0, locals := 0 } : Room).slots) (T3.setTop (mkF m 51 #[.val (.ref aC), .val (.int q)] [(.ref aU), (.ref aC)]))
    refine own_acmpNo (pc' := 54) X3 hx (by simp [if_acmp.holds, ne_aC_aU]) (hb hby d2N_51) rfl ?_
    refine own_iconst (pc' := 55) X3 hx (1 : Int32) (by decide) (hb hby d2N_54) rfl ?_
    refine own_goto (pc' := 63) X3 hx (hb hby d2N_55) (by decide) (by decide) ?_
    refine own_ret X3 hx Bd.returns Bd.notSynchronized (Or.inl ⟨rfl, by simp, _, rfl⟩) (hb hby d2N_63) rfl (by decide) (by decide) ?_
    show Q2C Z aC q aN aU h0 n0 _ T3.heap _
    rw [e3]
    have kc0 : ((1 : Int32)).toInt = 1 := by decide
    exact ⟨(1 : Int32), rfl, by omega, N0, rfl⟩
  · refine own_tswOut (pc' := 62) X0 hx (hb hby d2N_1) (by omega) (by decide) (by decide) ?_
    refine own_iconst (pc' := 63) X0 hx (0 : Int32) (by decide) (hb hby d2N_62) rfl ?_
    refine own_ret X0 hx Bd.returns Bd.notSynchronized (Or.inl ⟨rfl, by simp, _, rfl⟩) (hb hby d2N_63) rfl (by decide) (by decide) ?_
    show Q2C Z aC q aN aU h0 n0 _ s₁.heap _
    rw [e0]
    have kc0 : ((0 : Int32)).toInt = 0 := by decide
    exact ⟨(0 : Int32), rfl, by omega, N0, rfl⟩
theorem pd_2 : parseMethodDescriptor "(II)Z" = some ⟨[.int, .int], some .boolean⟩ := by decide +kernel
theorem d3_0 : decode method_3_code 0 = .ok (.iload_n 1, 1) := by decide +kernel
theorem d3_1 : decode method_3_code 1 = .ok (.ifCond .ne 13, 3) := by decide +kernel
theorem d3_4 : decode method_3_code 4 = .ok (.iload_n 0, 1) := by decide +kernel
theorem d3_5 : decode method_3_code 5 = .ok (.ifCond .ne 7, 3) := by decide +kernel
theorem d3_8 : decode method_3_code 8 = .ok (.iconst 1, 1) := by decide +kernel
theorem d3_9 : decode method_3_code 9 = .ok (.goto 4, 3) := by decide +kernel
theorem d3_12 : decode method_3_code 12 = .ok (.iconst 0, 1) := by decide +kernel
theorem d3_13 : decode method_3_code 13 = .ok (.ireturn, 1) := by decide +kernel
theorem d3_14 : decode method_3_code 14 = .ok (.iload_n 1, 1) := by decide +kernel
theorem d3_15 : decode method_3_code 15 = .ok (.iconst 1, 1) := by decide +kernel
theorem d3_16 : decode method_3_code 16 = .ok (.if_icmp .ne 5, 3) := by decide +kernel
theorem d3_19 : decode method_3_code 19 = .ok (.iconst 1, 1) := by decide +kernel
theorem d3_20 : decode method_3_code 20 = .ok (.ireturn, 1) := by decide +kernel
theorem d3_21 : decode method_3_code 21 = .ok (.iload_n 1, 1) := by decide +kernel
theorem d3_22 : decode method_3_code 22 = .ok (.iconst 2, 1) := by decide +kernel
theorem d3_23 : decode method_3_code 23 = .ok (.if_icmp .ne 14, 3) := by decide +kernel
theorem d3_26 : decode method_3_code 26 = .ok (.iload_n 0, 1) := by decide +kernel
theorem d3_27 : decode method_3_code 27 = .ok (.iconst 1, 1) := by decide +kernel
theorem d3_28 : decode method_3_code 28 = .ok (.if_icmp .eq 7, 3) := by decide +kernel
theorem d3_31 : decode method_3_code 31 = .ok (.iconst 1, 1) := by decide +kernel
theorem d3_32 : decode method_3_code 32 = .ok (.goto 4, 3) := by decide +kernel
theorem d3_35 : decode method_3_code 35 = .ok (.iconst 0, 1) := by decide +kernel
theorem d3_36 : decode method_3_code 36 = .ok (.ireturn, 1) := by decide +kernel
theorem d3_37 : decode method_3_code 37 = .ok (.iconst 0, 1) := by decide +kernel
theorem d3_38 : decode method_3_code 38 = .ok (.ireturn, 1) := by decide +kernel
theorem ef_3 (m : MethodId) (x0 : Int32) (x1 : Int32) : entryFrame m #[(.int x0), (.int x1)] 2 = mkF m 0 #[.val (.int x0), .val (.int x1)] [] := by first | (simp [entryFrame, mkF, argsToLocals, Value.category, maxLocals]; done) | rfl
def Q3 (Z : State) (k : Int32) (q : Int32) (h0 : Heap) (n0 : Nat) (v : Option Value) (h : Heap) (L : List Loc) : Prop := ∃ r : Int32, v = some (.int r) ∧ ((q.toInt = 0 ∧ ((k.toInt = 0 ∧ r.toInt = 1) ∨ (¬ k.toInt = 0 ∧ r.toInt = 0))) ∨ (q.toInt = 1 ∧ r.toInt = 1) ∨ (q.toInt = 2 ∧ ((k.toInt = 1 ∧ r.toInt = 0) ∨ (¬ k.toInt = 1 ∧ r.toInt = 1))) ∨ ((q.toInt < 0 ∨ 2 < q.toInt) ∧ r.toInt = 0)) ∧ Fr n0 L ∧ h = h0
set_option maxRecDepth 65536 in
set_option maxHeartbeats 40000000 in
theorem rm3 (l : Launch) (Z : State) (a0 : Array Value) (hw : ∀ d ∈ tables_1, d.before a0 Z = true) (ws : List Jvm.Cond) (k : Int32) (q : Int32) (h0 : Heap) (n0 : Nat) (Z0 : n0 ≤ h0.size) :
    MetFree l (⟨"com/example/handclasp/handclasp/BindingAnswersPinLaw", "expected", "(II)Z"⟩ : MethodName) (head1 (Jvm.Cond.code (⟨"com/example/handclasp/handclasp/BindingAnswersPinLaw", "expected", "(II)Z"⟩ : MethodName) method_3_code 2 (some .boolean) :: ws) ({ frames := 0, cells := 0, slots := 0, locals := 0 } : Room)) (fun a U => a = #[(.int k), (.int q)] ∧ Z.Warmed39 U.vm ∧ U.heap = h0) (fun _ _ _ _ _ => True) (fun _ U o U' => ∃ v L, o = .returned v ∧ Q3 Z k q h0 n0 v U'.heap L ∧ FrameEnd U o U' L ({ frames := 0, cells := 0, slots := 0, locals := 0 } : Room).cells ({ frames := 0, cells := 0, slots := 0, locals := 0 } : Room).slots) := by
  refine MetFree.of_bodySF (plainFor_of_name pn_0) hisR ?_
  intro p e s m args below meth c s₁ Bd hml0 hP hK
  obtain ⟨rfl, hZ, hh⟩ := hP
  have hx := Bd.exec
  have hby := Bd.bytes
  have hml : c.maxLocals = 2 := hml0
  have hown : s.vm.findClass "com/example/handclasp/handclasp/BindingAnswersPinLaw" = some m.cls := findClass_of_methodNamed Bd.named
  have hnm := (name_of_methodNamed Bd.named Bd.method).1
  have X0 : Stand p l e ({ frames := 0, cells := 0, slots := 0, locals := 0 } : Room) s m #[(.int k), (.int q)] below meth c s₁ [] 0 0 := Stand.of_body Bd
  have e0 : s₁.heap = h0 := by rw [← hh, Bd.state]; rfl
  have N0 := Fr.nil n0
  change own_Go p e below (Q3 Z k q h0 n0) (own_Fr s ({ frames := 0, cells := 0, slots := 0, locals := 0 } : Room).cells ({ frames := 0, cells := 0, slots := 0, locals := 0 } : Room).slots) (s₁.setTop (entryFrame m #[(.int k), (.int q)] 2))
  rw [ef_3 m k q]
  have rk := rng32 k
  have rq := rng32 q
  refine own_iloadN (pc' := 1) X0 hx rfl (hb hby d3_0) rfl ?_
  by_cases b1 : q.toInt = 0
  · refine own_ifNo (pc' := 4) X0 hx (own_z (own_no_ne rfl (by decide) b1)) (hb hby d3_1) rfl ?_
    refine own_iloadN (pc' := 5) X0 hx rfl (hb hby d3_4) rfl ?_
    by_cases b2 : k.toInt = 0
    · refine own_ifNo (pc' := 8) X0 hx (own_z (own_no_ne rfl (by decide) b2)) (hb hby d3_5) rfl ?_
      refine own_iconst (pc' := 9) X0 hx (1 : Int32) (by decide) (hb hby d3_8) rfl ?_
      refine own_goto (pc' := 13) X0 hx (hb hby d3_9) (by decide) (by decide) ?_
      refine own_ret X0 hx Bd.returns Bd.notSynchronized (Or.inl ⟨rfl, by simp, _, rfl⟩) (hb hby d3_13) rfl (by decide) (by decide) ?_
      show Q3 Z k q h0 n0 _ s₁.heap _
      rw [e0]
      have kc : ((1 : Int32)).toInt = 1 := by decide
      exact ⟨(1 : Int32), rfl, by omega, N0, rfl⟩
    · refine own_ifYes (pc' := 12) X0 hx (hb hby d3_5) (own_z (own_yes_ne rfl (by decide) b2)) (by decide) (by decide) ?_
      refine own_iconst (pc' := 13) X0 hx (0 : Int32) (by decide) (hb hby d3_12) rfl ?_
      refine own_ret X0 hx Bd.returns Bd.notSynchronized (Or.inl ⟨rfl, by simp, _, rfl⟩) (hb hby d3_13) rfl (by decide) (by decide) ?_
      show Q3 Z k q h0 n0 _ s₁.heap _
      rw [e0]
      have kc : ((0 : Int32)).toInt = 0 := by decide
      exact ⟨(0 : Int32), rfl, by omega, N0, rfl⟩
  · refine own_ifYes (pc' := 14) X0 hx (hb hby d3_1) (own_z (own_yes_ne rfl (by decide) b1)) (by decide) (by decide) ?_
    refine own_iloadN (pc' := 15) X0 hx rfl (hb hby d3_14) rfl ?_
    refine own_iconst (pc' := 16) X0 hx (1 : Int32) (by decide) (hb hby d3_15) rfl ?_
    by_cases b3 : q.toInt = 1
    · refine own_icmpNo (pc' := 19) X0 hx (own_no_ne rfl (by decide) b3) (hb hby d3_16) rfl ?_
      refine own_iconst (pc' := 20) X0 hx (1 : Int32) (by decide) (hb hby d3_19) rfl ?_
      refine own_ret X0 hx Bd.returns Bd.notSynchronized (Or.inl ⟨rfl, by simp, _, rfl⟩) (hb hby d3_20) rfl (by decide) (by decide) ?_
      show Q3 Z k q h0 n0 _ s₁.heap _
      rw [e0]
      have kc : ((1 : Int32)).toInt = 1 := by decide
      exact ⟨(1 : Int32), rfl, by omega, N0, rfl⟩
    · refine own_icmpYes (pc' := 21) X0 hx (hb hby d3_16) (own_yes_ne rfl (by decide) b3) (by decide) (by decide) ?_
      refine own_iloadN (pc' := 22) X0 hx rfl (hb hby d3_21) rfl ?_
      refine own_iconst (pc' := 23) X0 hx (2 : Int32) (by decide) (hb hby d3_22) rfl ?_
      by_cases b4 : q.toInt = 2
      · refine own_icmpNo (pc' := 26) X0 hx (own_no_ne rfl (by decide) b4) (hb hby d3_23) rfl ?_
        refine own_iloadN (pc' := 27) X0 hx rfl (hb hby d3_26) rfl ?_
        refine own_iconst (pc' := 28) X0 hx (1 : Int32) (by decide) (hb hby d3_27) rfl ?_
        by_cases b5 : k.toInt = 1
        · refine own_icmpYes (pc' := 35) X0 hx (hb hby d3_28) (own_yes_eq rfl (by decide) b5) (by decide) (by decide) ?_
          refine own_iconst (pc' := 36) X0 hx (0 : Int32) (by decide) (hb hby d3_35) rfl ?_
          refine own_ret X0 hx Bd.returns Bd.notSynchronized (Or.inl ⟨rfl, by simp, _, rfl⟩) (hb hby d3_36) rfl (by decide) (by decide) ?_
          show Q3 Z k q h0 n0 _ s₁.heap _
          rw [e0]
          have kc : ((0 : Int32)).toInt = 0 := by decide
          exact ⟨(0 : Int32), rfl, by omega, N0, rfl⟩
        · refine own_icmpNo (pc' := 31) X0 hx (own_no_eq rfl (by decide) b5) (hb hby d3_28) rfl ?_
          refine own_iconst (pc' := 32) X0 hx (1 : Int32) (by decide) (hb hby d3_31) rfl ?_
          refine own_goto (pc' := 36) X0 hx (hb hby d3_32) (by decide) (by decide) ?_
          refine own_ret X0 hx Bd.returns Bd.notSynchronized (Or.inl ⟨rfl, by simp, _, rfl⟩) (hb hby d3_36) rfl (by decide) (by decide) ?_
          show Q3 Z k q h0 n0 _ s₁.heap _
          rw [e0]
          have kc : ((1 : Int32)).toInt = 1 := by decide
          exact ⟨(1 : Int32), rfl, by omega, N0, rfl⟩
      · refine own_icmpYes (pc' := 37) X0 hx (hb hby d3_23) (own_yes_ne rfl (by decide) b4) (by decide) (by decide) ?_
        refine own_iconst (pc' := 38) X0 hx (0 : Int32) (by decide) (hb hby d3_37) rfl ?_
        refine own_ret X0 hx Bd.returns Bd.notSynchronized (Or.inl ⟨rfl, by simp, _, rfl⟩) (hb hby d3_38) rfl (by decide) (by decide) ?_
        show Q3 Z k q h0 n0 _ s₁.heap _
        rw [e0]
        have kc : ((0 : Int32)).toInt = 0 := by decide
        exact ⟨(0 : Int32), rfl, by omega, N0, rfl⟩
theorem ef_0 (m : MethodId) (x0 : Int32) (x1 : Int32) : entryFrame m #[(.int x0), (.int x1)] maxLocals = mkF m 0 #[.val (.int x0), .val (.int x1), .unset, .unset, .unset, .unset, .unset] [] := by first | (simp [entryFrame, mkF, argsToLocals, Value.category, maxLocals]; done) | rfl
def Q0 (Z : State) (p1 : Int32) (p2 : Int32) (aN : Addr) (aU : Addr) (aC : Addr) (h0 : Heap) (n0 : Nat) (v : Option Value) (h : Heap) (L : List Loc) : Prop := v = some (.int 1) ∧ Fr n0 L
set_option maxRecDepth 65536 in
set_option maxHeartbeats 40000000 in
theorem rm0 (l : Launch) (Z : State) (a0 : Array Value) (hw : ∀ d ∈ tables_1, d.before a0 Z = true) (ws : List Jvm.Cond) (p1 : Int32) (p2 : Int32) (aN : Addr) (aU : Addr) (aC : Addr) (h0 : Heap) (n0 : Nat) (Z0 : n0 ≤ h0.size) (S_NONE : Sta Z h0 "com/example/handclasp/handclasp/Binding" "NONE" "Lcom/example/handclasp/handclasp/Binding;" (.ref aN)) (S_USED : Sta Z h0 "com/example/handclasp/handclasp/Binding" "USED" "Lcom/example/handclasp/handclasp/Binding;" (.ref aU)) (S_CREATED : Sta Z h0 "com/example/handclasp/handclasp/Binding" "CREATED" "Lcom/example/handclasp/handclasp/Binding;" (.ref aC)) (E_aN : Exa Z h0 aN "com/example/handclasp/handclasp/Binding") (E_aU : Exa Z h0 aU "com/example/handclasp/handclasp/Binding") (E_aC : Exa Z h0 aC "com/example/handclasp/handclasp/Binding") (ne_aN_aU : aN ≠ aU) (ne_aN_aC : aN ≠ aC) (ne_aU_aC : aU ≠ aC) :
    MetFree l x (head1 (Jvm.Cond.code x code maxLocals ret :: ws) room_1) (fun a U => a = #[(.int p1), (.int p2)] ∧ Z.Warmed39 U.vm ∧ U.heap = h0) (fun _ _ _ _ _ => True) (fun _ U o U' => ∃ v L, o = .returned v ∧ Q0 Z p1 p2 aN aU aC h0 n0 v U'.heap L ∧ FrameEnd U o U' L room_1.cells room_1.slots) := by
  refine MetFree.of_bodySF (plainFor_of_name pn_0) hisR ?_
  intro p e s m args below meth c s₁ Bd hml0 hP hK
  obtain ⟨rfl, hZ, hh⟩ := hP
  have hx := Bd.exec
  have hby := Bd.bytes
  have hml : c.maxLocals = 7 := hml0
  have hown : s.vm.findClass "com/example/handclasp/handclasp/BindingAnswersPinLaw" = some m.cls := findClass_of_methodNamed Bd.named
  have hnm := (name_of_methodNamed Bd.named Bd.method).1
  have X0 : Stand p l e room_1 s m #[(.int p1), (.int p2)] below meth c s₁ [] 0 0 := Stand.of_body Bd
  have e0 : s₁.heap = h0 := by rw [← hh, Bd.state]; rfl
  have N0 := Fr.nil n0
  change own_Go p e below (Q0 Z p1 p2 aN aU aC h0 n0) (own_Fr s room_1.cells room_1.slots) (s₁.setTop (entryFrame m #[(.int p1), (.int p2)] maxLocals))
  rw [ef_0 m p1 p2]
  have rp1 := rng32 p1
  have rp2 := rng32 p2
  refine own_iloadN (pc' := 1) X0 hx rfl (hb hby at_0) rfl ?_
  refine own_ldcInt (pc' := 3) X0 hx hZ hown (hw _ (List.mem_of_getElem? (i := 0) rfl)) (hb hby at_1) rfl ?_
  obtain ⟨v1, hv1⟩ : ∃ z, p1 &&& (2147483647 : Int32) = z := ⟨_, rfl⟩
  have f2 : v1.toInt = p1.toInt % 2147483648 := by rw [← hv1]; exact c_mask p1 (2147483647 : Int32) 31 (by decide) (by decide)
  refine own_iand (pc' := 4) X0 hx (z := v1) hv1 (hb hby at_3) rfl ?_
  refine own_iconst (pc' := 5) X0 hx (3 : Int32) (by decide) (hb hby at_4) rfl ?_
  obtain ⟨v3, hv3⟩ : ∃ z, v1 % (3 : Int32) = z := ⟨_, rfl⟩
  have f4 : v3.toInt = v1.toInt % 3 := by rw [← hv3]; exact (c_irem v1 (3 : Int32) 3 (by decide)).1 (by omega)
  refine own_irem (pc' := 6) X0 hx (z := v3) (by decide) hv3 (hb hby at_5) rfl ?_
  refine own_istoreN (pc' := 7) X0 hx #[.val (.int p1), .val (.int p2), .val (.int v3), .unset, .unset, .unset, .unset] rfl (hb hby at_6) rfl ?_
  have b5 : v3.toInt = 0 ∨ v3.toInt = 1 ∨ v3.toInt = 2 := by omega
  rcases b5 with b5 | b5 | b5
  · obtain rfl : v3 = (0 : Int32) := Int32.toInt_inj.mp b5
    have kz6 : (0 : Int32).toInt = 0 := by decide
    refine own_iloadN (pc' := 8) X0 hx rfl (hb hby at_7) rfl ?_
    obtain ⟨_, _, ⟨T7, L7, k7, n7⟩, -, X7, ⟨Lc7, hQ7, l7, y7, z7⟩, st7⟩ := Jvm.LawKit.callS X0 hx (y := (⟨"com/example/handclasp/handclasp/BindingAnswersPinLaw", "pick", "(I)Lcom/example/handclasp/handclasp/Binding;"⟩ : MethodName)) hown (mvT hZ (hw _ (List.mem_of_getElem? (i := 1) rfl))) (mvT hZ (hw _ (List.mem_of_getElem? (i := 2) rfl))) (mvT hZ (hw _ (List.mem_of_getElem? (i := 3) rfl))) (mvT hZ (hw _ (List.mem_of_getElem? (i := 4) rfl))) (by decide) (backOf (W := 0) (rm10 l Z a0 hw [] aN h0 n0 Z0 S_NONE) hZ (hw _ (List.mem_of_getElem? (i := 4) rfl)) (hw _ (List.mem_of_getElem? (i := 3) rfl)) (by decide) (by decide)) (g := (mkF m 8 #[.val (.int p1), .val (.int p2), .val (.int (0 : Int32)), .unset, .unset, .unset, .unset] [(.int (0 : Int32))])) rfl (by rw [hml]; rfl) (argsL := [(.int (0 : Int32))]) (rest := []) (lenOf pd_0 rfl) rfl (by show 2 * 0 + _ ≤ _; exact Nat.le_of_eq rfl) (hb hby at_8) (fun _ _ => ⟨rfl, e0, (by decide : 0 + 0 ≤ _), (by decide : 0 + 0 ≤ _)⟩)
    dsimp only [Pt.U, Pt.locs, Pt.cells, Pt.slots] at X7 l7 y7 z7 st7 hQ7
    subst l7 y7 z7
    obtain ⟨rfl, p7, N7, e7⟩ := hQ7
    have N7a := Fr.app N0 N7
    refine own_by st7 ?_
    show own_Go p e below (Q0 Z p1 p2 aN aU aC h0 n0) (own_Fr s room_1.cells room_1.slots) (T7.setTop (mkF m 11 #[.val (.int p1), .val (.int p2), .val (.int (0 : Int32)), .unset, .unset, .unset, .unset] [(.ref aN)]))
    refine own_astoreN (pc' := 12) X7 hx #[.val (.int p1), .val (.int p2), .val (.int (0 : Int32)), .val (.ref aN), .unset, .unset, .unset] rfl rfl (hb hby at_11) rfl ?_
    refine own_iloadN (pc' := 13) X7 hx rfl (hb hby at_12) rfl ?_
    refine own_iconst (pc' := 14) X7 hx (4 : Int32) (by decide) (hb hby at_13) rfl ?_
    obtain ⟨v8, hv8⟩ : ∃ z, p2 % (4 : Int32) = z := ⟨_, rfl⟩
    have f9 : (0 ≤ p2.toInt → v8.toInt = p2.toInt % 4) ∧ (p2.toInt < 0 → v8.toInt = -((-p2.toInt) % 4)) := by rw [← hv8]; exact c_irem p2 (4 : Int32) 4 (by decide)
    refine own_irem (pc' := 15) X7 hx (z := v8) (by decide) hv8 (hb hby at_14) rfl ?_
    refine own_istore (pc' := 17) X7 hx #[.val (.int p1), .val (.int p2), .val (.int (0 : Int32)), .val (.ref aN), .val (.int v8), .unset, .unset] rfl (hb hby at_15) rfl ?_
    refine own_aloadN (pc' := 18) X7 hx rfl rfl (hb hby at_17) rfl ?_
    refine own_iloadN (pc' := 19) X7 hx rfl (hb hby at_18) rfl ?_
    obtain ⟨cq10, kq10, q10a, q10b, q10c⟩ := isOf hZ e7 E_aN
    obtain ⟨_, _, ⟨T10, L10, k10, n10⟩, -, X10, ⟨Lc10, hQ10, l10, y10, z10⟩, st10⟩ := X7.virtualBack hx (y := (⟨"com/example/handclasp/handclasp/Binding", "answers", "(I)Z"⟩ : MethodName)) (z := (⟨"com/example/handclasp/handclasp/Binding", "answers", "(I)Z"⟩ : MethodName)) hown (mvT hZ (hw _ (List.mem_of_getElem? (i := 8) rfl))) (mvT hZ (hw _ (List.mem_of_getElem? (i := 9) rfl))) (notFace_of_selects (args := #[]) (mvT hZ (hw _ (List.mem_of_getElem? (i := 11) rfl)))) (mvT hZ (hw _ (List.mem_of_getElem? (i := 11) rfl))) (mvT hZ (hw _ (List.mem_of_getElem? (i := 10) rfl))) (by decide) (backOf (W := 0) (rm2N l Z a0 hw [] aN p2 aU h0 n0 Z0 S_NONE S_USED ne_aN_aU) hZ (hw _ (List.mem_of_getElem? (i := 12) rfl)) (hw _ (List.mem_of_getElem? (i := 6) rfl)) (by decide) (by decide)) q10a q10c (g := (mkF m 19 #[.val (.int p1), .val (.int p2), .val (.int (0 : Int32)), .val (.ref aN), .val (.int v8), .unset, .unset] [(.int p2), (.ref aN)])) rfl (by rw [hml]; rfl) (Steps.refl _) (argsL := [(.int p2)]) (rest := []) (lenOf pd_1 rfl) rfl (by show 2 * 0 + _ ≤ _; exact Nat.le_of_eq rfl) (hb hby at_19) (fun _ _ => ⟨rfl, e7, (by decide : 0 + 0 ≤ _), (by decide : 0 + 0 ≤ _)⟩)
    dsimp only [Pt.U, Pt.locs, Pt.cells, Pt.slots] at X10 l10 y10 z10 st10 hQ10
    subst l10 y10 z10
    obtain ⟨o10, rfl, p10, N10, e10⟩ := hQ10
    have ro10 := rng32 o10
    have N10a := Fr.app N7a N10
    refine own_via st10 ?_
    show own_Go p e below (Q0 Z p1 p2 aN aU aC h0 n0) (own_Fr s room_1.cells room_1.slots) (T10.setTop (mkF m 22 #[.val (.int p1), .val (.int p2), .val (.int (0 : Int32)), .val (.ref aN), .val (.int v8), .unset, .unset] [(.int o10)]))
    refine own_iloadN (pc' := 23) X10 hx rfl (hb hby at_22) rfl ?_
    refine own_iloadN (pc' := 24) X10 hx rfl (hb hby at_23) rfl ?_
    have kq12 : (0 : Int32).toInt = 0 := by decide
    obtain ⟨_, _, ⟨T11, L11, k11, n11⟩, -, X11, ⟨Lc11, hQ11, l11, y11, z11⟩, st11⟩ := Jvm.LawKit.callS X10 hx (y := (⟨"com/example/handclasp/handclasp/BindingAnswersPinLaw", "expected", "(II)Z"⟩ : MethodName)) hown (mvT hZ (hw _ (List.mem_of_getElem? (i := 13) rfl))) (mvT hZ (hw _ (List.mem_of_getElem? (i := 14) rfl))) (mvT hZ (hw _ (List.mem_of_getElem? (i := 3) rfl))) (mvT hZ (hw _ (List.mem_of_getElem? (i := 15) rfl))) (by decide) (backOf (W := 1) (rm3 l Z a0 hw [] (0 : Int32) p2 h0 n0 Z0 ) hZ (hw _ (List.mem_of_getElem? (i := 15) rfl)) (hw _ (List.mem_of_getElem? (i := 3) rfl)) (by decide) (by decide)) (g := (mkF m 24 #[.val (.int p1), .val (.int p2), .val (.int (0 : Int32)), .val (.ref aN), .val (.int v8), .unset, .unset] [(.int p2), (.int (0 : Int32)), (.int o10)])) rfl (by rw [hml]; rfl) (argsL := [(.int (0 : Int32)), (.int p2)]) (rest := [(.int o10)]) (lenOf pd_2 rfl) rfl (by show 2 * 0 + _ ≤ _; exact Nat.le_of_eq rfl) (hb hby at_24) (fun _ _ => ⟨rfl, e10, (by decide : 0 + 0 ≤ _), (by decide : 0 + 0 ≤ _)⟩)
    dsimp only [Pt.U, Pt.locs, Pt.cells, Pt.slots] at X11 l11 y11 z11 st11 hQ11
    subst l11 y11 z11
    obtain ⟨o11, rfl, p11, N11, e11⟩ := hQ11
    have N11a := Fr.app N10a N11
    refine own_by st11 ?_
    show own_Go p e below (Q0 Z p1 p2 aN aU aC h0 n0) (own_Fr s room_1.cells room_1.slots) (T11.setTop (mkF m 27 #[.val (.int p1), .val (.int p2), .val (.int (0 : Int32)), .val (.ref aN), .val (.int v8), .unset, .unset] [(.int o11), (.int o10)]))
    have b13 : o10.toInt = o11.toInt := by omega
    refine own_icmpNo (pc' := 30) X11 hx (own_no_ne rfl rfl b13) (hb hby at_27) rfl ?_
    refine own_iconst (pc' := 31) X11 hx (1 : Int32) (by decide) (hb hby at_30) rfl ?_
    refine own_goto (pc' := 35) X11 hx (hb hby at_31) (by decide) (by decide) ?_
    refine own_istore (pc' := 37) X11 hx #[.val (.int p1), .val (.int p2), .val (.int (0 : Int32)), .val (.ref aN), .val (.int v8), .val (.int (1 : Int32)), .unset] rfl (hb hby at_35) rfl ?_
    refine own_aloadN (pc' := 38) X11 hx rfl rfl (hb hby at_37) rfl ?_
    refine own_iload (pc' := 40) X11 hx rfl (hb hby at_38) rfl ?_
    obtain ⟨cq14, kq14, q14a, q14b, q14c⟩ := isOf hZ e11 E_aN
    obtain ⟨_, _, ⟨T14, L14, k14, n14⟩, -, X14, ⟨Lc14, hQ14, l14, y14, z14⟩, st14⟩ := X11.virtualBack hx (y := (⟨"com/example/handclasp/handclasp/Binding", "answers", "(I)Z"⟩ : MethodName)) (z := (⟨"com/example/handclasp/handclasp/Binding", "answers", "(I)Z"⟩ : MethodName)) hown (mvT hZ (hw _ (List.mem_of_getElem? (i := 8) rfl))) (mvT hZ (hw _ (List.mem_of_getElem? (i := 9) rfl))) (notFace_of_selects (args := #[]) (mvT hZ (hw _ (List.mem_of_getElem? (i := 11) rfl)))) (mvT hZ (hw _ (List.mem_of_getElem? (i := 11) rfl))) (mvT hZ (hw _ (List.mem_of_getElem? (i := 10) rfl))) (by decide) (backOf (W := 0) (rm2N l Z a0 hw [] aN v8 aU h0 n0 Z0 S_NONE S_USED ne_aN_aU) hZ (hw _ (List.mem_of_getElem? (i := 12) rfl)) (hw _ (List.mem_of_getElem? (i := 6) rfl)) (by decide) (by decide)) q14a q14c (g := (mkF m 40 #[.val (.int p1), .val (.int p2), .val (.int (0 : Int32)), .val (.ref aN), .val (.int v8), .val (.int (1 : Int32)), .unset] [(.int v8), (.ref aN)])) rfl (by rw [hml]; rfl) (Steps.refl _) (argsL := [(.int v8)]) (rest := []) (lenOf pd_1 rfl) rfl (by show 2 * 0 + _ ≤ _; exact Nat.le_of_eq rfl) (hb hby at_40) (fun _ _ => ⟨rfl, e11, (by decide : 0 + 0 ≤ _), (by decide : 0 + 0 ≤ _)⟩)
    dsimp only [Pt.U, Pt.locs, Pt.cells, Pt.slots] at X14 l14 y14 z14 st14 hQ14
    subst l14 y14 z14
    obtain ⟨o14, rfl, p14, N14, e14⟩ := hQ14
    have ro14 := rng32 o14
    have N14a := Fr.app N11a N14
    refine own_via st14 ?_
    show own_Go p e below (Q0 Z p1 p2 aN aU aC h0 n0) (own_Fr s room_1.cells room_1.slots) (T14.setTop (mkF m 43 #[.val (.int p1), .val (.int p2), .val (.int (0 : Int32)), .val (.ref aN), .val (.int v8), .val (.int (1 : Int32)), .unset] [(.int o14)]))
    refine own_iloadN (pc' := 44) X14 hx rfl (hb hby at_43) rfl ?_
    refine own_iload (pc' := 46) X14 hx rfl (hb hby at_44) rfl ?_
    have kq16 : (0 : Int32).toInt = 0 := by decide
    obtain ⟨_, _, ⟨T15, L15, k15, n15⟩, -, X15, ⟨Lc15, hQ15, l15, y15, z15⟩, st15⟩ := Jvm.LawKit.callS X14 hx (y := (⟨"com/example/handclasp/handclasp/BindingAnswersPinLaw", "expected", "(II)Z"⟩ : MethodName)) hown (mvT hZ (hw _ (List.mem_of_getElem? (i := 13) rfl))) (mvT hZ (hw _ (List.mem_of_getElem? (i := 14) rfl))) (mvT hZ (hw _ (List.mem_of_getElem? (i := 3) rfl))) (mvT hZ (hw _ (List.mem_of_getElem? (i := 15) rfl))) (by decide) (backOf (W := 1) (rm3 l Z a0 hw [] (0 : Int32) v8 h0 n0 Z0 ) hZ (hw _ (List.mem_of_getElem? (i := 15) rfl)) (hw _ (List.mem_of_getElem? (i := 3) rfl)) (by decide) (by decide)) (g := (mkF m 46 #[.val (.int p1), .val (.int p2), .val (.int (0 : Int32)), .val (.ref aN), .val (.int v8), .val (.int (1 : Int32)), .unset] [(.int v8), (.int (0 : Int32)), (.int o14)])) rfl (by rw [hml]; rfl) (argsL := [(.int (0 : Int32)), (.int v8)]) (rest := [(.int o14)]) (lenOf pd_2 rfl) rfl (by show 2 * 0 + _ ≤ _; exact Nat.le_of_eq rfl) (hb hby at_46) (fun _ _ => ⟨rfl, e14, (by decide : 0 + 0 ≤ _), (by decide : 0 + 0 ≤ _)⟩)
    dsimp only [Pt.U, Pt.locs, Pt.cells, Pt.slots] at X15 l15 y15 z15 st15 hQ15
    subst l15 y15 z15
    obtain ⟨o15, rfl, p15, N15, e15⟩ := hQ15
    have N15a := Fr.app N14a N15
    refine own_by st15 ?_
    show own_Go p e below (Q0 Z p1 p2 aN aU aC h0 n0) (own_Fr s room_1.cells room_1.slots) (T15.setTop (mkF m 49 #[.val (.int p1), .val (.int p2), .val (.int (0 : Int32)), .val (.ref aN), .val (.int v8), .val (.int (1 : Int32)), .unset] [(.int o15), (.int o14)]))
    have b17 : o14.toInt = o15.toInt := by omega
    refine own_icmpNo (pc' := 52) X15 hx (own_no_ne rfl rfl b17) (hb hby at_49) rfl ?_
    refine own_iconst (pc' := 53) X15 hx (1 : Int32) (by decide) (hb hby at_52) rfl ?_
    refine own_goto (pc' := 57) X15 hx (hb hby at_53) (by decide) (by decide) ?_
    refine own_istore (pc' := 59) X15 hx #[.val (.int p1), .val (.int p2), .val (.int (0 : Int32)), .val (.ref aN), .val (.int v8), .val (.int (1 : Int32)), .val (.int (1 : Int32))] rfl (hb hby at_57) rfl ?_
    refine own_iload (pc' := 61) X15 hx rfl (hb hby at_59) rfl ?_
    refine own_ifNo (pc' := 64) X15 hx (by decide) (hb hby at_61) rfl ?_
    refine own_iload (pc' := 66) X15 hx rfl (hb hby at_64) rfl ?_
    refine own_ifNo (pc' := 69) X15 hx (by decide) (hb hby at_66) rfl ?_
    refine own_iconst (pc' := 70) X15 hx (1 : Int32) (by decide) (hb hby at_69) rfl ?_
    refine own_goto (pc' := 74) X15 hx (hb hby at_70) (by decide) (by decide) ?_
    refine own_ret X15 hx Bd.returns Bd.notSynchronized (Or.inl ⟨rfl, by simp, _, rfl⟩) (hb hby at_74) rfl (by decide) (by decide) ?_
    show Q0 Z p1 p2 aN aU aC h0 n0 _ T15.heap _
    rw [e15]
    exact ⟨rfl, N15a⟩
  · obtain rfl : v3 = (1 : Int32) := Int32.toInt_inj.mp b5
    have kz18 : (1 : Int32).toInt = 1 := by decide
    refine own_iloadN (pc' := 8) X0 hx rfl (hb hby at_7) rfl ?_
    obtain ⟨_, _, ⟨T19, L19, k19, n19⟩, -, X19, ⟨Lc19, hQ19, l19, y19, z19⟩, st19⟩ := Jvm.LawKit.callS X0 hx (y := (⟨"com/example/handclasp/handclasp/BindingAnswersPinLaw", "pick", "(I)Lcom/example/handclasp/handclasp/Binding;"⟩ : MethodName)) hown (mvT hZ (hw _ (List.mem_of_getElem? (i := 1) rfl))) (mvT hZ (hw _ (List.mem_of_getElem? (i := 2) rfl))) (mvT hZ (hw _ (List.mem_of_getElem? (i := 3) rfl))) (mvT hZ (hw _ (List.mem_of_getElem? (i := 4) rfl))) (by decide) (backOf (W := 0) (rm11 l Z a0 hw [] aU h0 n0 Z0 S_USED) hZ (hw _ (List.mem_of_getElem? (i := 4) rfl)) (hw _ (List.mem_of_getElem? (i := 3) rfl)) (by decide) (by decide)) (g := (mkF m 8 #[.val (.int p1), .val (.int p2), .val (.int (1 : Int32)), .unset, .unset, .unset, .unset] [(.int (1 : Int32))])) rfl (by rw [hml]; rfl) (argsL := [(.int (1 : Int32))]) (rest := []) (lenOf pd_0 rfl) rfl (by show 2 * 0 + _ ≤ _; exact Nat.le_of_eq rfl) (hb hby at_8) (fun _ _ => ⟨rfl, e0, (by decide : 0 + 0 ≤ _), (by decide : 0 + 0 ≤ _)⟩)
    dsimp only [Pt.U, Pt.locs, Pt.cells, Pt.slots] at X19 l19 y19 z19 st19 hQ19
    subst l19 y19 z19
    obtain ⟨rfl, p19, N19, e19⟩ := hQ19
    have N19a := Fr.app N0 N19
    refine own_by st19 ?_
    show own_Go p e below (Q0 Z p1 p2 aN aU aC h0 n0) (own_Fr s room_1.cells room_1.slots) (T19.setTop (mkF m 11 #[.val (.int p1), .val (.int p2), .val (.int (1 : Int32)), .unset, .unset, .unset, .unset] [(.ref aU)]))
    refine own_astoreN (pc' := 12) X19 hx #[.val (.int p1), .val (.int p2), .val (.int (1 : Int32)), .val (.ref aU), .unset, .unset, .unset] rfl rfl (hb hby at_11) rfl ?_
    refine own_iloadN (pc' := 13) X19 hx rfl (hb hby at_12) rfl ?_
    refine own_iconst (pc' := 14) X19 hx (4 : Int32) (by decide) (hb hby at_13) rfl ?_
    obtain ⟨v20, hv20⟩ : ∃ z, p2 % (4 : Int32) = z := ⟨_, rfl⟩
    have f21 : (0 ≤ p2.toInt → v20.toInt = p2.toInt % 4) ∧ (p2.toInt < 0 → v20.toInt = -((-p2.toInt) % 4)) := by rw [← hv20]; exact c_irem p2 (4 : Int32) 4 (by decide)
    refine own_irem (pc' := 15) X19 hx (z := v20) (by decide) hv20 (hb hby at_14) rfl ?_
    refine own_istore (pc' := 17) X19 hx #[.val (.int p1), .val (.int p2), .val (.int (1 : Int32)), .val (.ref aU), .val (.int v20), .unset, .unset] rfl (hb hby at_15) rfl ?_
    refine own_aloadN (pc' := 18) X19 hx rfl rfl (hb hby at_17) rfl ?_
    refine own_iloadN (pc' := 19) X19 hx rfl (hb hby at_18) rfl ?_
    obtain ⟨cq22, kq22, q22a, q22b, q22c⟩ := isOf hZ e19 E_aU
    obtain ⟨_, _, ⟨T22, L22, k22, n22⟩, -, X22, ⟨Lc22, hQ22, l22, y22, z22⟩, st22⟩ := X19.virtualBack hx (y := (⟨"com/example/handclasp/handclasp/Binding", "answers", "(I)Z"⟩ : MethodName)) (z := (⟨"com/example/handclasp/handclasp/Binding", "answers", "(I)Z"⟩ : MethodName)) hown (mvT hZ (hw _ (List.mem_of_getElem? (i := 8) rfl))) (mvT hZ (hw _ (List.mem_of_getElem? (i := 9) rfl))) (notFace_of_selects (args := #[]) (mvT hZ (hw _ (List.mem_of_getElem? (i := 11) rfl)))) (mvT hZ (hw _ (List.mem_of_getElem? (i := 11) rfl))) (mvT hZ (hw _ (List.mem_of_getElem? (i := 10) rfl))) (by decide) (backOf (W := 0) (rm2U l Z a0 hw [] aU p2 aN h0 n0 Z0 S_NONE S_USED (Ne.symm ne_aN_aU)) hZ (hw _ (List.mem_of_getElem? (i := 12) rfl)) (hw _ (List.mem_of_getElem? (i := 6) rfl)) (by decide) (by decide)) q22a q22c (g := (mkF m 19 #[.val (.int p1), .val (.int p2), .val (.int (1 : Int32)), .val (.ref aU), .val (.int v20), .unset, .unset] [(.int p2), (.ref aU)])) rfl (by rw [hml]; rfl) (Steps.refl _) (argsL := [(.int p2)]) (rest := []) (lenOf pd_1 rfl) rfl (by show 2 * 0 + _ ≤ _; exact Nat.le_of_eq rfl) (hb hby at_19) (fun _ _ => ⟨rfl, e19, (by decide : 0 + 0 ≤ _), (by decide : 0 + 0 ≤ _)⟩)
    dsimp only [Pt.U, Pt.locs, Pt.cells, Pt.slots] at X22 l22 y22 z22 st22 hQ22
    subst l22 y22 z22
    obtain ⟨o22, rfl, p22, N22, e22⟩ := hQ22
    have ro22 := rng32 o22
    have N22a := Fr.app N19a N22
    refine own_via st22 ?_
    show own_Go p e below (Q0 Z p1 p2 aN aU aC h0 n0) (own_Fr s room_1.cells room_1.slots) (T22.setTop (mkF m 22 #[.val (.int p1), .val (.int p2), .val (.int (1 : Int32)), .val (.ref aU), .val (.int v20), .unset, .unset] [(.int o22)]))
    refine own_iloadN (pc' := 23) X22 hx rfl (hb hby at_22) rfl ?_
    refine own_iloadN (pc' := 24) X22 hx rfl (hb hby at_23) rfl ?_
    have kq24 : (1 : Int32).toInt = 1 := by decide
    obtain ⟨_, _, ⟨T23, L23, k23, n23⟩, -, X23, ⟨Lc23, hQ23, l23, y23, z23⟩, st23⟩ := Jvm.LawKit.callS X22 hx (y := (⟨"com/example/handclasp/handclasp/BindingAnswersPinLaw", "expected", "(II)Z"⟩ : MethodName)) hown (mvT hZ (hw _ (List.mem_of_getElem? (i := 13) rfl))) (mvT hZ (hw _ (List.mem_of_getElem? (i := 14) rfl))) (mvT hZ (hw _ (List.mem_of_getElem? (i := 3) rfl))) (mvT hZ (hw _ (List.mem_of_getElem? (i := 15) rfl))) (by decide) (backOf (W := 1) (rm3 l Z a0 hw [] (1 : Int32) p2 h0 n0 Z0 ) hZ (hw _ (List.mem_of_getElem? (i := 15) rfl)) (hw _ (List.mem_of_getElem? (i := 3) rfl)) (by decide) (by decide)) (g := (mkF m 24 #[.val (.int p1), .val (.int p2), .val (.int (1 : Int32)), .val (.ref aU), .val (.int v20), .unset, .unset] [(.int p2), (.int (1 : Int32)), (.int o22)])) rfl (by rw [hml]; rfl) (argsL := [(.int (1 : Int32)), (.int p2)]) (rest := [(.int o22)]) (lenOf pd_2 rfl) rfl (by show 2 * 0 + _ ≤ _; exact Nat.le_of_eq rfl) (hb hby at_24) (fun _ _ => ⟨rfl, e22, (by decide : 0 + 0 ≤ _), (by decide : 0 + 0 ≤ _)⟩)
    dsimp only [Pt.U, Pt.locs, Pt.cells, Pt.slots] at X23 l23 y23 z23 st23 hQ23
    subst l23 y23 z23
    obtain ⟨o23, rfl, p23, N23, e23⟩ := hQ23
    have N23a := Fr.app N22a N23
    refine own_by st23 ?_
    show own_Go p e below (Q0 Z p1 p2 aN aU aC h0 n0) (own_Fr s room_1.cells room_1.slots) (T23.setTop (mkF m 27 #[.val (.int p1), .val (.int p2), .val (.int (1 : Int32)), .val (.ref aU), .val (.int v20), .unset, .unset] [(.int o23), (.int o22)]))
    have b25 : o22.toInt = o23.toInt := by omega
    refine own_icmpNo (pc' := 30) X23 hx (own_no_ne rfl rfl b25) (hb hby at_27) rfl ?_
    refine own_iconst (pc' := 31) X23 hx (1 : Int32) (by decide) (hb hby at_30) rfl ?_
    refine own_goto (pc' := 35) X23 hx (hb hby at_31) (by decide) (by decide) ?_
    refine own_istore (pc' := 37) X23 hx #[.val (.int p1), .val (.int p2), .val (.int (1 : Int32)), .val (.ref aU), .val (.int v20), .val (.int (1 : Int32)), .unset] rfl (hb hby at_35) rfl ?_
    refine own_aloadN (pc' := 38) X23 hx rfl rfl (hb hby at_37) rfl ?_
    refine own_iload (pc' := 40) X23 hx rfl (hb hby at_38) rfl ?_
    obtain ⟨cq26, kq26, q26a, q26b, q26c⟩ := isOf hZ e23 E_aU
    obtain ⟨_, _, ⟨T26, L26, k26, n26⟩, -, X26, ⟨Lc26, hQ26, l26, y26, z26⟩, st26⟩ := X23.virtualBack hx (y := (⟨"com/example/handclasp/handclasp/Binding", "answers", "(I)Z"⟩ : MethodName)) (z := (⟨"com/example/handclasp/handclasp/Binding", "answers", "(I)Z"⟩ : MethodName)) hown (mvT hZ (hw _ (List.mem_of_getElem? (i := 8) rfl))) (mvT hZ (hw _ (List.mem_of_getElem? (i := 9) rfl))) (notFace_of_selects (args := #[]) (mvT hZ (hw _ (List.mem_of_getElem? (i := 11) rfl)))) (mvT hZ (hw _ (List.mem_of_getElem? (i := 11) rfl))) (mvT hZ (hw _ (List.mem_of_getElem? (i := 10) rfl))) (by decide) (backOf (W := 0) (rm2U l Z a0 hw [] aU v20 aN h0 n0 Z0 S_NONE S_USED (Ne.symm ne_aN_aU)) hZ (hw _ (List.mem_of_getElem? (i := 12) rfl)) (hw _ (List.mem_of_getElem? (i := 6) rfl)) (by decide) (by decide)) q26a q26c (g := (mkF m 40 #[.val (.int p1), .val (.int p2), .val (.int (1 : Int32)), .val (.ref aU), .val (.int v20), .val (.int (1 : Int32)), .unset] [(.int v20), (.ref aU)])) rfl (by rw [hml]; rfl) (Steps.refl _) (argsL := [(.int v20)]) (rest := []) (lenOf pd_1 rfl) rfl (by show 2 * 0 + _ ≤ _; exact Nat.le_of_eq rfl) (hb hby at_40) (fun _ _ => ⟨rfl, e23, (by decide : 0 + 0 ≤ _), (by decide : 0 + 0 ≤ _)⟩)
    dsimp only [Pt.U, Pt.locs, Pt.cells, Pt.slots] at X26 l26 y26 z26 st26 hQ26
    subst l26 y26 z26
    obtain ⟨o26, rfl, p26, N26, e26⟩ := hQ26
    have ro26 := rng32 o26
    have N26a := Fr.app N23a N26
    refine own_via st26 ?_
    show own_Go p e below (Q0 Z p1 p2 aN aU aC h0 n0) (own_Fr s room_1.cells room_1.slots) (T26.setTop (mkF m 43 #[.val (.int p1), .val (.int p2), .val (.int (1 : Int32)), .val (.ref aU), .val (.int v20), .val (.int (1 : Int32)), .unset] [(.int o26)]))
    refine own_iloadN (pc' := 44) X26 hx rfl (hb hby at_43) rfl ?_
    refine own_iload (pc' := 46) X26 hx rfl (hb hby at_44) rfl ?_
    have kq28 : (1 : Int32).toInt = 1 := by decide
    obtain ⟨_, _, ⟨T27, L27, k27, n27⟩, -, X27, ⟨Lc27, hQ27, l27, y27, z27⟩, st27⟩ := Jvm.LawKit.callS X26 hx (y := (⟨"com/example/handclasp/handclasp/BindingAnswersPinLaw", "expected", "(II)Z"⟩ : MethodName)) hown (mvT hZ (hw _ (List.mem_of_getElem? (i := 13) rfl))) (mvT hZ (hw _ (List.mem_of_getElem? (i := 14) rfl))) (mvT hZ (hw _ (List.mem_of_getElem? (i := 3) rfl))) (mvT hZ (hw _ (List.mem_of_getElem? (i := 15) rfl))) (by decide) (backOf (W := 1) (rm3 l Z a0 hw [] (1 : Int32) v20 h0 n0 Z0 ) hZ (hw _ (List.mem_of_getElem? (i := 15) rfl)) (hw _ (List.mem_of_getElem? (i := 3) rfl)) (by decide) (by decide)) (g := (mkF m 46 #[.val (.int p1), .val (.int p2), .val (.int (1 : Int32)), .val (.ref aU), .val (.int v20), .val (.int (1 : Int32)), .unset] [(.int v20), (.int (1 : Int32)), (.int o26)])) rfl (by rw [hml]; rfl) (argsL := [(.int (1 : Int32)), (.int v20)]) (rest := [(.int o26)]) (lenOf pd_2 rfl) rfl (by show 2 * 0 + _ ≤ _; exact Nat.le_of_eq rfl) (hb hby at_46) (fun _ _ => ⟨rfl, e26, (by decide : 0 + 0 ≤ _), (by decide : 0 + 0 ≤ _)⟩)
    dsimp only [Pt.U, Pt.locs, Pt.cells, Pt.slots] at X27 l27 y27 z27 st27 hQ27
    subst l27 y27 z27
    obtain ⟨o27, rfl, p27, N27, e27⟩ := hQ27
    have N27a := Fr.app N26a N27
    refine own_by st27 ?_
    show own_Go p e below (Q0 Z p1 p2 aN aU aC h0 n0) (own_Fr s room_1.cells room_1.slots) (T27.setTop (mkF m 49 #[.val (.int p1), .val (.int p2), .val (.int (1 : Int32)), .val (.ref aU), .val (.int v20), .val (.int (1 : Int32)), .unset] [(.int o27), (.int o26)]))
    have b29 : o26.toInt = o27.toInt := by omega
    refine own_icmpNo (pc' := 52) X27 hx (own_no_ne rfl rfl b29) (hb hby at_49) rfl ?_
    refine own_iconst (pc' := 53) X27 hx (1 : Int32) (by decide) (hb hby at_52) rfl ?_
    refine own_goto (pc' := 57) X27 hx (hb hby at_53) (by decide) (by decide) ?_
    refine own_istore (pc' := 59) X27 hx #[.val (.int p1), .val (.int p2), .val (.int (1 : Int32)), .val (.ref aU), .val (.int v20), .val (.int (1 : Int32)), .val (.int (1 : Int32))] rfl (hb hby at_57) rfl ?_
    refine own_iload (pc' := 61) X27 hx rfl (hb hby at_59) rfl ?_
    refine own_ifNo (pc' := 64) X27 hx (by decide) (hb hby at_61) rfl ?_
    refine own_iload (pc' := 66) X27 hx rfl (hb hby at_64) rfl ?_
    refine own_ifNo (pc' := 69) X27 hx (by decide) (hb hby at_66) rfl ?_
    refine own_iconst (pc' := 70) X27 hx (1 : Int32) (by decide) (hb hby at_69) rfl ?_
    refine own_goto (pc' := 74) X27 hx (hb hby at_70) (by decide) (by decide) ?_
    refine own_ret X27 hx Bd.returns Bd.notSynchronized (Or.inl ⟨rfl, by simp, _, rfl⟩) (hb hby at_74) rfl (by decide) (by decide) ?_
    show Q0 Z p1 p2 aN aU aC h0 n0 _ T27.heap _
    rw [e27]
    exact ⟨rfl, N27a⟩
  · obtain rfl : v3 = (2 : Int32) := Int32.toInt_inj.mp b5
    have kz30 : (2 : Int32).toInt = 2 := by decide
    refine own_iloadN (pc' := 8) X0 hx rfl (hb hby at_7) rfl ?_
    obtain ⟨_, _, ⟨T31, L31, k31, n31⟩, -, X31, ⟨Lc31, hQ31, l31, y31, z31⟩, st31⟩ := Jvm.LawKit.callS X0 hx (y := (⟨"com/example/handclasp/handclasp/BindingAnswersPinLaw", "pick", "(I)Lcom/example/handclasp/handclasp/Binding;"⟩ : MethodName)) hown (mvT hZ (hw _ (List.mem_of_getElem? (i := 1) rfl))) (mvT hZ (hw _ (List.mem_of_getElem? (i := 2) rfl))) (mvT hZ (hw _ (List.mem_of_getElem? (i := 3) rfl))) (mvT hZ (hw _ (List.mem_of_getElem? (i := 4) rfl))) (by decide) (backOf (W := 0) (rm12 l Z a0 hw [] aC h0 n0 Z0 S_CREATED) hZ (hw _ (List.mem_of_getElem? (i := 4) rfl)) (hw _ (List.mem_of_getElem? (i := 3) rfl)) (by decide) (by decide)) (g := (mkF m 8 #[.val (.int p1), .val (.int p2), .val (.int (2 : Int32)), .unset, .unset, .unset, .unset] [(.int (2 : Int32))])) rfl (by rw [hml]; rfl) (argsL := [(.int (2 : Int32))]) (rest := []) (lenOf pd_0 rfl) rfl (by show 2 * 0 + _ ≤ _; exact Nat.le_of_eq rfl) (hb hby at_8) (fun _ _ => ⟨rfl, e0, (by decide : 0 + 0 ≤ _), (by decide : 0 + 0 ≤ _)⟩)
    dsimp only [Pt.U, Pt.locs, Pt.cells, Pt.slots] at X31 l31 y31 z31 st31 hQ31
    subst l31 y31 z31
    obtain ⟨rfl, p31, N31, e31⟩ := hQ31
    have N31a := Fr.app N0 N31
    refine own_by st31 ?_
    show own_Go p e below (Q0 Z p1 p2 aN aU aC h0 n0) (own_Fr s room_1.cells room_1.slots) (T31.setTop (mkF m 11 #[.val (.int p1), .val (.int p2), .val (.int (2 : Int32)), .unset, .unset, .unset, .unset] [(.ref aC)]))
    refine own_astoreN (pc' := 12) X31 hx #[.val (.int p1), .val (.int p2), .val (.int (2 : Int32)), .val (.ref aC), .unset, .unset, .unset] rfl rfl (hb hby at_11) rfl ?_
    refine own_iloadN (pc' := 13) X31 hx rfl (hb hby at_12) rfl ?_
    refine own_iconst (pc' := 14) X31 hx (4 : Int32) (by decide) (hb hby at_13) rfl ?_
    obtain ⟨v32, hv32⟩ : ∃ z, p2 % (4 : Int32) = z := ⟨_, rfl⟩
    have f33 : (0 ≤ p2.toInt → v32.toInt = p2.toInt % 4) ∧ (p2.toInt < 0 → v32.toInt = -((-p2.toInt) % 4)) := by rw [← hv32]; exact c_irem p2 (4 : Int32) 4 (by decide)
    refine own_irem (pc' := 15) X31 hx (z := v32) (by decide) hv32 (hb hby at_14) rfl ?_
    refine own_istore (pc' := 17) X31 hx #[.val (.int p1), .val (.int p2), .val (.int (2 : Int32)), .val (.ref aC), .val (.int v32), .unset, .unset] rfl (hb hby at_15) rfl ?_
    refine own_aloadN (pc' := 18) X31 hx rfl rfl (hb hby at_17) rfl ?_
    refine own_iloadN (pc' := 19) X31 hx rfl (hb hby at_18) rfl ?_
    obtain ⟨cq34, kq34, q34a, q34b, q34c⟩ := isOf hZ e31 E_aC
    obtain ⟨_, _, ⟨T34, L34, k34, n34⟩, -, X34, ⟨Lc34, hQ34, l34, y34, z34⟩, st34⟩ := X31.virtualBack hx (y := (⟨"com/example/handclasp/handclasp/Binding", "answers", "(I)Z"⟩ : MethodName)) (z := (⟨"com/example/handclasp/handclasp/Binding", "answers", "(I)Z"⟩ : MethodName)) hown (mvT hZ (hw _ (List.mem_of_getElem? (i := 8) rfl))) (mvT hZ (hw _ (List.mem_of_getElem? (i := 9) rfl))) (notFace_of_selects (args := #[]) (mvT hZ (hw _ (List.mem_of_getElem? (i := 11) rfl)))) (mvT hZ (hw _ (List.mem_of_getElem? (i := 11) rfl))) (mvT hZ (hw _ (List.mem_of_getElem? (i := 10) rfl))) (by decide) (backOf (W := 0) (rm2C l Z a0 hw [] aC p2 aN aU h0 n0 Z0 S_NONE S_USED (Ne.symm ne_aN_aC) (Ne.symm ne_aU_aC)) hZ (hw _ (List.mem_of_getElem? (i := 12) rfl)) (hw _ (List.mem_of_getElem? (i := 6) rfl)) (by decide) (by decide)) q34a q34c (g := (mkF m 19 #[.val (.int p1), .val (.int p2), .val (.int (2 : Int32)), .val (.ref aC), .val (.int v32), .unset, .unset] [(.int p2), (.ref aC)])) rfl (by rw [hml]; rfl) (Steps.refl _) (argsL := [(.int p2)]) (rest := []) (lenOf pd_1 rfl) rfl (by show 2 * 0 + _ ≤ _; exact Nat.le_of_eq rfl) (hb hby at_19) (fun _ _ => ⟨rfl, e31, (by decide : 0 + 0 ≤ _), (by decide : 0 + 0 ≤ _)⟩)
    dsimp only [Pt.U, Pt.locs, Pt.cells, Pt.slots] at X34 l34 y34 z34 st34 hQ34
    subst l34 y34 z34
    obtain ⟨o34, rfl, p34, N34, e34⟩ := hQ34
    have ro34 := rng32 o34
    have N34a := Fr.app N31a N34
    refine own_via st34 ?_
    show own_Go p e below (Q0 Z p1 p2 aN aU aC h0 n0) (own_Fr s room_1.cells room_1.slots) (T34.setTop (mkF m 22 #[.val (.int p1), .val (.int p2), .val (.int (2 : Int32)), .val (.ref aC), .val (.int v32), .unset, .unset] [(.int o34)]))
    refine own_iloadN (pc' := 23) X34 hx rfl (hb hby at_22) rfl ?_
    refine own_iloadN (pc' := 24) X34 hx rfl (hb hby at_23) rfl ?_
    have kq36 : (2 : Int32).toInt = 2 := by decide
    obtain ⟨_, _, ⟨T35, L35, k35, n35⟩, -, X35, ⟨Lc35, hQ35, l35, y35, z35⟩, st35⟩ := Jvm.LawKit.callS X34 hx (y := (⟨"com/example/handclasp/handclasp/BindingAnswersPinLaw", "expected", "(II)Z"⟩ : MethodName)) hown (mvT hZ (hw _ (List.mem_of_getElem? (i := 13) rfl))) (mvT hZ (hw _ (List.mem_of_getElem? (i := 14) rfl))) (mvT hZ (hw _ (List.mem_of_getElem? (i := 3) rfl))) (mvT hZ (hw _ (List.mem_of_getElem? (i := 15) rfl))) (by decide) (backOf (W := 1) (rm3 l Z a0 hw [] (2 : Int32) p2 h0 n0 Z0 ) hZ (hw _ (List.mem_of_getElem? (i := 15) rfl)) (hw _ (List.mem_of_getElem? (i := 3) rfl)) (by decide) (by decide)) (g := (mkF m 24 #[.val (.int p1), .val (.int p2), .val (.int (2 : Int32)), .val (.ref aC), .val (.int v32), .unset, .unset] [(.int p2), (.int (2 : Int32)), (.int o34)])) rfl (by rw [hml]; rfl) (argsL := [(.int (2 : Int32)), (.int p2)]) (rest := [(.int o34)]) (lenOf pd_2 rfl) rfl (by show 2 * 0 + _ ≤ _; exact Nat.le_of_eq rfl) (hb hby at_24) (fun _ _ => ⟨rfl, e34, (by decide : 0 + 0 ≤ _), (by decide : 0 + 0 ≤ _)⟩)
    dsimp only [Pt.U, Pt.locs, Pt.cells, Pt.slots] at X35 l35 y35 z35 st35 hQ35
    subst l35 y35 z35
    obtain ⟨o35, rfl, p35, N35, e35⟩ := hQ35
    have N35a := Fr.app N34a N35
    refine own_by st35 ?_
    show own_Go p e below (Q0 Z p1 p2 aN aU aC h0 n0) (own_Fr s room_1.cells room_1.slots) (T35.setTop (mkF m 27 #[.val (.int p1), .val (.int p2), .val (.int (2 : Int32)), .val (.ref aC), .val (.int v32), .unset, .unset] [(.int o35), (.int o34)]))
    have b37 : o34.toInt = o35.toInt := by omega
    refine own_icmpNo (pc' := 30) X35 hx (own_no_ne rfl rfl b37) (hb hby at_27) rfl ?_
    refine own_iconst (pc' := 31) X35 hx (1 : Int32) (by decide) (hb hby at_30) rfl ?_
    refine own_goto (pc' := 35) X35 hx (hb hby at_31) (by decide) (by decide) ?_
    refine own_istore (pc' := 37) X35 hx #[.val (.int p1), .val (.int p2), .val (.int (2 : Int32)), .val (.ref aC), .val (.int v32), .val (.int (1 : Int32)), .unset] rfl (hb hby at_35) rfl ?_
    refine own_aloadN (pc' := 38) X35 hx rfl rfl (hb hby at_37) rfl ?_
    refine own_iload (pc' := 40) X35 hx rfl (hb hby at_38) rfl ?_
    obtain ⟨cq38, kq38, q38a, q38b, q38c⟩ := isOf hZ e35 E_aC
    obtain ⟨_, _, ⟨T38, L38, k38, n38⟩, -, X38, ⟨Lc38, hQ38, l38, y38, z38⟩, st38⟩ := X35.virtualBack hx (y := (⟨"com/example/handclasp/handclasp/Binding", "answers", "(I)Z"⟩ : MethodName)) (z := (⟨"com/example/handclasp/handclasp/Binding", "answers", "(I)Z"⟩ : MethodName)) hown (mvT hZ (hw _ (List.mem_of_getElem? (i := 8) rfl))) (mvT hZ (hw _ (List.mem_of_getElem? (i := 9) rfl))) (notFace_of_selects (args := #[]) (mvT hZ (hw _ (List.mem_of_getElem? (i := 11) rfl)))) (mvT hZ (hw _ (List.mem_of_getElem? (i := 11) rfl))) (mvT hZ (hw _ (List.mem_of_getElem? (i := 10) rfl))) (by decide) (backOf (W := 0) (rm2C l Z a0 hw [] aC v32 aN aU h0 n0 Z0 S_NONE S_USED (Ne.symm ne_aN_aC) (Ne.symm ne_aU_aC)) hZ (hw _ (List.mem_of_getElem? (i := 12) rfl)) (hw _ (List.mem_of_getElem? (i := 6) rfl)) (by decide) (by decide)) q38a q38c (g := (mkF m 40 #[.val (.int p1), .val (.int p2), .val (.int (2 : Int32)), .val (.ref aC), .val (.int v32), .val (.int (1 : Int32)), .unset] [(.int v32), (.ref aC)])) rfl (by rw [hml]; rfl) (Steps.refl _) (argsL := [(.int v32)]) (rest := []) (lenOf pd_1 rfl) rfl (by show 2 * 0 + _ ≤ _; exact Nat.le_of_eq rfl) (hb hby at_40) (fun _ _ => ⟨rfl, e35, (by decide : 0 + 0 ≤ _), (by decide : 0 + 0 ≤ _)⟩)
    dsimp only [Pt.U, Pt.locs, Pt.cells, Pt.slots] at X38 l38 y38 z38 st38 hQ38
    subst l38 y38 z38
    obtain ⟨o38, rfl, p38, N38, e38⟩ := hQ38
    have ro38 := rng32 o38
    have N38a := Fr.app N35a N38
    refine own_via st38 ?_
    show own_Go p e below (Q0 Z p1 p2 aN aU aC h0 n0) (own_Fr s room_1.cells room_1.slots) (T38.setTop (mkF m 43 #[.val (.int p1), .val (.int p2), .val (.int (2 : Int32)), .val (.ref aC), .val (.int v32), .val (.int (1 : Int32)), .unset] [(.int o38)]))
    refine own_iloadN (pc' := 44) X38 hx rfl (hb hby at_43) rfl ?_
    refine own_iload (pc' := 46) X38 hx rfl (hb hby at_44) rfl ?_
    have kq40 : (2 : Int32).toInt = 2 := by decide
    obtain ⟨_, _, ⟨T39, L39, k39, n39⟩, -, X39, ⟨Lc39, hQ39, l39, y39, z39⟩, st39⟩ := Jvm.LawKit.callS X38 hx (y := (⟨"com/example/handclasp/handclasp/BindingAnswersPinLaw", "expected", "(II)Z"⟩ : MethodName)) hown (mvT hZ (hw _ (List.mem_of_getElem? (i := 13) rfl))) (mvT hZ (hw _ (List.mem_of_getElem? (i := 14) rfl))) (mvT hZ (hw _ (List.mem_of_getElem? (i := 3) rfl))) (mvT hZ (hw _ (List.mem_of_getElem? (i := 15) rfl))) (by decide) (backOf (W := 1) (rm3 l Z a0 hw [] (2 : Int32) v32 h0 n0 Z0 ) hZ (hw _ (List.mem_of_getElem? (i := 15) rfl)) (hw _ (List.mem_of_getElem? (i := 3) rfl)) (by decide) (by decide)) (g := (mkF m 46 #[.val (.int p1), .val (.int p2), .val (.int (2 : Int32)), .val (.ref aC), .val (.int v32), .val (.int (1 : Int32)), .unset] [(.int v32), (.int (2 : Int32)), (.int o38)])) rfl (by rw [hml]; rfl) (argsL := [(.int (2 : Int32)), (.int v32)]) (rest := [(.int o38)]) (lenOf pd_2 rfl) rfl (by show 2 * 0 + _ ≤ _; exact Nat.le_of_eq rfl) (hb hby at_46) (fun _ _ => ⟨rfl, e38, (by decide : 0 + 0 ≤ _), (by decide : 0 + 0 ≤ _)⟩)
    dsimp only [Pt.U, Pt.locs, Pt.cells, Pt.slots] at X39 l39 y39 z39 st39 hQ39
    subst l39 y39 z39
    obtain ⟨o39, rfl, p39, N39, e39⟩ := hQ39
    have N39a := Fr.app N38a N39
    refine own_by st39 ?_
    show own_Go p e below (Q0 Z p1 p2 aN aU aC h0 n0) (own_Fr s room_1.cells room_1.slots) (T39.setTop (mkF m 49 #[.val (.int p1), .val (.int p2), .val (.int (2 : Int32)), .val (.ref aC), .val (.int v32), .val (.int (1 : Int32)), .unset] [(.int o39), (.int o38)]))
    have b41 : o38.toInt = o39.toInt := by omega
    refine own_icmpNo (pc' := 52) X39 hx (own_no_ne rfl rfl b41) (hb hby at_49) rfl ?_
    refine own_iconst (pc' := 53) X39 hx (1 : Int32) (by decide) (hb hby at_52) rfl ?_
    refine own_goto (pc' := 57) X39 hx (hb hby at_53) (by decide) (by decide) ?_
    refine own_istore (pc' := 59) X39 hx #[.val (.int p1), .val (.int p2), .val (.int (2 : Int32)), .val (.ref aC), .val (.int v32), .val (.int (1 : Int32)), .val (.int (1 : Int32))] rfl (hb hby at_57) rfl ?_
    refine own_iload (pc' := 61) X39 hx rfl (hb hby at_59) rfl ?_
    refine own_ifNo (pc' := 64) X39 hx (by decide) (hb hby at_61) rfl ?_
    refine own_iload (pc' := 66) X39 hx rfl (hb hby at_64) rfl ?_
    refine own_ifNo (pc' := 69) X39 hx (by decide) (hb hby at_66) rfl ?_
    refine own_iconst (pc' := 70) X39 hx (1 : Int32) (by decide) (hb hby at_69) rfl ?_
    refine own_goto (pc' := 74) X39 hx (hb hby at_70) (by decide) (by decide) ?_
    refine own_ret X39 hx Bd.returns Bd.notSynchronized (Or.inl ⟨rfl, by simp, _, rfl⟩) (hb hby at_74) rfl (by decide) (by decide) ?_
    show Q0 Z p1 p2 aN aU aC h0 n0 _ T39.heap _
    rw [e39]
    exact ⟨rfl, N39a⟩
set_option maxRecDepth 65536 in
set_option maxHeartbeats 40000000 in
theorem comes_1 {Post : Tables → Env → Array Value → State → Outcome → State → Prop} (hpost : ∀ tb e args s v u, (limb_1_1.after args s (.returned v) u = true ∧ limb_1_2.after args s (.returned v) u = true ∧ True) → FrameEnd s (.returned v) u (Jvm.fieldLocs frame_1_writes args s ++ Jvm.arrayLocs frame_1_arrays args s ++ Jvm.staticLocs frame_1_statics s) 0 0 → Post tb e args s (.returned v) u) :
    ArmFor flags0 classFile x code maxLocals ret World_1 tables_1 room_1 Calls_1 rest_1 Pre_1 Post := by
  intro l hfl _ _ p e ha hc hk s m args below hf hA hF happ hP
  obtain ⟨hcalls, hrest, hpre⟩ := hP
  obtain ⟨-, -, -, hnamed, -, -, -, hat⟩ := (Spec.applies_iff hf).mp happ
  obtain ⟨hg, hn⟩ := and_e (Cond.before_iff.mp (show (Jvm.Cond.and given_1 narrow_1).before args s = true from hpre))
  obtain ⟨g0, gr0⟩ := and_e hg
  obtain ⟨g1, gr1⟩ := and_e gr0
  obtain ⟨w0, w1, rfl⟩ : ∃ w0 w1 : Value, args = #[w0, w1] := by
    have hs : args.size = 2 := by simpa [Cond.value, given_1] using g0
    obtain ⟨L⟩ := args
    match L, hs with
    | [w0, w1], _ => exact ⟨w0, w1, rfl⟩
  have hw := fun d (hd : d ∈ tables_1) => atoms_spec (ws := Jvm.Cond.code x code maxLocals ret :: tables_1) hat d (List.mem_cons_of_mem _ hd)
  obtain ⟨i0, ev0⟩ := is_v g1
  obtain rfl : w0 = (.int i0) := Option.some.inj ev0
  obtain ⟨i1, ev1⟩ := is_v gr1
  obtain rfl : w1 = (.int i1) := Option.some.inj ev1
  obtain ⟨x0, y0⟩ := and_e hn
  obtain ⟨x1, y1⟩ := and_e y0
  obtain ⟨x2, y2⟩ := and_e y1
  obtain ⟨x3, y3⟩ := and_e y2
  obtain ⟨x4, x5⟩ := and_e y3
  obtain ⟨aN, evaN⟩ := exa_v x0
  have E_aN : Exa s s.heap aN "com/example/handclasp/handclasp/Binding" := Exa.start evaN x0
  have S_NONE : Sta s s.heap "com/example/handclasp/handclasp/Binding" "NONE" "Lcom/example/handclasp/handclasp/Binding;" (.ref aN) := Sta.start evaN (Or.inr ⟨(hw _ (List.mem_of_getElem? (i := 6) rfl)), (hw _ (List.mem_of_getElem? (i := 7) rfl))⟩)
  have O_aN : Fld s s.heap aN "java/lang/Enum" "ordinal" "I" (.int (0 : Int32)) := Fld.start (own_fldv evaN x3)
  obtain ⟨aC, evaC⟩ := exa_v x1
  have E_aC : Exa s s.heap aC "com/example/handclasp/handclasp/Binding" := Exa.start evaC x1
  have S_CREATED : Sta s s.heap "com/example/handclasp/handclasp/Binding" "CREATED" "Lcom/example/handclasp/handclasp/Binding;" (.ref aC) := Sta.start evaC (Or.inr ⟨(hw _ (List.mem_of_getElem? (i := 6) rfl)), (hw _ (List.mem_of_getElem? (i := 17) rfl))⟩)
  have O_aC : Fld s s.heap aC "java/lang/Enum" "ordinal" "I" (.int (2 : Int32)) := Fld.start (own_fldv evaC x2)
  obtain ⟨aU, evaU⟩ := exa_v x4
  have E_aU : Exa s s.heap aU "com/example/handclasp/handclasp/Binding" := Exa.start evaU x4
  have S_USED : Sta s s.heap "com/example/handclasp/handclasp/Binding" "USED" "Lcom/example/handclasp/handclasp/Binding;" (.ref aU) := Sta.start evaU (Or.inr ⟨(hw _ (List.mem_of_getElem? (i := 6) rfl)), (hw _ (List.mem_of_getElem? (i := 20) rfl))⟩)
  have O_aU : Fld s s.heap aU "java/lang/Enum" "ordinal" "I" (.int (1 : Int32)) := Fld.start (own_fldv evaU x5)
  obtain ⟨n, o, h1, h2, h3, _, L, rfl, ⟨rfl, N⟩, hq⟩ := rm0 l s _ hw tables_1 i0 i1 aN aU aC s.heap s.heap.size (Nat.le_refl _) S_NONE S_USED S_CREATED E_aN E_aU E_aC (O_aN.ne O_aU (by decide)) (O_aN.ne O_aC (by decide)) (O_aU.ne O_aC (by decide)) p e ha hc hk s m _ below hf ((Spec.applies_iff_loose hf).mp happ).1 ⟨rfl, State.Warmed39.refl s, rfl⟩ trivial
  refine ⟨n, _, h1, h2, h3, hpost _ _ _ _ _ _ ⟨Cond.after_iff.mpr rfl, Cond.after_iff.mpr (eq_i res_at (Term.int_eval (1)) rfl), trivial⟩ ⟨hq.1, hq.2.1, (hq.2.2.sift fun y hy => Or.inr (N y hy)).mono (by decide) (by decide)⟩⟩
theorem main_1_1 : Claimed_1_1 := comes_1 fun _ _ _ _ _ _ h hF => ⟨h.1, hF⟩
theorem main_1_2 : Claimed_1_2 := comes_1 fun _ _ _ _ _ _ h hF => ⟨h.2.1, hF⟩
end Jvm.Pilot.@@N@@
namespace Jvm.Pilot.@@N@@
open Jvm Jvm.ClassFile Sem Op Lib Jvm.Free Jvm.Stand Jvm.Pilot.@@N@@.Jvm.D
/-! MADE BY PROGRAM (witnessworld.py) out of the Statement's table words and the real class files: 12 classes; the members and pool entries that the words name. The judged class is class 1, her method 3. -/
namespace start1
open Jvm.ClassFile
def u (s : String) : CpInfo := .utf8 (stringToUtf16 s)
/-- a pool by its gaps: so many unusable entries, then the entry; so many at the end -/
def gap : Nat → List CpInfo → List CpInfo
  | 0, r => r
  | n + 1, r => .unusable :: gap n r
def poolList (es : List (Nat × CpInfo)) (last : Nat) : List CpInfo := es.foldr (fun e r => gap e.1 (e.2 :: r)) (gap last [])
def pool (es : List (Nat × CpInfo)) (last : Nat) : Array CpInfo := ⟨poolList es last⟩
def fileOf (pool : Array CpInfo) (this : Nat) (attrs : Array Attribute := #[]) (ms : Array MethodInfo := #[]) (fl : Nat := 33) (sup : Nat := 0) (ifs : Array Nat := #[]) (fds : Array FieldInfo := #[]) : ClassFile where
  minorVersion := 0
  majorVersion := 65
  constantPool := pool
  accessFlags := fl
  thisClass := this
  superClass := sup
  interfaces := ifs
  fields := fds
  methods := ms
  attributes := attrs
def plain (name : String) (sup : Option ClassId) : Class where
  name := name
  kind := .ordinary
  loader := none
  accessFlags := 33
  super := sup
  interfaces := #[]
  cf := none
  fields := #[]
  methods := #[]
  instanceTypes := #[]
  staticTypes := #[]
  resolved := #[]
  callSites := []
  init := .initialized
  statics := none
  mirror := none

def pool0 : Array CpInfo := pool [(5, u "<init>"), (0, u "()V"), (1, .class_ 10), (1, u "java/lang/Object")] 113

def k0m0 : Method := { name := "<init>", desc := "()V", sig := { parameters := [], returnType := none }, accessFlags := 1, code := none }
/-- java/lang/Object -/
def k0 : Class := { plain "java/lang/Object" none with
  accessFlags := 33
  interfaces := #[]
  cf := some (fileOf pool0 8 #[] #[{ accessFlags := 1, nameIndex := 5, descriptorIndex := 6, attributes := #[] }] 33 0 #[] #[])
  fields := #[]
  methods := #[k0m0]
  instanceTypes := #[]
  staticTypes := #[]
  resolved := Array.replicate 124 none
  statics := none }

def pool1 : Array CpInfo := pool [(2, .class_ 4), (1, u "java/lang/Object"), (0, u "<init>"), (0, u "()V"), (0, .fieldref 8 9), (0, .class_ 10), (0, .nameAndType 11 12), (0, u "com/example/handclasp/handclasp/Binding"), (0, u "NONE"), (0, u "Lcom/example/handclasp/handclasp/Binding;"), (0, .fieldref 8 14), (0, .nameAndType 15 12), (0, u "USED"), (0, .fieldref 8 17), (0, .nameAndType 18 12), (0, u "CREATED"), (0, .integer 2147483647), (0, .methodref 21 22), (0, .class_ 23), (0, .nameAndType 24 25), (0, u "com/example/handclasp/handclasp/BindingAnswersPinLaw"), (0, u "pick"), (0, u "(I)Lcom/example/handclasp/handclasp/Binding;"), (0, .methodref 8 27), (0, .nameAndType 28 29), (0, u "answers"), (0, u "(I)Z"), (0, .methodref 21 31), (0, .nameAndType 32 33), (0, u "expected"), (0, u "(II)Z"), (3, u "law")] 2

def k1m0 : Method := { name := "<init>", desc := "()V", sig := { parameters := [], returnType := none }, accessFlags := 2, code := none }
def k1c1 : Code := { maxStack := 2, maxLocals := 1, code := method_2_code, exceptionTable := #[], attributes := #[] }
def k1m1 : Method := { name := "pick", desc := "(I)Lcom/example/handclasp/handclasp/Binding;", sig := { parameters := [.int], returnType := some (.object "com/example/handclasp/handclasp/Binding") }, accessFlags := 10, code := some k1c1 }
def k1c2 : Code := { maxStack := 2, maxLocals := 2, code := method_3_code, exceptionTable := #[], attributes := #[] }
def k1m2 : Method := { name := "expected", desc := "(II)Z", sig := { parameters := [.int, .int], returnType := some .boolean }, accessFlags := 10, code := some k1c2 }
def k1c3 : Code := { maxStack := 3, maxLocals := 7, code := code, exceptionTable := #[], attributes := #[] }
def k1m3 : Method := { name := "law", desc := "(II)Z", sig := { parameters := [.int, .int], returnType := some .boolean }, accessFlags := 9, code := some k1c3 }
/-- com/example/handclasp/handclasp/BindingAnswersPinLaw -/
def k1 : Class := { plain "com/example/handclasp/handclasp/BindingAnswersPinLaw" (some 0) with
  accessFlags := 49
  interfaces := #[]
  cf := some (fileOf pool1 21 #[] #[{ accessFlags := 2, nameIndex := 5, descriptorIndex := 6, attributes := #[] }, { accessFlags := 10, nameIndex := 24, descriptorIndex := 25, attributes := #[] }, { accessFlags := 10, nameIndex := 32, descriptorIndex := 33, attributes := #[] }, { accessFlags := 9, nameIndex := 37, descriptorIndex := 33, attributes := #[] }] 49 2 #[] #[])
  fields := #[]
  methods := #[k1m0, k1m1, k1m2, k1m3]
  instanceTypes := #[]
  staticTypes := #[]
  resolved := Array.replicate 40 none
  statics := none }

def pool2 : Array CpInfo := pool [(1, .class_ 2), (0, u "java/lang/constant/Constable"), (0, .class_ 4), (0, u "java/lang/Object")] 6

/-- java/lang/constant/Constable -/
def k2 : Class := { plain "java/lang/constant/Constable" (some 0) with
  accessFlags := 1537
  interfaces := #[]
  cf := some (fileOf pool2 1 #[] #[] 1537 3 #[] #[])
  fields := #[]
  methods := #[]
  instanceTypes := #[]
  staticTypes := #[]
  resolved := Array.replicate 11 none
  statics := none }

def pool3 : Array CpInfo := pool [(1, .class_ 2), (0, u "java/lang/Comparable"), (0, .class_ 4), (0, u "java/lang/Object")] 7

/-- java/lang/Comparable -/
def k3 : Class := { plain "java/lang/Comparable" (some 0) with
  accessFlags := 1537
  interfaces := #[]
  cf := some (fileOf pool3 1 #[] #[] 1537 3 #[] #[])
  fields := #[]
  methods := #[]
  instanceTypes := #[]
  staticTypes := #[]
  resolved := Array.replicate 12 none
  statics := none }

def pool4 : Array CpInfo := pool [(1, .class_ 2), (0, u "java/io/Serializable"), (0, .class_ 4), (0, u "java/lang/Object")] 2

/-- java/io/Serializable -/
def k4 : Class := { plain "java/io/Serializable" (some 0) with
  accessFlags := 1537
  interfaces := #[]
  cf := some (fileOf pool4 1 #[] #[] 1537 3 #[] #[])
  fields := #[]
  methods := #[]
  instanceTypes := #[]
  staticTypes := #[]
  resolved := Array.replicate 7 none
  statics := none }

def pool5 : Array CpInfo := pool [(2, .class_ 4), (1, u "java/lang/Enum"), (0, u "name"), (0, u "Ljava/lang/String;"), (2, u "ordinal"), (0, u "I"), (1, .class_ 14), (1, u "java/lang/Object"), (4, u "hash"), (86, .class_ 108), (1, u "java/lang/Enum$EnumDesc"), (2, .class_ 112), (0, u "java/lang/constant/Constable"), (0, .class_ 114), (0, u "java/lang/Comparable"), (0, .class_ 116), (0, u "java/io/Serializable")] 87

/-- java/lang/Enum -/
def k5 : Class := { plain "java/lang/Enum" (some 0) with
  accessFlags := 1057
  interfaces := #[2, 3, 4]
  cf := some (fileOf pool5 2 #[.nestMembers #[106]] #[] 1057 12 #[111, 113, 115] #[{ accessFlags := 18, nameIndex := 5, descriptorIndex := 6, attributes := #[] }, { accessFlags := 18, nameIndex := 9, descriptorIndex := 10, attributes := #[] }, { accessFlags := 2, nameIndex := 19, descriptorIndex := 10, attributes := #[] }])
  fields := #[{ name := "name", type := (.object "java/lang/String"), accessFlags := 18, slot := 0, constantValue := 0 }, { name := "ordinal", type := .int, accessFlags := 18, slot := 1, constantValue := 0 }, { name := "hash", type := .int, accessFlags := 2, slot := 2, constantValue := 0 }]
  methods := #[]
  instanceTypes := #[(.object "java/lang/String"), .int, .int]
  staticTypes := #[]
  resolved := Array.replicate 204 none
  statics := none }

def pool6 : Array CpInfo := pool [(1, .class_ 2), (0, u "com/example/handclasp/handclasp/Binding"), (0, .fieldref 1 4), (0, .nameAndType 5 6), (0, u "NONE"), (0, u "Lcom/example/handclasp/handclasp/Binding;"), (0, .fieldref 1 8), (0, .nameAndType 9 6), (0, u "USED"), (2, u "CREATED"), (2, u "$VALUES"), (0, u "[Lcom/example/handclasp/handclasp/Binding;"), (6, .class_ 25), (1, u "java/lang/Enum"), (8, u "value"), (0, u "I"), (65, u "(I)Z"), (3, u "answers")] 28

def k6c0 : Code := { maxStack := 2, maxLocals := 2, code := prog_18_method_8_code, exceptionTable := #[], attributes := #[] }
def k6m0 : Method := { name := "answers", desc := "(I)Z", sig := { parameters := [.int], returnType := some .boolean }, accessFlags := 0, code := some k6c0 }
/-- com/example/handclasp/handclasp/Binding -/
def k6 : Class := { plain "com/example/handclasp/handclasp/Binding" (some 5) with
  accessFlags := 16433
  interfaces := #[]
  cf := some (fileOf pool6 1 #[] #[{ accessFlags := 0, nameIndex := 105, descriptorIndex := 101, attributes := #[] }] 16433 23 #[] #[{ accessFlags := 16409, nameIndex := 5, descriptorIndex := 6, attributes := #[] }, { accessFlags := 16409, nameIndex := 9, descriptorIndex := 6, attributes := #[] }, { accessFlags := 16409, nameIndex := 12, descriptorIndex := 6, attributes := #[] }, { accessFlags := 18, nameIndex := 34, descriptorIndex := 35, attributes := #[] }, { accessFlags := 4122, nameIndex := 15, descriptorIndex := 16, attributes := #[] }])
  fields := #[{ name := "NONE", type := (.object "com/example/handclasp/handclasp/Binding"), accessFlags := 16409, slot := 0, constantValue := 0 }, { name := "USED", type := (.object "com/example/handclasp/handclasp/Binding"), accessFlags := 16409, slot := 1, constantValue := 0 }, { name := "CREATED", type := (.object "com/example/handclasp/handclasp/Binding"), accessFlags := 16409, slot := 2, constantValue := 0 }, { name := "value", type := .int, accessFlags := 18, slot := 3, constantValue := 0 }, { name := "$VALUES", type := (.array (.object "com/example/handclasp/handclasp/Binding")), accessFlags := 4122, slot := 3, constantValue := 0 }]
  methods := #[k6m0]
  instanceTypes := #[(.object "java/lang/String"), .int, .int, .int]
  staticTypes := #[(.object "com/example/handclasp/handclasp/Binding"), (.object "com/example/handclasp/handclasp/Binding"), (.object "com/example/handclasp/handclasp/Binding"), (.array (.object "com/example/handclasp/handclasp/Binding"))]
  resolved := Array.replicate 134 none
  statics := some 0 }

def pool7 : Array CpInfo := pool [(1, u "java/lang/Cloneable"), (0, .class_ 1), (0, u "java/lang/Object"), (0, .class_ 3)] 3

/-- java/lang/Cloneable -/
def k7 : Class := { plain "java/lang/Cloneable" (some 0) with
  accessFlags := 1537
  interfaces := #[]
  cf := some (fileOf pool7 2 #[] #[] 1537 4 #[] #[])
  fields := #[]
  methods := #[]
  instanceTypes := #[]
  staticTypes := #[]
  resolved := Array.replicate 8 none
  statics := none }

/-- the primitive byte -/
def k8 : Class := { plain "byte" none with kind := .primitive 'B', accessFlags := 0x411 }
/-- [B -/
def k9 : Class := { plain "[B" (some 0) with kind := .array 8 .byte, interfaces := #[7, 4], accessFlags := 1041 }

/-- the primitive int -/
def k10 : Class := { plain "int" none with kind := .primitive 'I', accessFlags := 0x411 }
/-- [I -/
def k11 : Class := { plain "[I" (some 0) with kind := .array 10 .int, interfaces := #[7, 4], accessFlags := 1041 }

def heap : Heap := #[{ cls := 6, slots := #[.ref 1, .ref 2, .ref 3, .null], vm := .statics 6 },
  { cls := 6, slots := #[.null, .int 0, .int 0, .int 0], vm := .none },
  { cls := 6, slots := #[.null, .int 1, .int 0, .int 0], vm := .none },
  { cls := 6, slots := #[.null, .int 2, .int 0, .int 0], vm := .none }]
def classes : Array Class := #[k0, k1, k2, k3, k4, k5, k6, k7, k8, k9, k10, k11]
def interned : List (Array UInt16 × Addr) := []
def slotsUsed : Nat := 16
def theMethod : MethodId := ⟨1, 3⟩
def args0 : Array Value := #[.int 5, .int 3]
def aboutOver (below : List Frame) : State where
  vm := { classes := classes, interned := interned.toArray }
  heap := heap
  slotsUsed := slotsUsed
  threads := #[{ frames := .invoking theMethod args0 :: below }]
def below0 : List Frame := [.native { method := ⟨0, 0⟩, args := #[] }]
def about1 : State := aboutOver below0
def p0 : Program := .bare "" "" ""
def e0 : Env := launch0.env 0 0 0
theorem w_frames : about1.frames = Frame.invoking theMethod args0 :: below0 := rfl
set_option maxRecDepth 65536 in
theorem w_args : argsFit about1.vm theMethod args0 = true := by decide +kernel
set_option maxRecDepth 65536 in
theorem w_heap : heapFits about1 = true := by decide +kernel
set_option maxRecDepth 65536 in
theorem w_runnable : about1.curStatus? = some .runnable := by decide +kernel
set_option maxRecDepth 65536 in
theorem w_alone : about1.alone = true := by decide +kernel
set_option maxRecDepth 65536 in
theorem w_named : about1.methodNamed? x = some theMethod := by decide +kernel
set_option maxRecDepth 65536 in
theorem w_hears : about1.hears theMethod below0 = true := by decide +kernel
set_option maxRecDepth 65536 in
theorem w_ripe : about1.ripe theMethod args0 below0 = true := by decide +kernel
theorem w_running : about1.status = .running := rfl
set_option maxRecDepth 65536 in
theorem w_room : about1.hasRoom e0.platform room_1 = true :=
  launch0.hasRoom_least _ room_1 (by decide +kernel) (by decide +kernel) (by decide +kernel) (by decide +kernel) (by decide +kernel) (by decide +kernel)
theorem allAtoms_all (ts : List Jvm.Cond) (a : Array Jvm.Value) (st : Jvm.State) : (allAtoms ts).before a st = ts.all (fun c => c.before a st) := by
  induction ts with
  | nil => rfl
  | cons c t ih =>
    show (Jvm.Cond.and c (allAtoms t)).before a st = _
    rw [Jvm.Cond.before_and, ih, List.all_cons]
def words1 : List Jvm.Cond := Jvm.Cond.code x code maxLocals ret :: tables_1
/-- a 'code' word, met by the world's own term for the bytes: nothing is compared byte by byte -/
theorem code_word {y : MethodName} {bytes : ByteArray} {mx : Nat} {rt : Option FieldType} {a : Array Value} {s : State} {m : MethodId} {meth : Method} {c : Code} (h1 : s.methodNamed? y = some m) (h2 : s.vm.method? m = some meth) (h3 : meth.code = some c) (h4 : c.code = bytes)
    (h5 : (c.maxLocals == mx && c.exceptionTable.isEmpty && decide (c.maxStack ≤ mostOperands) && decide (meth.sig.returnType = rt) && !meth.locks && decide (parseMethodDescriptor y.desc = some meth.sig)) = true) : (Jvm.Cond.code y bytes mx rt).before a s = true := by
  simp only [Bool.and_eq_true, beq_iff_eq, Bool.not_eq_true', decide_eq_true_eq] at h5
  obtain ⟨⟨⟨⟨⟨g1, g2⟩, g3⟩, g4⟩, g5⟩, g6⟩ := h5
  simp [Cond.before, Cond.holds, Cond.value, h1, h2, h3, h4, g1, g2, g3, g4, g5, g6]
def isCode : Jvm.Cond → Bool
  | .code _ _ _ _ => true
  | _ => false
theorem all_split {L : List Jvm.Cond} {P : Jvm.Cond → Bool} (h1 : L.all (fun c => isCode c || P c) = true) (h2 : ∀ c ∈ L.filter isCode, P c = true) : L.all P = true := by
  refine List.all_eq_true.mpr fun c hc => ?_
  have h := List.all_eq_true.mp h1 c hc
  rcases Bool.eq_false_or_eq_true (isCode c) with hi | hi
  · exact h2 c (List.mem_filter.mpr ⟨hc, hi⟩)
  · simpa [hi] using h
set_option maxRecDepth 65536 in
theorem w_c0 : (Jvm.Cond.code x code maxLocals ret).before args0 about1 = true := code_word (m := ⟨1, 3⟩) (meth := k1m3) (c := k1c3) (by decide +kernel) rfl rfl rfl (by decide +kernel)
set_option maxRecDepth 65536 in
theorem w_c1 : (Jvm.Cond.code ({ cls := "com/example/handclasp/handclasp/BindingAnswersPinLaw", name := "pick", desc := "(I)Lcom/example/handclasp/handclasp/Binding;" } : Jvm.MethodName) method_2_code (1 : Nat) (Option.some (Jvm.ClassFile.FieldType.object "com/example/handclasp/handclasp/Binding"))).before args0 about1 = true := code_word (m := ⟨1, 1⟩) (meth := k1m1) (c := k1c1) (by decide +kernel) rfl rfl rfl (by decide +kernel)
set_option maxRecDepth 65536 in
theorem w_c2 : (Jvm.Cond.code ({ cls := "com/example/handclasp/handclasp/Binding", name := "answers", desc := "(I)Z" } : Jvm.MethodName) prog_18_method_8_code (2 : Nat) (Option.some Jvm.ClassFile.FieldType.boolean)).before args0 about1 = true := code_word (m := ⟨6, 0⟩) (meth := k6m0) (c := k6c0) (by decide +kernel) rfl rfl rfl (by decide +kernel)
set_option maxRecDepth 65536 in
theorem w_c3 : (Jvm.Cond.code ({ cls := "com/example/handclasp/handclasp/BindingAnswersPinLaw", name := "expected", desc := "(II)Z" } : Jvm.MethodName) method_3_code (2 : Nat) (Option.some Jvm.ClassFile.FieldType.boolean)).before args0 about1 = true := code_word (m := ⟨1, 2⟩) (meth := k1m2) (c := k1c2) (by decide +kernel) rfl rfl rfl (by decide +kernel)
def codes1 : List Jvm.Cond := [Jvm.Cond.code x code maxLocals ret, Jvm.Cond.code ({ cls := "com/example/handclasp/handclasp/BindingAnswersPinLaw", name := "pick", desc := "(I)Lcom/example/handclasp/handclasp/Binding;" } : Jvm.MethodName) method_2_code (1 : Nat) (Option.some (Jvm.ClassFile.FieldType.object "com/example/handclasp/handclasp/Binding")), Jvm.Cond.code ({ cls := "com/example/handclasp/handclasp/Binding", name := "answers", desc := "(I)Z" } : Jvm.MethodName) prog_18_method_8_code (2 : Nat) (Option.some Jvm.ClassFile.FieldType.boolean), Jvm.Cond.code ({ cls := "com/example/handclasp/handclasp/BindingAnswersPinLaw", name := "expected", desc := "(II)Z" } : Jvm.MethodName) method_3_code (2 : Nat) (Option.some Jvm.ClassFile.FieldType.boolean)]
set_option maxRecDepth 65536 in
theorem codes_eq : words1.filter isCode = codes1 := rfl
theorem w_codes : ∀ c ∈ words1.filter isCode, c.before args0 about1 = true := by
  rw [codes_eq]
  intro c hc
  simp only [codes1, List.mem_cons, List.not_mem_nil, or_false] at hc
  rcases hc with rfl | rfl | rfl | rfl
  · exact w_c0
  · exact w_c1
  · exact w_c2
  · exact w_c3
set_option maxRecDepth 65536 in
theorem w_t1 : words1.all (fun c => isCode c || c.before args0 about1) = true := by decide +kernel
theorem w_tables : (allAtoms (Jvm.Cond.code x code maxLocals ret :: tables_1)).before args0 about1 = true := by
  rw [allAtoms_all]
  show words1.all (fun c => c.before args0 about1) = true
  refine all_split ?_ w_codes
  rw [w_t1]
set_option maxRecDepth 65536 in
theorem w_case : (Jvm.Cond.and given_1 narrow_1).before args0 about1 = true := by decide +kernel
theorem w_applies : (headSpec (Jvm.Cond.code x code maxLocals ret :: tables_1) room_1).applies x e0.platform about1 = true :=
  (Spec.applies_iff w_frames).mpr ⟨w_running, w_runnable, w_alone, w_named, w_hears, w_ripe, w_room, w_tables⟩
theorem atStart : AtStart classFile x code maxLocals ret World_1 tables_1 room_1 Calls_1 rest_1 Pre_1 launch0 p0 e0 about1 theMethod args0 below0 :=
  ⟨lists_1, trivial, launch0.admits_env _ _ _, launch0.least_env, fairChoices_fair.cas, fairChoices_fair.clock, w_frames, w_args, w_heap, w_applies, trivial, trivial, w_case⟩
end start1
theorem witness_1 : WitnessClaimed_1 := ⟨start1.p0, start1.e0, start1.about1, start1.theMethod, start1.args0, start1.below0, start1.atStart⟩
end Jvm.Pilot.@@N@@
