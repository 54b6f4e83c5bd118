import JvmDerived
import JvmDerived.Pilot.@@N@@Statement
import JvmDerived.Pilot.@@N@@Code
set_option linter.unusedVariables false
set_option linter.unusedSimpArgs false
namespace Jvm.Pilot.@@N@@
open Jvm Jvm.ClassFile Sem Op Lib Jvm.Free Jvm.Stand Jvm.LawKit Jvm.RoadKit Bundle Jvm.Pilot.@@N@@.Jvm.D
section OwnKit
variable {p : Program} {l : Launch} {e : Env} {R : Room} {s : State} {m : MethodId} {args : Array Value} {below : List Frame} {meth : Method} {c : Code} {T : State} {locs : List Loc} {cells slots : Nat}
/-- from U the walk comes to its end, and there Q holds -/
def own_Go (p : Program) (e : Env) (below : List Frame) (Q : Option Value → Heap → List Loc → Prop) (F : List Loc → Outcome → State → Prop) (U : State) : Prop :=
  ∃ t o, Steps p.tables e below U t ∧ t.status = .running ∧ Ended t below o ∧ ∃ v L, o = .returned v ∧ Q v t.heap L ∧ F L o t
def own_Fr (s : State) (C S : Nat) (L : List Loc) (o : Outcome) (t : State) : Prop := FrameEnd s o t L C S
def own_FrW (s : State) (C S : Nat) (L : List Loc) (o : Outcome) (t : State) : Prop := ReturnedEndW s o t L C S
variable {Q : Option Value → Heap → List Loc → Prop} {F : List Loc → Outcome → State → Prop} {C S : Nat}
theorem own_by {U U' : State} (k : ∀ t, Steps p.tables e below U' t → Steps p.tables e below U t) (h : own_Go p e below Q F U') : own_Go p e below Q F U := by
  obtain ⟨t, o, h1, h2⟩ := h
  exact ⟨t, o, k t h1, h2⟩
theorem own_via {U U' : State} (k : Steps p.tables e below U U') (h : own_Go p e below Q F U') : own_Go p e below Q F U := own_by (fun _ q => k.trans q) h
theorem own_ret (X : Stand p l e R s m args below meth c T locs cells slots) (hx : p.tables.exec = Jvm.exec) {pc : Nat} {Ls : Array Slot} {w : Value} {t : FieldType} {i : Instr} {rest : List Value} (hret : meth.sig.returnType = some t) (hlocks : meth.locks = false)
    (hi : (i = .ireturn ∧ (t = .int ∨ t = .boolean ∨ t = .byte ∨ t = .char ∨ t = .short) ∧ ∃ z, w = .int z) ∨ (i = .lreturn ∧ t = .long ∧ ∃ z, w = .long z) ∨ (i = .dreturn ∧ t = .double ∧ ∃ z, w = .double z) ∨ (i = .freturn ∧ t = .float ∧ ∃ z, w = .float z) ∨ (i = .areturn ∧ t.isReference = true ∧ w.isRef = true))
    (hd : decode c.code pc = .ok (i, 1)) (hn : narrow t w = w) (hc : cells ≤ C) (hs : slots ≤ S) (hQ : Q (some w) T.heap locs) : own_Go p e below Q (own_Fr s C S) (T.setTop (mkF m pc Ls (w :: rest))) := by
  obtain ⟨fs, hr, hrun, hended, hW, hsame⟩ := X.leave (v := some w) (fun h => by rw [hret] at h; cases h) hlocks
  exact ⟨_, _, retOut X hx hret hn hi hd hr, hrun, hended, _, _, rfl, hQ, ⟨_, rfl⟩, hW, hsame.mono hc hs⟩
theorem own_ret0 (X : Stand p l e R s m args below meth c T locs cells slots) (hx : p.tables.exec = Jvm.exec) {pc : Nat} {Ls : Array Slot} {st : List Value} (hret : meth.sig.returnType = none) (hlocks : meth.locks = false)
    (hd : decode c.code pc = .ok (.return_, 1)) (hst : st = []) (hc : cells ≤ C) (hs : slots ≤ S) (hQ : Q none T.heap locs) : own_Go p e below Q (own_Fr s C S) (T.setTop (mkF m pc Ls st)) := by
  subst hst
  obtain ⟨fs, hr, hrun, hended, hW, hsame⟩ := X.leave (v := none) (fun _ => rfl) hlocks
  exact ⟨_, _, X.returnOut hx hret hd hr, hrun, hended, _, _, rfl, hQ, ⟨_, rfl⟩, hW, hsame.mono hc hs⟩
theorem own_retW {s : State} {vm₁ : Vm} {nn : Nat} (X : Stand p l e R (s.setVm vm₁) m args below meth c T locs cells slots) (hx : p.tables.exec = Jvm.exec) {pc : Nat} {Ls : Array Slot} {w : Value} {t : FieldType} {i : Instr} {rest : List Value} (hret : meth.sig.returnType = some t) (hlocks : meth.locks = false) (hS : s.Since vm₁ nn) (hk : nn ≤ T.heap.size)
    (hi : (i = .ireturn ∧ (t = .int ∨ t = .boolean ∨ t = .byte ∨ t = .char ∨ t = .short) ∧ ∃ z, w = .int z) ∨ (i = .lreturn ∧ t = .long ∧ ∃ z, w = .long z) ∨ (i = .dreturn ∧ t = .double ∧ ∃ z, w = .double z) ∨ (i = .freturn ∧ t = .float ∧ ∃ z, w = .float z) ∨ (i = .areturn ∧ t.isReference = true ∧ w.isRef = true))
    (hd : decode c.code pc = .ok (i, 1)) (hn : narrow t w = w) (hc : cells ≤ C) (hs : slots ≤ S) (hQ : Q (some w) T.heap locs) : own_Go p e below Q (own_FrW s C S) (T.setTop (mkF m pc Ls (w :: rest))) := by
  obtain ⟨fs, hr, hrun, hended, hW⟩ := X.leaveW hS hk (v := some w) (fun h => by rw [hret] at h; cases h) hlocks
  exact ⟨_, _, retOut X hx hret hn hi hd hr, hrun, hended, _, _, rfl, hQ, hW.1, hW.2.1, hW.2.2.1, hW.2.2.2.mono hc hs⟩
theorem own_nz {z : Int32} (h : z.toInt = 0 ∨ z.toInt = 1) : narrow .boolean (.int z) = .int z := by
  rcases h with h | h
  · obtain rfl : z = 0 := Int32.toInt_inj.mp h
    rfl
  · obtain rfl : z = 1 := Int32.toInt_inj.mp h
    rfl
theorem own_nb {z : Int32} (h : -128 ≤ z.toInt ∧ z.toInt < 128) : nar .byte z = z := by
  have q := c_i2b z
  exact Int32.toInt_inj.mp (by show z.toInt8.toInt32.toInt = z.toInt; omega)
theorem own_fb {z : Int32} (h : -128 ≤ z.toInt ∧ z.toInt < 128) : fits .byte (.int z) = true := by
  have q := fits_nar_byte z
  rw [show z.toInt8.toInt32 = z from own_nb h] at q
  exact q
theorem own_b01 {z : Int32} (h : z.toInt = 0 ∨ z.toInt = 1) : z = 0 ∨ z = 1 := h.imp (fun q => Int32.toInt_inj.mp q) (fun q => Int32.toInt_inj.mp q)
theorem own_nbool {z : Int32} (h : z.toInt = 0 ∨ z.toInt = 1) : nar .boolean z = z := by rcases own_b01 h with rfl | rfl <;> decide
theorem own_fbool {z : Int32} (h : z.toInt = 0 ∨ z.toInt = 1) : fits .boolean (.int z) = true := by rcases own_b01 h with rfl | rfl <;> decide
theorem own_lt {x y : Int32} : x.toInt < y.toInt ↔ x < y := Int32.lt_iff_toInt_lt.symm
theorem own_yes_lt {x y : Int32} {a b : Int} (ha : x.toInt = a) (hb : y.toInt = b) (h : a < b) : if_icmp.holds .lt x y = true := by subst ha hb; exact (tlt (own_lt.mp h)).1
theorem own_no_lt {x y : Int32} {a b : Int} (ha : x.toInt = a) (hb : y.toInt = b) (h : ¬ a < b) : if_icmp.holds .lt x y = false := by subst ha hb; exact (flt (fun q => h (own_lt.mpr q))).1
theorem own_yes_ge {x y : Int32} {a b : Int} (ha : x.toInt = a) (hb : y.toInt = b) (h : ¬ a < b) : if_icmp.holds .ge x y = true := by subst ha hb; exact (flt (fun q => h (own_lt.mpr q))).2.1
theorem own_no_ge {x y : Int32} {a b : Int} (ha : x.toInt = a) (hb : y.toInt = b) (h : a < b) : if_icmp.holds .ge x y = false := by subst ha hb; exact (tlt (own_lt.mp h)).2.1
theorem own_yes_gt {x y : Int32} {a b : Int} (ha : x.toInt = a) (hb : y.toInt = b) (h : b < a) : if_icmp.holds .gt x y = true := by subst ha hb; exact (tlt (own_lt.mp h)).2.2.1
theorem own_no_gt {x y : Int32} {a b : Int} (ha : x.toInt = a) (hb : y.toInt = b) (h : ¬ b < a) : if_icmp.holds .gt x y = false := by subst ha hb; exact (flt (fun q => h (own_lt.mpr q))).2.2.1
theorem own_yes_le {x y : Int32} {a b : Int} (ha : x.toInt = a) (hb : y.toInt = b) (h : ¬ b < a) : if_icmp.holds .le x y = true := by subst ha hb; exact (flt (fun q => h (own_lt.mpr q))).2.2.2
theorem own_no_le {x y : Int32} {a b : Int} (ha : x.toInt = a) (hb : y.toInt = b) (h : b < a) : if_icmp.holds .le x y = false := by subst ha hb; exact (tlt (own_lt.mp h)).2.2.2
theorem own_yes_eq {x y : Int32} {a b : Int} (ha : x.toInt = a) (hb : y.toInt = b) (h : a = b) : if_icmp.holds .eq x y = true := by subst ha hb; exact (teq (Int32.toInt_inj.mp h)).1
theorem own_no_eq {x y : Int32} {a b : Int} (ha : x.toInt = a) (hb : y.toInt = b) (h : ¬ a = b) : if_icmp.holds .eq x y = false := by subst ha hb; exact (feq (fun q => h (congrArg Int32.toInt q))).1
theorem own_yes_ne {x y : Int32} {a b : Int} (ha : x.toInt = a) (hb : y.toInt = b) (h : ¬ a = b) : if_icmp.holds .ne x y = true := by subst ha hb; exact (feq (fun q => h (congrArg Int32.toInt q))).2
theorem own_no_ne {x y : Int32} {a b : Int} (ha : x.toInt = a) (hb : y.toInt = b) (h : a = b) : if_icmp.holds .ne x y = false := by subst ha hb; exact (teq (Int32.toInt_inj.mp h)).2
theorem own_z {cd : ClassFile.Cond} {x : Int32} {b : Bool} (h : if_icmp.holds cd x 0 = b) : ifCond.holds cd x = b := (if0 cd x).trans h
theorem own_lcm {x y : Int64} {a b : Int} (ha : x.toInt = a) (hb : y.toInt = b) : (a < b ∧ (lcmpW x y).toInt = -1) ∨ (a = b ∧ (lcmpW x y).toInt = 0) ∨ (b < a ∧ (lcmpW x y).toInt = 1) := by
  subst ha hb
  obtain ⟨h1, h2, h3⟩ := c_lcmp x y
  omega
theorem own_ne0 {x : Int32} {a : Int} (ha : x.toInt = a) (h : ¬ a = 0) : x ≠ 0 := fun q => h (by rw [← ha, q]; rfl)
theorem own_iloadN (X : Stand p l e R s m args below meth c T locs cells slots) (hx : p.tables.exec = Jvm.exec) {pc pc' : Nat} {Ls : Array Slot} {st : List Value} {k : Fin 4} {v : Int32} (hl : Ls[k.val]? = some (.val (.int v))) (hd : decode c.code pc = .ok (.iload_n k, 1)) (hp : pc + 1 = pc') (h : own_Go p e below Q F (T.setTop (mkF m pc' Ls (.int v :: st)))) : own_Go p e below Q F (T.setTop (mkF m pc Ls st)) := by
  subst hp
  exact own_by (fun _ q => XS.iloadN X.here hx rfl hd hl q) h
theorem own_iload (X : Stand p l e R s m args below meth c T locs cells slots) (hx : p.tables.exec = Jvm.exec) {pc pc' : Nat} {Ls : Array Slot} {st : List Value} {k : Nat} {v : Int32} (hl : Ls[k]? = some (.val (.int v))) (hd : decode c.code pc = .ok (.iload k, 2)) (hp : pc + 2 = pc') (h : own_Go p e below Q F (T.setTop (mkF m pc' Ls (.int v :: st)))) : own_Go p e below Q F (T.setTop (mkF m pc Ls st)) := by
  subst hp
  exact own_by (fun _ q => XS.iload X.here hx rfl hd hl q) h
theorem own_lloadN (X : Stand p l e R s m args below meth c T locs cells slots) (hx : p.tables.exec = Jvm.exec) {pc pc' : Nat} {Ls : Array Slot} {st : List Value} {k : Fin 4} {v : Int64} (hl : Ls[k.val]? = some (.val (.long v))) (hd : decode c.code pc = .ok (.lload_n k, 1)) (hp : pc + 1 = pc') (h : own_Go p e below Q F (T.setTop (mkF m pc' Ls (.long v :: st)))) : own_Go p e below Q F (T.setTop (mkF m pc Ls st)) := by
  subst hp
  exact own_by (fun _ q => XS.lloadN X.here hx rfl hd hl q) h
theorem own_lload (X : Stand p l e R s m args below meth c T locs cells slots) (hx : p.tables.exec = Jvm.exec) {pc pc' : Nat} {Ls : Array Slot} {st : List Value} {k : Nat} {v : Int64} (hl : Ls[k]? = some (.val (.long v))) (hd : decode c.code pc = .ok (.lload k, 2)) (hp : pc + 2 = pc') (h : own_Go p e below Q F (T.setTop (mkF m pc' Ls (.long v :: st)))) : own_Go p e below Q F (T.setTop (mkF m pc Ls st)) := by
  subst hp
  exact own_by (fun _ q => XS.lload X.here hx rfl hd hl q) h
theorem own_aloadN (X : Stand p l e R s m args below meth c T locs cells slots) (hx : p.tables.exec = Jvm.exec) {pc pc' : Nat} {Ls : Array Slot} {st : List Value} {k : Fin 4} {v : Value} (hl : Ls[k.val]? = some (.val v)) (hv : v.isRef = true) (hd : decode c.code pc = .ok (.aload_n k, 1)) (hp : pc + 1 = pc') (h : own_Go p e below Q F (T.setTop (mkF m pc' Ls (v :: st)))) : own_Go p e below Q F (T.setTop (mkF m pc Ls st)) := by
  subst hp
  exact own_by (fun _ q => XS.aloadN X.here hx rfl hd hl hv q) h
theorem own_aload (X : Stand p l e R s m args below meth c T locs cells slots) (hx : p.tables.exec = Jvm.exec) {pc pc' : Nat} {Ls : Array Slot} {st : List Value} {k : Nat} {v : Value} (hl : Ls[k]? = some (.val v)) (hv : v.isRef = true) (hd : decode c.code pc = .ok (.aload k, 2)) (hp : pc + 2 = pc') (h : own_Go p e below Q F (T.setTop (mkF m pc' Ls (v :: st)))) : own_Go p e below Q F (T.setTop (mkF m pc Ls st)) := by
  subst hp
  exact own_by (fun _ q => XS.aload X.here hx rfl hd hl hv q) h
theorem own_iconst (X : Stand p l e R s m args below meth c T locs cells slots) (hx : p.tables.exec = Jvm.exec) {pc pc' : Nat} {Ls : Array Slot} {st : List Value} {i : Int} (z : Int32) (hz : Int32.ofInt i = z) (hd : decode c.code pc = .ok (.iconst i, 1)) (hp : pc + 1 = pc') (h : own_Go p e below Q F (T.setTop (mkF m pc' Ls (.int z :: st)))) : own_Go p e below Q F (T.setTop (mkF m pc Ls st)) := by
  subst hp hz
  exact own_by (fun _ q => XS.iconst X.here hx rfl hd q) h
theorem own_bipush (X : Stand p l e R s m args below meth c T locs cells slots) (hx : p.tables.exec = Jvm.exec) {pc pc' : Nat} {Ls : Array Slot} {st : List Value} {i : Int} (z : Int32) (hz : (Int8.ofInt i).toInt32 = z) (hd : decode c.code pc = .ok (.bipush i, 2)) (hp : pc + 2 = pc') (h : own_Go p e below Q F (T.setTop (mkF m pc' Ls (.int z :: st)))) : own_Go p e below Q F (T.setTop (mkF m pc Ls st)) := by
  subst hp hz
  exact own_by (fun _ q => XS.bipush X.here hx rfl hd q) h
theorem own_sipush (X : Stand p l e R s m args below meth c T locs cells slots) (hx : p.tables.exec = Jvm.exec) {pc pc' : Nat} {Ls : Array Slot} {st : List Value} {i : Int} (z : Int32) (hz : (Int16.ofInt i).toInt32 = z) (hd : decode c.code pc = .ok (.sipush i, 3)) (hp : pc + 3 = pc') (h : own_Go p e below Q F (T.setTop (mkF m pc' Ls (.int z :: st)))) : own_Go p e below Q F (T.setTop (mkF m pc Ls st)) := by
  subst hp hz
  exact own_by (fun _ q => XS.sipush X.here hx rfl hd q) h
theorem own_lconst (X : Stand p l e R s m args below meth c T locs cells slots) (hx : p.tables.exec = Jvm.exec) {pc pc' : Nat} {Ls : Array Slot} {st : List Value} {k : Fin 2} (z : Int64) (hz : Int64.ofNat k = z) (hd : decode c.code pc = .ok (.lconst k, 1)) (hp : pc + 1 = pc') (h : own_Go p e below Q F (T.setTop (mkF m pc' Ls (.long z :: st)))) : own_Go p e below Q F (T.setTop (mkF m pc Ls st)) := by
  subst hp hz
  exact own_by (fun _ q => XS.lconst X.here hx rfl hd q) h
theorem own_aconstNull (X : Stand p l e R s m args below meth c T locs cells slots) (hx : p.tables.exec = Jvm.exec) {pc pc' : Nat} {Ls : Array Slot} {st : List Value}  (hd : decode c.code pc = .ok (.aconst_null, 1)) (hp : pc + 1 = pc') (h : own_Go p e below Q F (T.setTop (mkF m pc' Ls (.null :: st)))) : own_Go p e below Q F (T.setTop (mkF m pc Ls st)) := by
  subst hp
  exact own_by (fun _ q => XS.aconstNull X.here hx rfl hd q) h
theorem own_iadd (X : Stand p l e R s m args below meth c T locs cells slots) (hx : p.tables.exec = Jvm.exec) {pc pc' : Nat} {Ls : Array Slot} {st : List Value} {x y z : Int32} (hz : x + y = z) (hd : decode c.code pc = .ok (.iadd, 1)) (hp : pc + 1 = pc') (h : own_Go p e below Q F (T.setTop (mkF m pc' Ls (.int z :: st)))) : own_Go p e below Q F (T.setTop (mkF m pc Ls (.int y :: .int x :: st))) := by
  subst hp hz
  exact own_by (fun _ q => XS.iadd X.here hx rfl hd rfl q) h
theorem own_isub (X : Stand p l e R s m args below meth c T locs cells slots) (hx : p.tables.exec = Jvm.exec) {pc pc' : Nat} {Ls : Array Slot} {st : List Value} {x y z : Int32} (hz : x - y = z) (hd : decode c.code pc = .ok (.isub, 1)) (hp : pc + 1 = pc') (h : own_Go p e below Q F (T.setTop (mkF m pc' Ls (.int z :: st)))) : own_Go p e below Q F (T.setTop (mkF m pc Ls (.int y :: .int x :: st))) := by
  subst hp hz
  exact own_by (fun _ q => XS.isub X.here hx rfl hd rfl q) h
theorem own_imul (X : Stand p l e R s m args below meth c T locs cells slots) (hx : p.tables.exec = Jvm.exec) {pc pc' : Nat} {Ls : Array Slot} {st : List Value} {x y z : Int32} (hz : x * y = z) (hd : decode c.code pc = .ok (.imul, 1)) (hp : pc + 1 = pc') (h : own_Go p e below Q F (T.setTop (mkF m pc' Ls (.int z :: st)))) : own_Go p e below Q F (T.setTop (mkF m pc Ls (.int y :: .int x :: st))) := by
  subst hp hz
  exact own_by (fun _ q => XS.imul X.here hx rfl hd rfl q) h
theorem own_iand (X : Stand p l e R s m args below meth c T locs cells slots) (hx : p.tables.exec = Jvm.exec) {pc pc' : Nat} {Ls : Array Slot} {st : List Value} {x y z : Int32} (hz : x &&& y = z) (hd : decode c.code pc = .ok (.iand, 1)) (hp : pc + 1 = pc') (h : own_Go p e below Q F (T.setTop (mkF m pc' Ls (.int z :: st)))) : own_Go p e below Q F (T.setTop (mkF m pc Ls (.int y :: .int x :: st))) := by
  subst hp hz
  exact own_by (fun _ q => XS.iand X.here hx rfl hd rfl q) h
theorem own_ior (X : Stand p l e R s m args below meth c T locs cells slots) (hx : p.tables.exec = Jvm.exec) {pc pc' : Nat} {Ls : Array Slot} {st : List Value} {x y z : Int32} (hz : x ||| y = z) (hd : decode c.code pc = .ok (.ior, 1)) (hp : pc + 1 = pc') (h : own_Go p e below Q F (T.setTop (mkF m pc' Ls (.int z :: st)))) : own_Go p e below Q F (T.setTop (mkF m pc Ls (.int y :: .int x :: st))) := by
  subst hp hz
  exact own_by (fun _ q => XS.ior X.here hx rfl hd rfl q) h
theorem own_ixor (X : Stand p l e R s m args below meth c T locs cells slots) (hx : p.tables.exec = Jvm.exec) {pc pc' : Nat} {Ls : Array Slot} {st : List Value} {x y z : Int32} (hz : x ^^^ y = z) (hd : decode c.code pc = .ok (.ixor, 1)) (hp : pc + 1 = pc') (h : own_Go p e below Q F (T.setTop (mkF m pc' Ls (.int z :: st)))) : own_Go p e below Q F (T.setTop (mkF m pc Ls (.int y :: .int x :: st))) := by
  subst hp hz
  exact own_by (fun _ q => XS.ixor X.here hx rfl hd rfl q) h
theorem own_ishl (X : Stand p l e R s m args below meth c T locs cells slots) (hx : p.tables.exec = Jvm.exec) {pc pc' : Nat} {Ls : Array Slot} {st : List Value} {x y z : Int32} (hz : x <<< (y &&& 31) = z) (hd : decode c.code pc = .ok (.ishl, 1)) (hp : pc + 1 = pc') (h : own_Go p e below Q F (T.setTop (mkF m pc' Ls (.int z :: st)))) : own_Go p e below Q F (T.setTop (mkF m pc Ls (.int y :: .int x :: st))) := by
  subst hp hz
  exact own_by (fun _ q => XS.ishl X.here hx rfl hd rfl q) h
theorem own_ishr (X : Stand p l e R s m args below meth c T locs cells slots) (hx : p.tables.exec = Jvm.exec) {pc pc' : Nat} {Ls : Array Slot} {st : List Value} {x y z : Int32} (hz : x >>> (y &&& 31) = z) (hd : decode c.code pc = .ok (.ishr, 1)) (hp : pc + 1 = pc') (h : own_Go p e below Q F (T.setTop (mkF m pc' Ls (.int z :: st)))) : own_Go p e below Q F (T.setTop (mkF m pc Ls (.int y :: .int x :: st))) := by
  subst hp hz
  exact own_by (fun _ q => XS.ishr X.here hx rfl hd rfl q) h
theorem own_iushr (X : Stand p l e R s m args below meth c T locs cells slots) (hx : p.tables.exec = Jvm.exec) {pc pc' : Nat} {Ls : Array Slot} {st : List Value} {x y z : Int32} (hz : (x.toUInt32 >>> (y &&& 31).toUInt32).toInt32 = z) (hd : decode c.code pc = .ok (.iushr, 1)) (hp : pc + 1 = pc') (h : own_Go p e below Q F (T.setTop (mkF m pc' Ls (.int z :: st)))) : own_Go p e below Q F (T.setTop (mkF m pc Ls (.int y :: .int x :: st))) := by
  subst hp hz
  exact own_by (fun _ q => XS.iushr X.here hx rfl hd rfl q) h
theorem own_idiv (X : Stand p l e R s m args below meth c T locs cells slots) (hx : p.tables.exec = Jvm.exec) {pc pc' : Nat} {Ls : Array Slot} {st : List Value} {x y z : Int32} (hy : y ≠ 0) (hz : x / y = z) (hd : decode c.code pc = .ok (.idiv, 1)) (hp : pc + 1 = pc') (h : own_Go p e below Q F (T.setTop (mkF m pc' Ls (.int z :: st)))) : own_Go p e below Q F (T.setTop (mkF m pc Ls (.int y :: .int x :: st))) := by
  subst hp hz
  exact own_by (fun _ q => XS.idiv X.here hx rfl hd rfl hy q) h
theorem own_irem (X : Stand p l e R s m args below meth c T locs cells slots) (hx : p.tables.exec = Jvm.exec) {pc pc' : Nat} {Ls : Array Slot} {st : List Value} {x y z : Int32} (hy : y ≠ 0) (hz : x % y = z) (hd : decode c.code pc = .ok (.irem, 1)) (hp : pc + 1 = pc') (h : own_Go p e below Q F (T.setTop (mkF m pc' Ls (.int z :: st)))) : own_Go p e below Q F (T.setTop (mkF m pc Ls (.int y :: .int x :: st))) := by
  subst hp hz
  exact own_by (fun _ q => iremM X hx rfl hd rfl hy q) h
theorem own_ladd (X : Stand p l e R s m args below meth c T locs cells slots) (hx : p.tables.exec = Jvm.exec) {pc pc' : Nat} {Ls : Array Slot} {st : List Value} {x y z : Int64} (hz : x + y = z) (hd : decode c.code pc = .ok (.ladd, 1)) (hp : pc + 1 = pc') (h : own_Go p e below Q F (T.setTop (mkF m pc' Ls (.long z :: st)))) : own_Go p e below Q F (T.setTop (mkF m pc Ls (.long y :: .long x :: st))) := by
  subst hp hz
  exact own_by (fun _ q => XS.ladd X.here hx rfl hd rfl q) h
theorem own_lsub (X : Stand p l e R s m args below meth c T locs cells slots) (hx : p.tables.exec = Jvm.exec) {pc pc' : Nat} {Ls : Array Slot} {st : List Value} {x y z : Int64} (hz : x - y = z) (hd : decode c.code pc = .ok (.lsub, 1)) (hp : pc + 1 = pc') (h : own_Go p e below Q F (T.setTop (mkF m pc' Ls (.long z :: st)))) : own_Go p e below Q F (T.setTop (mkF m pc Ls (.long y :: .long x :: st))) := by
  subst hp hz
  exact own_by (fun _ q => XS.lsub X.here hx rfl hd rfl q) h
theorem own_lmul (X : Stand p l e R s m args below meth c T locs cells slots) (hx : p.tables.exec = Jvm.exec) {pc pc' : Nat} {Ls : Array Slot} {st : List Value} {x y z : Int64} (hz : x * y = z) (hd : decode c.code pc = .ok (.lmul, 1)) (hp : pc + 1 = pc') (h : own_Go p e below Q F (T.setTop (mkF m pc' Ls (.long z :: st)))) : own_Go p e below Q F (T.setTop (mkF m pc Ls (.long y :: .long x :: st))) := by
  subst hp hz
  exact own_by (fun _ q => XS.lmul X.here hx rfl hd rfl q) h
theorem own_land (X : Stand p l e R s m args below meth c T locs cells slots) (hx : p.tables.exec = Jvm.exec) {pc pc' : Nat} {Ls : Array Slot} {st : List Value} {x y z : Int64} (hz : x &&& y = z) (hd : decode c.code pc = .ok (.land, 1)) (hp : pc + 1 = pc') (h : own_Go p e below Q F (T.setTop (mkF m pc' Ls (.long z :: st)))) : own_Go p e below Q F (T.setTop (mkF m pc Ls (.long y :: .long x :: st))) := by
  subst hp hz
  exact own_by (fun _ q => XS.land X.here hx rfl hd rfl q) h
theorem own_lor (X : Stand p l e R s m args below meth c T locs cells slots) (hx : p.tables.exec = Jvm.exec) {pc pc' : Nat} {Ls : Array Slot} {st : List Value} {x y z : Int64} (hz : x ||| y = z) (hd : decode c.code pc = .ok (.lor, 1)) (hp : pc + 1 = pc') (h : own_Go p e below Q F (T.setTop (mkF m pc' Ls (.long z :: st)))) : own_Go p e below Q F (T.setTop (mkF m pc Ls (.long y :: .long x :: st))) := by
  subst hp hz
  exact own_by (fun _ q => XS.lor X.here hx rfl hd rfl q) h
theorem own_lcmp (X : Stand p l e R s m args below meth c T locs cells slots) (hx : p.tables.exec = Jvm.exec) {pc pc' : Nat} {Ls : Array Slot} {st : List Value} {x y : Int64} {z : Int32} (hz : lcmpW x y = z) (hd : decode c.code pc = .ok (.lcmp, 1)) (hp : pc + 1 = pc') (h : own_Go p e below Q F (T.setTop (mkF m pc' Ls (.int z :: st)))) : own_Go p e below Q F (T.setTop (mkF m pc Ls (.long y :: .long x :: st))) := by
  subst hp hz
  exact own_by (fun _ q => XS.lcmp X.here hx rfl hd rfl q) h
theorem own_ineg (X : Stand p l e R s m args below meth c T locs cells slots) (hx : p.tables.exec = Jvm.exec) {pc pc' : Nat} {Ls : Array Slot} {st : List Value} {x z : Int32} (hz : -x = z) (hd : decode c.code pc = .ok (.ineg, 1)) (hp : pc + 1 = pc') (h : own_Go p e below Q F (T.setTop (mkF m pc' Ls (.int z :: st)))) : own_Go p e below Q F (T.setTop (mkF m pc Ls (.int x :: st))) := by
  subst hp hz
  exact own_by (fun _ q => XS.ineg X.here hx rfl hd rfl q) h
theorem own_i2l (X : Stand p l e R s m args below meth c T locs cells slots) (hx : p.tables.exec = Jvm.exec) {pc pc' : Nat} {Ls : Array Slot} {st : List Value} {x : Int32} {z : Int64} (hz : x.toInt64 = z) (hd : decode c.code pc = .ok (.i2l, 1)) (hp : pc + 1 = pc') (h : own_Go p e below Q F (T.setTop (mkF m pc' Ls (.long z :: st)))) : own_Go p e below Q F (T.setTop (mkF m pc Ls (.int x :: st))) := by
  subst hp hz
  exact own_by (fun _ q => XS.i2l X.here hx rfl hd rfl q) h
theorem own_l2i (X : Stand p l e R s m args below meth c T locs cells slots) (hx : p.tables.exec = Jvm.exec) {pc pc' : Nat} {Ls : Array Slot} {st : List Value} {x : Int64} {z : Int32} (hz : x.toInt32 = z) (hd : decode c.code pc = .ok (.l2i, 1)) (hp : pc + 1 = pc') (h : own_Go p e below Q F (T.setTop (mkF m pc' Ls (.int z :: st)))) : own_Go p e below Q F (T.setTop (mkF m pc Ls (.long x :: st))) := by
  subst hp hz
  exact own_by (fun _ q => XS.l2i X.here hx rfl hd rfl q) h
theorem own_i2b (X : Stand p l e R s m args below meth c T locs cells slots) (hx : p.tables.exec = Jvm.exec) {pc pc' : Nat} {Ls : Array Slot} {st : List Value} {x z : Int32} (hz : x.toInt8.toInt32 = z) (hd : decode c.code pc = .ok (.i2b, 1)) (hp : pc + 1 = pc') (h : own_Go p e below Q F (T.setTop (mkF m pc' Ls (.int z :: st)))) : own_Go p e below Q F (T.setTop (mkF m pc Ls (.int x :: st))) := by
  subst hp hz
  exact own_by (fun _ q => XS.i2b X.here hx rfl hd rfl q) h
theorem own_i2c (X : Stand p l e R s m args below meth c T locs cells slots) (hx : p.tables.exec = Jvm.exec) {pc pc' : Nat} {Ls : Array Slot} {st : List Value} {x z : Int32} (hz : x.toUInt32.toUInt16.toUInt32.toInt32 = z) (hd : decode c.code pc = .ok (.i2c, 1)) (hp : pc + 1 = pc') (h : own_Go p e below Q F (T.setTop (mkF m pc' Ls (.int z :: st)))) : own_Go p e below Q F (T.setTop (mkF m pc Ls (.int x :: st))) := by
  subst hp hz
  exact own_by (fun _ q => XS.i2c X.here hx rfl hd rfl q) h
theorem own_i2s (X : Stand p l e R s m args below meth c T locs cells slots) (hx : p.tables.exec = Jvm.exec) {pc pc' : Nat} {Ls : Array Slot} {st : List Value} {x z : Int32} (hz : x.toInt16.toInt32 = z) (hd : decode c.code pc = .ok (.i2s, 1)) (hp : pc + 1 = pc') (h : own_Go p e below Q F (T.setTop (mkF m pc' Ls (.int z :: st)))) : own_Go p e below Q F (T.setTop (mkF m pc Ls (.int x :: st))) := by
  subst hp hz
  exact own_by (fun _ q => XS.i2s X.here hx rfl hd rfl q) h
theorem own_dup (X : Stand p l e R s m args below meth c T locs cells slots) (hx : p.tables.exec = Jvm.exec) {pc pc' : Nat} {Ls : Array Slot} {st : List Value} {x : Value} (hc : x.category = 1) (hd : decode c.code pc = .ok (.dup, 1)) (hp : pc + 1 = pc') (h : own_Go p e below Q F (T.setTop (mkF m pc' Ls (x :: x :: st)))) : own_Go p e below Q F (T.setTop (mkF m pc Ls (x :: st))) := by
  subst hp
  exact own_by (fun _ q => XS.dup X.here hx rfl hd rfl hc q) h
theorem own_dupX1 (X : Stand p l e R s m args below meth c T locs cells slots) (hx : p.tables.exec = Jvm.exec) {pc pc' : Nat} {Ls : Array Slot} {st : List Value} {x y : Value} (hc : x.category = 1) (hc2 : y.category = 1) (hd : decode c.code pc = .ok (.dup_x1, 1)) (hp : pc + 1 = pc') (h : own_Go p e below Q F (T.setTop (mkF m pc' Ls (x :: y :: x :: st)))) : own_Go p e below Q F (T.setTop (mkF m pc Ls (x :: y :: st))) := by
  subst hp
  exact own_by (fun _ q => XS.dupX1 X.here hx rfl hd rfl hc hc2 q) h
theorem own_pop (X : Stand p l e R s m args below meth c T locs cells slots) (hx : p.tables.exec = Jvm.exec) {pc pc' : Nat} {Ls : Array Slot} {st : List Value} {x : Value} (hc : x.category = 1) (hd : decode c.code pc = .ok (.pop, 1)) (hp : pc + 1 = pc') (h : own_Go p e below Q F (T.setTop (mkF m pc' Ls st))) : own_Go p e below Q F (T.setTop (mkF m pc Ls (x :: st))) := by
  subst hp
  exact own_by (fun _ q => XS.pop X.here hx rfl hd rfl hc q) h
theorem own_istoreN (X : Stand p l e R s m args below meth c T locs cells slots) (hx : p.tables.exec = Jvm.exec) {pc pc' : Nat} {Ls : Array Slot} {st : List Value} {k : Fin 4} {x : Int32} (L' : Array Slot) (hl : storeLocals Ls k.val (.int x) = some L') (hd : decode c.code pc = .ok (.istore_n k, 1)) (hp : pc + 1 = pc') (h : own_Go p e below Q F (T.setTop (mkF m pc' L' st))) : own_Go p e below Q F (T.setTop (mkF m pc Ls (.int x :: st))) := by
  subst hp
  exact own_by (fun _ q => XS.istoreN X.here hx rfl hd rfl hl q) h
theorem own_istore (X : Stand p l e R s m args below meth c T locs cells slots) (hx : p.tables.exec = Jvm.exec) {pc pc' : Nat} {Ls : Array Slot} {st : List Value} {k : Nat} {x : Int32} (L' : Array Slot) (hl : storeLocals Ls k (.int x) = some L') (hd : decode c.code pc = .ok (.istore k, 2)) (hp : pc + 2 = pc') (h : own_Go p e below Q F (T.setTop (mkF m pc' L' st))) : own_Go p e below Q F (T.setTop (mkF m pc Ls (.int x :: st))) := by
  subst hp
  exact own_by (fun _ q => XS.istore X.here hx rfl hd rfl hl q) h
theorem own_lstoreN (X : Stand p l e R s m args below meth c T locs cells slots) (hx : p.tables.exec = Jvm.exec) {pc pc' : Nat} {Ls : Array Slot} {st : List Value} {k : Fin 4} {x : Int64} (L' : Array Slot) (hl : storeLocals Ls k.val (.long x) = some L') (hd : decode c.code pc = .ok (.lstore_n k, 1)) (hp : pc + 1 = pc') (h : own_Go p e below Q F (T.setTop (mkF m pc' L' st))) : own_Go p e below Q F (T.setTop (mkF m pc Ls (.long x :: st))) := by
  subst hp
  exact own_by (fun _ q => XS.lstoreN X.here hx rfl hd rfl hl q) h
theorem own_lstore (X : Stand p l e R s m args below meth c T locs cells slots) (hx : p.tables.exec = Jvm.exec) {pc pc' : Nat} {Ls : Array Slot} {st : List Value} {k : Nat} {x : Int64} (L' : Array Slot) (hl : storeLocals Ls k (.long x) = some L') (hd : decode c.code pc = .ok (.lstore k, 2)) (hp : pc + 2 = pc') (h : own_Go p e below Q F (T.setTop (mkF m pc' L' st))) : own_Go p e below Q F (T.setTop (mkF m pc Ls (.long x :: st))) := by
  subst hp
  exact own_by (fun _ q => XS.lstore X.here hx rfl hd rfl hl q) h
theorem own_astoreN (X : Stand p l e R s m args below meth c T locs cells slots) (hx : p.tables.exec = Jvm.exec) {pc pc' : Nat} {Ls : Array Slot} {st : List Value} {k : Fin 4} {x : Value} (L' : Array Slot) (hv : x.isRef = true) (hl : storeLocals Ls k.val x = some L') (hd : decode c.code pc = .ok (.astore_n k, 1)) (hp : pc + 1 = pc') (h : own_Go p e below Q F (T.setTop (mkF m pc' L' st))) : own_Go p e below Q F (T.setTop (mkF m pc Ls (x :: st))) := by
  subst hp
  exact own_by (fun _ q => XS.astoreN X.here hx rfl hd rfl hv hl q) h
theorem own_astore (X : Stand p l e R s m args below meth c T locs cells slots) (hx : p.tables.exec = Jvm.exec) {pc pc' : Nat} {Ls : Array Slot} {st : List Value} {k : Nat} {x : Value} (L' : Array Slot) (hv : x.isRef = true) (hl : storeLocals Ls k x = some L') (hd : decode c.code pc = .ok (.astore k, 2)) (hp : pc + 2 = pc') (h : own_Go p e below Q F (T.setTop (mkF m pc' L' st))) : own_Go p e below Q F (T.setTop (mkF m pc Ls (x :: st))) := by
  subst hp
  exact own_by (fun _ q => XS.astore X.here hx rfl hd rfl hv hl q) h
theorem own_iinc (X : Stand p l e R s m args below meth c T locs cells slots) (hx : p.tables.exec = Jvm.exec) {pc pc' : Nat} {Ls : Array Slot} {st : List Value} {k : Nat} {cst : Int} {x z : Int32} (L' : Array Slot) (hv : Ls[k]? = some (.val (.int x))) (hz : x + Int32.ofInt cst = z) (hl : storeLocals Ls k (.int z) = some L') (hd : decode c.code pc = .ok (.iinc k cst, 3)) (hp : pc + 3 = pc') (h : own_Go p e below Q F (T.setTop (mkF m pc' L' st))) : own_Go p e below Q F (T.setTop (mkF m pc Ls st)) := by
  subst hp hz
  exact own_by (fun _ q => XS.iinc X.here hx rfl hd hv hl q) h
theorem own_goto (X : Stand p l e R s m args below meth c T locs cells slots) (hx : p.tables.exec = Jvm.exec) {pc pc' : Nat} {Ls : Array Slot} {st : List Value} {o : Int}  (hd : decode c.code pc = .ok (.goto o, 3))  (ho : 0 ≤ (pc : Int) + o) (hp : ((pc : Int) + o).toNat = pc') (h : own_Go p e below Q F (T.setTop (mkF m pc' Ls st))) : own_Go p e below Q F (T.setTop (mkF m pc Ls st)) := by
  exact own_by (fun _ q => XS.goto X.here hx rfl rfl hd ho hp q) h
theorem own_ifYes (X : Stand p l e R s m args below meth c T locs cells slots) (hx : p.tables.exec = Jvm.exec) {pc pc' : Nat} {Ls : Array Slot} {st : List Value} {o : Int} {cd : ClassFile.Cond} {x : Int32} (hd : decode c.code pc = .ok (.ifCond cd o, 3)) (hc : ifCond.holds cd x = true) (ho : 0 ≤ (pc : Int) + o) (hp : ((pc : Int) + o).toNat = pc') (h : own_Go p e below Q F (T.setTop (mkF m pc' Ls st))) : own_Go p e below Q F (T.setTop (mkF m pc Ls (.int x :: st))) := by
  exact own_by (fun _ q => XS.ifYes X.here hx rfl rfl hd rfl hc ho hp q) h
theorem own_icmpYes (X : Stand p l e R s m args below meth c T locs cells slots) (hx : p.tables.exec = Jvm.exec) {pc pc' : Nat} {Ls : Array Slot} {st : List Value} {o : Int} {cd : ClassFile.Cond} {x y : Int32} (hd : decode c.code pc = .ok (.if_icmp cd o, 3)) (hc : if_icmp.holds cd x y = true) (ho : 0 ≤ (pc : Int) + o) (hp : ((pc : Int) + o).toNat = pc') (h : own_Go p e below Q F (T.setTop (mkF m pc' Ls st))) : own_Go p e below Q F (T.setTop (mkF m pc Ls (.int y :: .int x :: st))) := by
  exact own_by (fun _ q => XS.icmpYes X.here hx rfl rfl hd rfl hc ho hp q) h
theorem own_ifnullYes (X : Stand p l e R s m args below meth c T locs cells slots) (hx : p.tables.exec = Jvm.exec) {pc pc' : Nat} {Ls : Array Slot} {st : List Value} {o : Int}  (hd : decode c.code pc = .ok (.ifnull o, 3))  (ho : 0 ≤ (pc : Int) + o) (hp : ((pc : Int) + o).toNat = pc') (h : own_Go p e below Q F (T.setTop (mkF m pc' Ls st))) : own_Go p e below Q F (T.setTop (mkF m pc Ls (.null :: st))) := by
  exact own_by (fun _ q => XS.ifnullYes X.here hx rfl rfl hd rfl ho hp q) h
theorem own_ifnonnullYes (X : Stand p l e R s m args below meth c T locs cells slots) (hx : p.tables.exec = Jvm.exec) {pc pc' : Nat} {Ls : Array Slot} {st : List Value} {o : Int} {b : Addr} (hd : decode c.code pc = .ok (.ifnonnull o, 3))  (ho : 0 ≤ (pc : Int) + o) (hp : ((pc : Int) + o).toNat = pc') (h : own_Go p e below Q F (T.setTop (mkF m pc' Ls st))) : own_Go p e below Q F (T.setTop (mkF m pc Ls (.ref b :: st))) := by
  exact own_by (fun _ q => XS.ifnonnullYes X.here hx rfl rfl hd rfl ho hp q) h
theorem own_acmpYes (X : Stand p l e R s m args below meth c T locs cells slots) (hx : p.tables.exec = Jvm.exec) {pc pc' : Nat} {Ls : Array Slot} {st : List Value} {o : Int} {cd : ClassFile.ACond} {a b : Addr} (hd : decode c.code pc = .ok (.if_acmp cd o, 3)) (hc : if_acmp.holds cd (some a) (some b) = true) (ho : 0 ≤ (pc : Int) + o) (hp : ((pc : Int) + o).toNat = pc') (h : own_Go p e below Q F (T.setTop (mkF m pc' Ls st))) : own_Go p e below Q F (T.setTop (mkF m pc Ls (.ref b :: .ref a :: st))) := by
  exact own_by (fun _ q => XS.acmpYes X.here hx rfl rfl hd rfl hc ho hp q) h
theorem own_ifNo (X : Stand p l e R s m args below meth c T locs cells slots) (hx : p.tables.exec = Jvm.exec) {pc pc' : Nat} {Ls : Array Slot} {st : List Value} {cd : ClassFile.Cond} {x : Int32} {o : Int} (hc : ifCond.holds cd x = false) (hd : decode c.code pc = .ok (.ifCond cd o, 3)) (hp : pc + 3 = pc') (h : own_Go p e below Q F (T.setTop (mkF m pc' Ls st))) : own_Go p e below Q F (T.setTop (mkF m pc Ls (.int x :: st))) := by
  subst hp
  exact own_by (fun _ q => XS.ifNo X.here hx rfl hd rfl hc q) h
theorem own_icmpNo (X : Stand p l e R s m args below meth c T locs cells slots) (hx : p.tables.exec = Jvm.exec) {pc pc' : Nat} {Ls : Array Slot} {st : List Value} {cd : ClassFile.Cond} {x y : Int32} {o : Int} (hc : if_icmp.holds cd x y = false) (hd : decode c.code pc = .ok (.if_icmp cd o, 3)) (hp : pc + 3 = pc') (h : own_Go p e below Q F (T.setTop (mkF m pc' Ls st))) : own_Go p e below Q F (T.setTop (mkF m pc Ls (.int y :: .int x :: st))) := by
  subst hp
  exact own_by (fun _ q => XS.icmpNo X.here hx rfl hd rfl hc q) h
theorem own_ifnullNo (X : Stand p l e R s m args below meth c T locs cells slots) (hx : p.tables.exec = Jvm.exec) {pc pc' : Nat} {Ls : Array Slot} {st : List Value} {b : Addr} {o : Int}  (hd : decode c.code pc = .ok (.ifnull o, 3)) (hp : pc + 3 = pc') (h : own_Go p e below Q F (T.setTop (mkF m pc' Ls st))) : own_Go p e below Q F (T.setTop (mkF m pc Ls (.ref b :: st))) := by
  subst hp
  exact own_by (fun _ q => XS.ifnullNo X.here hx rfl hd rfl q) h
theorem own_ifnonnullNo (X : Stand p l e R s m args below meth c T locs cells slots) (hx : p.tables.exec = Jvm.exec) {pc pc' : Nat} {Ls : Array Slot} {st : List Value} {o : Int}  (hd : decode c.code pc = .ok (.ifnonnull o, 3)) (hp : pc + 3 = pc') (h : own_Go p e below Q F (T.setTop (mkF m pc' Ls st))) : own_Go p e below Q F (T.setTop (mkF m pc Ls (.null :: st))) := by
  subst hp
  exact own_by (fun _ q => XS.ifnonnullNo X.here hx rfl hd rfl q) h
theorem own_acmpNo (X : Stand p l e R s m args below meth c T locs cells slots) (hx : p.tables.exec = Jvm.exec) {pc pc' : Nat} {Ls : Array Slot} {st : List Value} {cd : ClassFile.ACond} {a b : Addr} {o : Int} (hc : if_acmp.holds cd (some a) (some b) = false) (hd : decode c.code pc = .ok (.if_acmp cd o, 3)) (hp : pc + 3 = pc') (h : own_Go p e below Q F (T.setTop (mkF m pc' Ls st))) : own_Go p e below Q F (T.setTop (mkF m pc Ls (.ref b :: .ref a :: st))) := by
  subst hp
  exact own_by (fun _ q => XS.acmpNo X.here hx rfl hd rfl hc q) h
theorem own_ldcInt (X : Stand p l e R s m args below meth c T locs cells slots) (hx : p.tables.exec = Jvm.exec) {pc pc' : Nat} {Ls : Array Slot} {st : List Value} {Z : State} {a0 : Array Value} {own : String} {index : Nat} {v : Int32} (hZ : Z.Warmed39 s.vm) (hown : s.vm.findClass own = some m.cls) (w : (Jvm.Cond.constant own index v).before a0 Z = true) (hd : decode c.code pc = .ok (.ldc index, 2)) (hp : pc + 2 = pc') (h : own_Go p e below Q F (T.setTop (mkF m pc' Ls (.int v :: st)))) : own_Go p e below Q F (T.setTop (mkF m pc Ls st)) := by
  subst hp
  exact own_by (fun _ q => X.ldcInt hx hown (mv hZ w) (g := mkF m pc Ls st) rfl hd _ q) h
theorem own_ldc2Long (X : Stand p l e R s m args below meth c T locs cells slots) (hx : p.tables.exec = Jvm.exec) {pc pc' : Nat} {Ls : Array Slot} {st : List Value} {Z : State} {a0 : Array Value} {own : String} {index : Nat} {v : Int64} (hZ : Z.Warmed39 s.vm) (hown : s.vm.findClass own = some m.cls) (w : (Jvm.Cond.constantLong own index v).before a0 Z = true) (hd : decode c.code pc = .ok (.ldc2_w index, 3)) (hp : pc + 3 = pc') (h : own_Go p e below Q F (T.setTop (mkF m pc' Ls (.long v :: st)))) : own_Go p e below Q F (T.setTop (mkF m pc Ls st)) := by
  subst hp
  exact own_by (fun _ q => X.ldc2Long hx hown (mv hZ w) (g := mkF m pc Ls st) rfl hd _ q) h
theorem own_lyes_lt {x y : Int64} {a b : Int} (ha : x.toInt = a) (hb : y.toInt = b) (h : a < b) : ifCond.holds .lt (lcmpW x y) = true := by
  have q := own_lcm ha hb
  have r :  (lcmpW x y).toInt < 0 := by omega
  exact own_z (own_yes_lt rfl rfl r)
theorem own_lno_lt {x y : Int64} {a b : Int} (ha : x.toInt = a) (hb : y.toInt = b) (h : ¬ a < b) : ifCond.holds .lt (lcmpW x y) = false := by
  have q := own_lcm ha hb
  have r : ¬ (lcmpW x y).toInt < 0 := by omega
  exact own_z (own_no_lt rfl rfl r)
theorem own_lyes_ge {x y : Int64} {a b : Int} (ha : x.toInt = a) (hb : y.toInt = b) (h : ¬ a < b) : ifCond.holds .ge (lcmpW x y) = true := by
  have q := own_lcm ha hb
  have r : ¬ (lcmpW x y).toInt < 0 := by omega
  exact own_z (own_yes_ge rfl rfl r)
theorem own_lno_ge {x y : Int64} {a b : Int} (ha : x.toInt = a) (hb : y.toInt = b) (h : a < b) : ifCond.holds .ge (lcmpW x y) = false := by
  have q := own_lcm ha hb
  have r :  (lcmpW x y).toInt < 0 := by omega
  exact own_z (own_no_ge rfl rfl r)
theorem own_lyes_gt {x y : Int64} {a b : Int} (ha : x.toInt = a) (hb : y.toInt = b) (h : b < a) : ifCond.holds .gt (lcmpW x y) = true := by
  have q := own_lcm ha hb
  have r :  0 < (lcmpW x y).toInt := by omega
  exact own_z (own_yes_gt rfl rfl r)
theorem own_lno_gt {x y : Int64} {a b : Int} (ha : x.toInt = a) (hb : y.toInt = b) (h : ¬ b < a) : ifCond.holds .gt (lcmpW x y) = false := by
  have q := own_lcm ha hb
  have r : ¬ 0 < (lcmpW x y).toInt := by omega
  exact own_z (own_no_gt rfl rfl r)
theorem own_lyes_le {x y : Int64} {a b : Int} (ha : x.toInt = a) (hb : y.toInt = b) (h : ¬ b < a) : ifCond.holds .le (lcmpW x y) = true := by
  have q := own_lcm ha hb
  have r : ¬ 0 < (lcmpW x y).toInt := by omega
  exact own_z (own_yes_le rfl rfl r)
theorem own_lno_le {x y : Int64} {a b : Int} (ha : x.toInt = a) (hb : y.toInt = b) (h : b < a) : ifCond.holds .le (lcmpW x y) = false := by
  have q := own_lcm ha hb
  have r :  0 < (lcmpW x y).toInt := by omega
  exact own_z (own_no_le rfl rfl r)
theorem own_lyes_eq {x y : Int64} {a b : Int} (ha : x.toInt = a) (hb : y.toInt = b) (h : a = b) : ifCond.holds .eq (lcmpW x y) = true := by
  have q := own_lcm ha hb
  have r :  (lcmpW x y).toInt = 0 := by omega
  exact own_z (own_yes_eq rfl rfl r)
theorem own_lno_eq {x y : Int64} {a b : Int} (ha : x.toInt = a) (hb : y.toInt = b) (h : ¬ a = b) : ifCond.holds .eq (lcmpW x y) = false := by
  have q := own_lcm ha hb
  have r : ¬ (lcmpW x y).toInt = 0 := by omega
  exact own_z (own_no_eq rfl rfl r)
theorem own_lyes_ne {x y : Int64} {a b : Int} (ha : x.toInt = a) (hb : y.toInt = b) (h : ¬ a = b) : ifCond.holds .ne (lcmpW x y) = true := by
  have q := own_lcm ha hb
  have r : ¬ (lcmpW x y).toInt = 0 := by omega
  exact own_z (own_yes_ne rfl rfl r)
theorem own_lno_ne {x y : Int64} {a b : Int} (ha : x.toInt = a) (hb : y.toInt = b) (h : a = b) : ifCond.holds .ne (lcmpW x y) = false := by
  have q := own_lcm ha hb
  have r :  (lcmpW x y).toInt = 0 := by omega
  exact own_z (own_no_ne rfl rfl r)
theorem own_tswIn (X : Stand p l e R s m args below meth c T locs cells slots) (hx : p.tables.exec = Jvm.exec) {pc pc' : Nat} {Ls : Array Slot} {st : List Value} {dflt low high : Int} {offs : Array Int} {len : Nat} (o : Int) {i : Int32} (hd : decode c.code pc = .ok (.tableswitch dflt low high offs, len)) (hin : ¬ (i.toInt < low ∨ i.toInt > high)) (hoff : offs[(i.toInt - low).toNat]? = some o) (ho : 0 ≤ (pc : Int) + o) (hp : ((pc : Int) + o).toNat = pc') (h : own_Go p e below Q F (T.setTop (mkF m pc' Ls st))) : own_Go p e below Q F (T.setTop (mkF m pc Ls (.int i :: st))) := by
  exact own_by (fun _ q => XS.tswIn X.here hx rfl rfl hd rfl hin hoff ho hp q) h
theorem own_tswOut (X : Stand p l e R s m args below meth c T locs cells slots) (hx : p.tables.exec = Jvm.exec) {pc pc' : Nat} {Ls : Array Slot} {st : List Value} {dflt low high : Int} {offs : Array Int} {len : Nat} {i : Int32} (hd : decode c.code pc = .ok (.tableswitch dflt low high offs, len)) (hout : i.toInt < low ∨ i.toInt > high) (ho : 0 ≤ (pc : Int) + dflt) (hp : ((pc : Int) + dflt).toNat = pc') (h : own_Go p e below Q F (T.setTop (mkF m pc' Ls st))) : own_Go p e below Q F (T.setTop (mkF m pc Ls (.int i :: st))) := by
  exact own_by (fun _ q => XS.tswOut X.here hx rfl rfl hd rfl hout ho hp q) h
end OwnKit
theorem pd_0 : parseMethodDescriptor "(IZ)[B" = some ⟨[.int, .boolean], some (.array .byte)⟩ := by decide +kernel
theorem d1_0 : decode prog_3_method_8_code 0 = .ok (.iload_n 0, 1) := by decide +kernel
theorem d1_1 : decode prog_3_method_8_code 1 = .ok (.iload_n 1, 1) := by decide +kernel
theorem d1_2 : decode prog_3_method_8_code 2 = .ok (.ifCond .eq 8, 3) := by decide +kernel
theorem d1_5 : decode prog_3_method_8_code 5 = .ok (.ldc 19, 2) := by decide +kernel
theorem d1_7 : decode prog_3_method_8_code 7 = .ok (.goto 6, 3) := by decide +kernel
theorem d1_10 : decode prog_3_method_8_code 10 = .ok (.sipush 256, 3) := by decide +kernel
theorem d1_13 : decode prog_3_method_8_code 13 = .ok (.if_icmp .ne 7, 3) := by decide +kernel
theorem d1_16 : decode prog_3_method_8_code 16 = .ok (.iconst 0, 1) := by decide +kernel
theorem d1_17 : decode prog_3_method_8_code 17 = .ok (.goto 4, 3) := by decide +kernel
theorem d1_20 : decode prog_3_method_8_code 20 = .ok (.iload_n 0, 1) := by decide +kernel
theorem d1_21 : decode prog_3_method_8_code 21 = .ok (.istore_n 2, 1) := by decide +kernel
theorem d1_22 : decode prog_3_method_8_code 22 = .ok (.iload_n 1, 1) := by decide +kernel
theorem d1_23 : decode prog_3_method_8_code 23 = .ok (.ifCond .eq 22, 3) := by decide +kernel
theorem d1_26 : decode prog_3_method_8_code 26 = .ok (.iconst 2, 1) := by decide +kernel
theorem d1_27 : decode prog_3_method_8_code 27 = .ok (.newarray .byte, 2) := by decide +kernel
theorem d1_29 : decode prog_3_method_8_code 29 = .ok (.dup, 1) := by decide +kernel
theorem d1_30 : decode prog_3_method_8_code 30 = .ok (.iconst 0, 1) := by decide +kernel
theorem d1_31 : decode prog_3_method_8_code 31 = .ok (.iload_n 2, 1) := by decide +kernel
theorem d1_32 : decode prog_3_method_8_code 32 = .ok (.bipush 8, 2) := by decide +kernel
theorem d1_34 : decode prog_3_method_8_code 34 = .ok (.iushr, 1) := by decide +kernel
theorem d1_35 : decode prog_3_method_8_code 35 = .ok (.i2b, 1) := by decide +kernel
theorem d1_36 : decode prog_3_method_8_code 36 = .ok (.bastore, 1) := by decide +kernel
theorem d1_37 : decode prog_3_method_8_code 37 = .ok (.dup, 1) := by decide +kernel
theorem d1_38 : decode prog_3_method_8_code 38 = .ok (.iconst 1, 1) := by decide +kernel
theorem d1_39 : decode prog_3_method_8_code 39 = .ok (.iload_n 2, 1) := by decide +kernel
theorem d1_40 : decode prog_3_method_8_code 40 = .ok (.i2b, 1) := by decide +kernel
theorem d1_41 : decode prog_3_method_8_code 41 = .ok (.bastore, 1) := by decide +kernel
theorem d1_42 : decode prog_3_method_8_code 42 = .ok (.goto 11, 3) := by decide +kernel
theorem d1_45 : decode prog_3_method_8_code 45 = .ok (.iconst 1, 1) := by decide +kernel
theorem d1_46 : decode prog_3_method_8_code 46 = .ok (.newarray .byte, 2) := by decide +kernel
theorem d1_48 : decode prog_3_method_8_code 48 = .ok (.dup, 1) := by decide +kernel
theorem d1_49 : decode prog_3_method_8_code 49 = .ok (.iconst 0, 1) := by decide +kernel
theorem d1_50 : decode prog_3_method_8_code 50 = .ok (.iload_n 2, 1) := by decide +kernel
theorem d1_51 : decode prog_3_method_8_code 51 = .ok (.i2b, 1) := by decide +kernel
theorem d1_52 : decode prog_3_method_8_code 52 = .ok (.bastore, 1) := by decide +kernel
theorem d1_53 : decode prog_3_method_8_code 53 = .ok (.areturn, 1) := by decide +kernel
theorem pn_0 : plainName "com/example/handclasp/handclasp/Apdu" = true := by first | (simp [plainName, overriddenIn]; done) | decide +kernel
theorem ef_1 (m : MethodId) (x0 : Int32) : entryFrame m #[(.int x0), (.int (1 : Int32))] 3 = mkF m 0 #[.val (.int x0), .val (.int (1 : Int32)), .unset] [] := by first | (simp [entryFrame, mkF, argsToLocals, Value.category, maxLocals]; done) | rfl
def Q1 (Z : State) (u : Int32) (h0 : Heap) (n0 : Nat) (v : Option Value) (h : Heap) (L : List Loc) : Prop := ∃ r : Addr, ∃ kc : ClassId, ∃ b0 : Int32, ∃ b1 : Int32, v = some (.ref r) ∧ (-128 ≤ b0.toInt ∧ b0.toInt < 128 ∧ -128 ≤ b1.toInt ∧ b1.toInt < 128 ∧ ((u.toInt = 65536 ∧ b0.toInt = 0 ∧ b1.toInt = 0) ∨ (u.toInt < 65536 ∧ b0.toInt % 256 = u.toInt / 256 ∧ b1.toInt % 256 = u.toInt % 256))) ∧ Fr n0 L ∧ Keep h0 h [] ∧ h0.size ≤ r ∧ Arv Z h r kc .byte (2 : Int32) [(.int b0), (.int b1)] (.int (0 : Int32))
set_option maxRecDepth 65536 in
set_option maxHeartbeats 40000000 in
theorem rm1 (l : Launch) (Z : State) (a0 : Array Value) (hw : ∀ d ∈ tables_1, d.before a0 Z = true) (ws : List Jvm.Cond) (u : Int32) (h0 : Heap) (n0 : Nat) (Z0 : n0 ≤ h0.size) (hu : 1 ≤ u.toInt ∧ u.toInt ≤ 65536) :
    MetFree l (⟨"com/example/handclasp/handclasp/Apdu", "le", "(IZ)[B"⟩ : MethodName) (head1 (Jvm.Cond.code (⟨"com/example/handclasp/handclasp/Apdu", "le", "(IZ)[B"⟩ : MethodName) prog_3_method_8_code 3 (some (.array .byte)) :: ws) ({ frames := 0, cells := 1, slots := 2, locals := 0 } : Room)) (fun a U => a = #[(.int u), (.int (1 : Int32))] ∧ Z.Warmed39 U.vm ∧ U.heap = h0) (fun _ _ _ _ _ => True) (fun _ U o U' => ∃ v L, o = .returned v ∧ Q1 Z u h0 n0 v U'.heap L ∧ FrameEnd U o U' L ({ frames := 0, cells := 1, slots := 2, locals := 0 } : Room).cells ({ frames := 0, cells := 1, slots := 2, locals := 0 } : Room).slots) := by
  refine MetFree.of_bodySF (plainFor_of_name pn_0) hisR ?_
  intro p e s m args below meth c s₁ Bd hml0 hP hK
  obtain ⟨rfl, hZ, hh⟩ := hP
  have hx := Bd.exec
  have hby := Bd.bytes
  have hml : c.maxLocals = 3 := hml0
  have hown : s.vm.findClass "com/example/handclasp/handclasp/Apdu" = some m.cls := findClass_of_methodNamed Bd.named
  have hnm := (name_of_methodNamed Bd.named Bd.method).1
  have X0 : Stand p l e ({ frames := 0, cells := 1, slots := 2, locals := 0 } : Room) s m #[(.int u), (.int (1 : Int32))] below meth c s₁ [] 0 0 := Stand.of_body Bd
  have e0 : s₁.heap = h0 := by rw [← hh, Bd.state]; rfl
  have N0 := Fr.nil n0
  change own_Go p e below (Q1 Z u h0 n0) (own_Fr s ({ frames := 0, cells := 1, slots := 2, locals := 0 } : Room).cells ({ frames := 0, cells := 1, slots := 2, locals := 0 } : Room).slots) (s₁.setTop (entryFrame m #[(.int u), (.int (1 : Int32))] 3))
  rw [ef_1 m u]
  have ru := rng32 u
  have K0 : Keep h0 h0 [] := Keep.refl h0 []
  refine own_iloadN (pc' := 1) X0 hx rfl (hb hby d1_0) rfl ?_
  refine own_iloadN (pc' := 2) X0 hx rfl (hb hby d1_1) rfl ?_
  refine own_ifNo (pc' := 5) X0 hx (by decide) (hb hby d1_2) rfl ?_
  refine own_ldcInt (pc' := 7) X0 hx hZ hown (hw _ (List.mem_of_getElem? (i := 6) rfl)) (hb hby d1_5) rfl ?_
  refine own_goto (pc' := 13) X0 hx (hb hby d1_7) (by decide) (by decide) ?_
  by_cases b1 : u.toInt = 65536
  · refine own_icmpNo (pc' := 16) X0 hx (own_no_ne rfl (by decide) b1) (hb hby d1_13) rfl ?_
    refine own_iconst (pc' := 17) X0 hx (0 : Int32) (by decide) (hb hby d1_16) rfl ?_
    refine own_goto (pc' := 21) X0 hx (hb hby d1_17) (by decide) (by decide) ?_
    refine own_istoreN (pc' := 22) X0 hx #[.val (.int u), .val (.int (1 : Int32)), .val (.int (0 : Int32))] rfl (hb hby d1_21) rfl ?_
    refine own_iloadN (pc' := 23) X0 hx rfl (hb hby d1_22) rfl ?_
    refine own_ifNo (pc' := 26) X0 hx (by decide) (hb hby d1_23) rfl ?_
    refine own_iconst (pc' := 27) X0 hx (2 : Int32) (by decide) (hb hby d1_26) rfl ?_
    obtain ⟨T2, h2, cA2, X2, e2, E2, Ar2, st2⟩ := newP X0 hx hZ (hw _ (List.mem_of_getElem? (i := 7) rfl)) e0 (g := (mkF m 27 #[.val (.int u), .val (.int (1 : Int32)), .val (.int (0 : Int32))] [(.int (2 : Int32))])) rfl (hb hby d1_27) (n := (2 : Int32)) rfl (by decide) (cap := 2) (by decide) (by decide) (by decide) (by decide)
    obtain ⟨a2, ga2⟩ : ∃ z, z = h0.size := ⟨_, rfl⟩
    rw [← ga2] at Ar2 st2
    have y2 : h0.size ≤ h0.size := K0.1
    have fr2 : n0 ≤ a2 := Nat.le_trans Z0 (Nat.le_of_eq ga2.symm)
    have Z3 : n0 ≤ h2.size := Nat.le_trans Z0 E2.1
    have K4 : Keep h0 h2 [] := K0.ext E2
    have A2 : Arv Z h2 a2 cA2 .byte (2 : Int32) [(.int (0 : Int32)), (.int (0 : Int32))] (.int (0 : Int32)) := (Arv.new Ar2 (by decide)).pad (fun i => pad_rep [] (.int (0 : Int32)) 2 i)
    refine own_by st2 ?_
    show own_Go p e below (Q1 Z u h0 n0) (own_Fr s ({ frames := 0, cells := 1, slots := 2, locals := 0 } : Room).cells ({ frames := 0, cells := 1, slots := 2, locals := 0 } : Room).slots) (T2.setTop (mkF m 29 #[.val (.int u), .val (.int (1 : Int32)), .val (.int (0 : Int32))] [(.ref a2)]))
    refine own_dup (pc' := 30) X2 hx rfl (hb hby d1_29) rfl ?_
    refine own_iconst (pc' := 31) X2 hx (0 : Int32) (by decide) (hb hby d1_30) rfl ?_
    refine own_iloadN (pc' := 32) X2 hx rfl (hb hby d1_31) rfl ?_
    refine own_bipush (pc' := 34) X2 hx (8 : Int32) (by decide) (hb hby d1_32) rfl ?_
    obtain ⟨v5, hv5⟩ : ∃ z, ((0 : Int32).toUInt32 >>> ((8 : Int32) &&& 31).toUInt32).toInt32 = z := ⟨_, rfl⟩
    have f6 : v5.toInt = (0 % 4294967296) / 256 := by rw [← hv5]; exact c_iushr (0 : Int32) (8 : Int32) 8 (by decide) (by decide)
    refine own_iushr (pc' := 35) X2 hx (z := v5) hv5 (hb hby d1_34) rfl ?_
    obtain ⟨v7, hv7⟩ : ∃ z, v5.toInt8.toInt32 = z := ⟨_, rfl⟩
    have f8 : (v7.toInt - v5.toInt) % 256 = 0 ∧ -128 ≤ v7.toInt ∧ v7.toInt < 128 := by rw [← hv7]; exact c_i2b v5
    replace f8 : v7.toInt = v5.toInt := by omega
    refine own_i2b (pc' := 36) X2 hx (z := v7) hv7 (hb hby d1_35) rfl ?_
    obtain ⟨c9, B9, q9, s9, u9, H9, G9⟩ := id A2
    obtain ⟨T9, h9, X9, e9, W9, st9⟩ := stB X2 hx hZ e2 B9 (j := (0 : Int32)) (x := v7) (inb_of s9 (by decide)) (g := (mkF m 36 #[.val (.int u), .val (.int (1 : Int32)), .val (.int (0 : Int32))] [(.int v7), (.int (0 : Int32)), (.ref a2), (.ref a2)])) rfl rfl (hb hby d1_36)
    have m9 : nar .byte v7 = v7 := own_nb (by omega)
    rw [m9] at W9
    have A9 : Arv Z h9 a2 cA2 .byte (2 : Int32) [(.int v7), (.int (0 : Int32))] (.int (0 : Int32)) := Arv.set B9 q9 s9 u9 H9 G9 (own_fb (by omega)) W9 0 (by decide) (by simp)
    have Z10 : n0 ≤ h9.size := Nat.le_trans Z3 (Nat.le_of_eq W9.size.symm)
    have N11 := Fr.snoc X9 N0 fr2
    have K12 : Keep h0 h9 [] := K4.wr W9 (Or.inr (Nat.le_trans y2 (Nat.le_of_eq ga2.symm)))
    refine own_by st9 ?_
    show own_Go p e below (Q1 Z u h0 n0) (own_Fr s ({ frames := 0, cells := 1, slots := 2, locals := 0 } : Room).cells ({ frames := 0, cells := 1, slots := 2, locals := 0 } : Room).slots) (T9.setTop (mkF m 37 #[.val (.int u), .val (.int (1 : Int32)), .val (.int (0 : Int32))] [(.ref a2)]))
    refine own_dup (pc' := 38) X9 hx rfl (hb hby d1_37) rfl ?_
    refine own_iconst (pc' := 39) X9 hx (1 : Int32) (by decide) (hb hby d1_38) rfl ?_
    refine own_iloadN (pc' := 40) X9 hx rfl (hb hby d1_39) rfl ?_
    refine own_i2b (pc' := 41) X9 hx (z := (0 : Int32)) (by decide) (hb hby d1_40) rfl ?_
    obtain ⟨c13, B13, q13, s13, u13, H13, G13⟩ := id A9
    obtain ⟨T13, h13, X13, e13, W13, st13⟩ := stB X9 hx hZ e9 B13 (j := (1 : Int32)) (x := (0 : Int32)) (inb_of s13 (by decide)) (g := (mkF m 41 #[.val (.int u), .val (.int (1 : Int32)), .val (.int (0 : Int32))] [(.int (0 : Int32)), (.int (1 : Int32)), (.ref a2), (.ref a2)])) rfl rfl (hb hby d1_41)
    have m13 : nar .byte (0 : Int32) = (0 : Int32) := by decide
    rw [m13] at W13
    have A13 : Arv Z h13 a2 cA2 .byte (2 : Int32) [(.int v7), (.int (0 : Int32))] (.int (0 : Int32)) := Arv.set B13 q13 s13 u13 H13 G13 (by decide) W13 1 (by decide) (by simp)
    have Z14 : n0 ≤ h13.size := Nat.le_trans Z10 (Nat.le_of_eq W13.size.symm)
    have N15 := Fr.snoc X13 N11 fr2
    have K16 : Keep h0 h13 [] := K12.wr W13 (Or.inr (Nat.le_trans y2 (Nat.le_of_eq ga2.symm)))
    refine own_by st13 ?_
    show own_Go p e below (Q1 Z u h0 n0) (own_Fr s ({ frames := 0, cells := 1, slots := 2, locals := 0 } : Room).cells ({ frames := 0, cells := 1, slots := 2, locals := 0 } : Room).slots) (T13.setTop (mkF m 42 #[.val (.int u), .val (.int (1 : Int32)), .val (.int (0 : Int32))] [(.ref a2)]))
    refine own_goto (pc' := 53) X13 hx (hb hby d1_42) (by decide) (by decide) ?_
    refine own_ret X13 hx Bd.returns Bd.notSynchronized (Or.inr (Or.inr (Or.inr (Or.inr ⟨rfl, rfl, rfl⟩)))) (hb hby d1_53) rfl (by decide) (by decide) ?_
    show Q1 Z u h0 n0 _ T13.heap _
    rw [e13]
    have kc3 : ((0 : Int32)).toInt = 0 := by decide
    exact ⟨a2, cA2, v7, (0 : Int32), rfl, by omega, N15, K16, Nat.le_trans y2 (Nat.le_of_eq ga2.symm), A13⟩
  · refine own_icmpYes (pc' := 20) X0 hx (hb hby d1_13) (own_yes_ne rfl (by decide) b1) (by decide) (by decide) ?_
    refine own_iloadN (pc' := 21) X0 hx rfl (hb hby d1_20) rfl ?_
    refine own_istoreN (pc' := 22) X0 hx #[.val (.int u), .val (.int (1 : Int32)), .val (.int u)] rfl (hb hby d1_21) rfl ?_
    refine own_iloadN (pc' := 23) X0 hx rfl (hb hby d1_22) rfl ?_
    refine own_ifNo (pc' := 26) X0 hx (by decide) (hb hby d1_23) rfl ?_
    refine own_iconst (pc' := 27) X0 hx (2 : Int32) (by decide) (hb hby d1_26) rfl ?_
    obtain ⟨T17, h17, cA17, X17, e17, E17, Ar17, st17⟩ := newP X0 hx hZ (hw _ (List.mem_of_getElem? (i := 7) rfl)) e0 (g := (mkF m 27 #[.val (.int u), .val (.int (1 : Int32)), .val (.int u)] [(.int (2 : Int32))])) rfl (hb hby d1_27) (n := (2 : Int32)) rfl (by decide) (cap := 2) (by decide) (by decide) (by decide) (by decide)
    obtain ⟨a17, ga17⟩ : ∃ z, z = h0.size := ⟨_, rfl⟩
    rw [← ga17] at Ar17 st17
    have y17 : h0.size ≤ h0.size := K0.1
    have fr17 : n0 ≤ a17 := Nat.le_trans Z0 (Nat.le_of_eq ga17.symm)
    have Z18 : n0 ≤ h17.size := Nat.le_trans Z0 E17.1
    have K19 : Keep h0 h17 [] := K0.ext E17
    have A17 : Arv Z h17 a17 cA17 .byte (2 : Int32) [(.int (0 : Int32)), (.int (0 : Int32))] (.int (0 : Int32)) := (Arv.new Ar17 (by decide)).pad (fun i => pad_rep [] (.int (0 : Int32)) 2 i)
    refine own_by st17 ?_
    show own_Go p e below (Q1 Z u h0 n0) (own_Fr s ({ frames := 0, cells := 1, slots := 2, locals := 0 } : Room).cells ({ frames := 0, cells := 1, slots := 2, locals := 0 } : Room).slots) (T17.setTop (mkF m 29 #[.val (.int u), .val (.int (1 : Int32)), .val (.int u)] [(.ref a17)]))
    refine own_dup (pc' := 30) X17 hx rfl (hb hby d1_29) rfl ?_
    refine own_iconst (pc' := 31) X17 hx (0 : Int32) (by decide) (hb hby d1_30) rfl ?_
    refine own_iloadN (pc' := 32) X17 hx rfl (hb hby d1_31) rfl ?_
    refine own_bipush (pc' := 34) X17 hx (8 : Int32) (by decide) (hb hby d1_32) rfl ?_
    obtain ⟨v20, hv20⟩ : ∃ z, (u.toUInt32 >>> ((8 : Int32) &&& 31).toUInt32).toInt32 = z := ⟨_, rfl⟩
    have f21 : v20.toInt = (u.toInt % 4294967296) / 256 := by rw [← hv20]; exact c_iushr u (8 : Int32) 8 (by decide) (by decide)
    refine own_iushr (pc' := 35) X17 hx (z := v20) hv20 (hb hby d1_34) rfl ?_
    obtain ⟨v22, hv22⟩ : ∃ z, v20.toInt8.toInt32 = z := ⟨_, rfl⟩
    have f23 : (v22.toInt - v20.toInt) % 256 = 0 ∧ -128 ≤ v22.toInt ∧ v22.toInt < 128 := by rw [← hv22]; exact c_i2b v20
    refine own_i2b (pc' := 36) X17 hx (z := v22) hv22 (hb hby d1_35) rfl ?_
    obtain ⟨c24, B24, q24, s24, u24, H24, G24⟩ := id A17
    obtain ⟨T24, h24, X24, e24, W24, st24⟩ := stB X17 hx hZ e17 B24 (j := (0 : Int32)) (x := v22) (inb_of s24 (by decide)) (g := (mkF m 36 #[.val (.int u), .val (.int (1 : Int32)), .val (.int u)] [(.int v22), (.int (0 : Int32)), (.ref a17), (.ref a17)])) rfl rfl (hb hby d1_36)
    have m24 : nar .byte v22 = v22 := own_nb (by omega)
    rw [m24] at W24
    have A24 : Arv Z h24 a17 cA17 .byte (2 : Int32) [(.int v22), (.int (0 : Int32))] (.int (0 : Int32)) := Arv.set B24 q24 s24 u24 H24 G24 (own_fb (by omega)) W24 0 (by decide) (by simp)
    have Z25 : n0 ≤ h24.size := Nat.le_trans Z18 (Nat.le_of_eq W24.size.symm)
    have N26 := Fr.snoc X24 N0 fr17
    have K27 : Keep h0 h24 [] := K19.wr W24 (Or.inr (Nat.le_trans y17 (Nat.le_of_eq ga17.symm)))
    refine own_by st24 ?_
    show own_Go p e below (Q1 Z u h0 n0) (own_Fr s ({ frames := 0, cells := 1, slots := 2, locals := 0 } : Room).cells ({ frames := 0, cells := 1, slots := 2, locals := 0 } : Room).slots) (T24.setTop (mkF m 37 #[.val (.int u), .val (.int (1 : Int32)), .val (.int u)] [(.ref a17)]))
    refine own_dup (pc' := 38) X24 hx rfl (hb hby d1_37) rfl ?_
    refine own_iconst (pc' := 39) X24 hx (1 : Int32) (by decide) (hb hby d1_38) rfl ?_
    refine own_iloadN (pc' := 40) X24 hx rfl (hb hby d1_39) rfl ?_
    obtain ⟨v28, hv28⟩ : ∃ z, u.toInt8.toInt32 = z := ⟨_, rfl⟩
    have f29 : (v28.toInt - u.toInt) % 256 = 0 ∧ -128 ≤ v28.toInt ∧ v28.toInt < 128 := by rw [← hv28]; exact c_i2b u
    refine own_i2b (pc' := 41) X24 hx (z := v28) hv28 (hb hby d1_40) rfl ?_
    obtain ⟨c30, B30, q30, s30, u30, H30, G30⟩ := id A24
    obtain ⟨T30, h30, X30, e30, W30, st30⟩ := stB X24 hx hZ e24 B30 (j := (1 : Int32)) (x := v28) (inb_of s30 (by decide)) (g := (mkF m 41 #[.val (.int u), .val (.int (1 : Int32)), .val (.int u)] [(.int v28), (.int (1 : Int32)), (.ref a17), (.ref a17)])) rfl rfl (hb hby d1_41)
    have m30 : nar .byte v28 = v28 := own_nb (by omega)
    rw [m30] at W30
    have A30 : Arv Z h30 a17 cA17 .byte (2 : Int32) [(.int v22), (.int v28)] (.int (0 : Int32)) := Arv.set B30 q30 s30 u30 H30 G30 (own_fb (by omega)) W30 1 (by decide) (by simp)
    have Z31 : n0 ≤ h30.size := Nat.le_trans Z25 (Nat.le_of_eq W30.size.symm)
    have N32 := Fr.snoc X30 N26 fr17
    have K33 : Keep h0 h30 [] := K27.wr W30 (Or.inr (Nat.le_trans y17 (Nat.le_of_eq ga17.symm)))
    refine own_by st30 ?_
    show own_Go p e below (Q1 Z u h0 n0) (own_Fr s ({ frames := 0, cells := 1, slots := 2, locals := 0 } : Room).cells ({ frames := 0, cells := 1, slots := 2, locals := 0 } : Room).slots) (T30.setTop (mkF m 42 #[.val (.int u), .val (.int (1 : Int32)), .val (.int u)] [(.ref a17)]))
    refine own_goto (pc' := 53) X30 hx (hb hby d1_42) (by decide) (by decide) ?_
    refine own_ret X30 hx Bd.returns Bd.notSynchronized (Or.inr (Or.inr (Or.inr (Or.inr ⟨rfl, rfl, rfl⟩)))) (hb hby d1_53) rfl (by decide) (by decide) ?_
    show Q1 Z u h0 n0 _ T30.heap _
    rw [e30]
    exact ⟨a17, cA17, v22, v28, rfl, by omega, N32, K33, Nat.le_trans y17 (Nat.le_of_eq ga17.symm), A30⟩
theorem ef_2 (m : MethodId) (x0 : Int32) : entryFrame m #[(.int x0), (.int (0 : Int32))] 3 = mkF m 0 #[.val (.int x0), .val (.int (0 : Int32)), .unset] [] := by first | (simp [entryFrame, mkF, argsToLocals, Value.category, maxLocals]; done) | rfl
def Q2 (Z : State) (u : Int32) (h0 : Heap) (n0 : Nat) (v : Option Value) (h : Heap) (L : List Loc) : Prop := ∃ r : Addr, ∃ kc : ClassId, ∃ b0 : Int32, v = some (.ref r) ∧ (-128 ≤ b0.toInt ∧ b0.toInt < 128 ∧ ((u.toInt = 256 ∧ b0.toInt = 0) ∨ (u.toInt < 256 ∧ b0.toInt % 256 = u.toInt))) ∧ Fr n0 L ∧ Keep h0 h [] ∧ h0.size ≤ r ∧ Arv Z h r kc .byte (1 : Int32) [(.int b0)] (.int (0 : Int32))
set_option maxRecDepth 65536 in
set_option maxHeartbeats 40000000 in
theorem rm2 (l : Launch) (Z : State) (a0 : Array Value) (hw : ∀ d ∈ tables_1, d.before a0 Z = true) (ws : List Jvm.Cond) (u : Int32) (h0 : Heap) (n0 : Nat) (Z0 : n0 ≤ h0.size) (hu : 1 ≤ u.toInt ∧ u.toInt ≤ 256) :
    MetFree l (⟨"com/example/handclasp/handclasp/Apdu", "le", "(IZ)[B"⟩ : MethodName) (head1 (Jvm.Cond.code (⟨"com/example/handclasp/handclasp/Apdu", "le", "(IZ)[B"⟩ : MethodName) prog_3_method_8_code 3 (some (.array .byte)) :: ws) ({ frames := 0, cells := 1, slots := 1, locals := 0 } : Room)) (fun a U => a = #[(.int u), (.int (0 : Int32))] ∧ Z.Warmed39 U.vm ∧ U.heap = h0) (fun _ _ _ _ _ => True) (fun _ U o U' => ∃ v L, o = .returned v ∧ Q2 Z u h0 n0 v U'.heap L ∧ FrameEnd U o U' L ({ frames := 0, cells := 1, slots := 1, locals := 0 } : Room).cells ({ frames := 0, cells := 1, slots := 1, locals := 0 } : Room).slots) := by
  refine MetFree.of_bodySF (plainFor_of_name pn_0) hisR ?_
  intro p e s m args below meth c s₁ Bd hml0 hP hK
  obtain ⟨rfl, hZ, hh⟩ := hP
  have hx := Bd.exec
  have hby := Bd.bytes
  have hml : c.maxLocals = 3 := hml0
  have hown : s.vm.findClass "com/example/handclasp/handclasp/Apdu" = some m.cls := findClass_of_methodNamed Bd.named
  have hnm := (name_of_methodNamed Bd.named Bd.method).1
  have X0 : Stand p l e ({ frames := 0, cells := 1, slots := 1, locals := 0 } : Room) s m #[(.int u), (.int (0 : Int32))] below meth c s₁ [] 0 0 := Stand.of_body Bd
  have e0 : s₁.heap = h0 := by rw [← hh, Bd.state]; rfl
  have N0 := Fr.nil n0
  change own_Go p e below (Q2 Z u h0 n0) (own_Fr s ({ frames := 0, cells := 1, slots := 1, locals := 0 } : Room).cells ({ frames := 0, cells := 1, slots := 1, locals := 0 } : Room).slots) (s₁.setTop (entryFrame m #[(.int u), (.int (0 : Int32))] 3))
  rw [ef_2 m u]
  have ru := rng32 u
  have K0 : Keep h0 h0 [] := Keep.refl h0 []
  refine own_iloadN (pc' := 1) X0 hx rfl (hb hby d1_0) rfl ?_
  refine own_iloadN (pc' := 2) X0 hx rfl (hb hby d1_1) rfl ?_
  refine own_ifYes (pc' := 10) X0 hx (hb hby d1_2) (by decide) (by decide) (by decide) ?_
  refine own_sipush (pc' := 13) X0 hx (256 : Int32) (by decide) (hb hby d1_10) rfl ?_
  by_cases b1 : u.toInt = 256
  · refine own_icmpNo (pc' := 16) X0 hx (own_no_ne rfl (by decide) b1) (hb hby d1_13) rfl ?_
    refine own_iconst (pc' := 17) X0 hx (0 : Int32) (by decide) (hb hby d1_16) rfl ?_
    refine own_goto (pc' := 21) X0 hx (hb hby d1_17) (by decide) (by decide) ?_
    refine own_istoreN (pc' := 22) X0 hx #[.val (.int u), .val (.int (0 : Int32)), .val (.int (0 : Int32))] rfl (hb hby d1_21) rfl ?_
    refine own_iloadN (pc' := 23) X0 hx rfl (hb hby d1_22) rfl ?_
    refine own_ifYes (pc' := 45) X0 hx (hb hby d1_23) (by decide) (by decide) (by decide) ?_
    refine own_iconst (pc' := 46) X0 hx (1 : Int32) (by decide) (hb hby d1_45) rfl ?_
    obtain ⟨T2, h2, cA2, X2, e2, E2, Ar2, st2⟩ := newP X0 hx hZ (hw _ (List.mem_of_getElem? (i := 7) rfl)) e0 (g := (mkF m 46 #[.val (.int u), .val (.int (0 : Int32)), .val (.int (0 : Int32))] [(.int (1 : Int32))])) rfl (hb hby d1_46) (n := (1 : Int32)) rfl (by decide) (cap := 1) (by decide) (by decide) (by decide) (by decide)
    obtain ⟨a2, ga2⟩ : ∃ z, z = h0.size := ⟨_, rfl⟩
    rw [← ga2] at Ar2 st2
    have y2 : h0.size ≤ h0.size := K0.1
    have fr2 : n0 ≤ a2 := Nat.le_trans Z0 (Nat.le_of_eq ga2.symm)
    have Z3 : n0 ≤ h2.size := Nat.le_trans Z0 E2.1
    have K4 : Keep h0 h2 [] := K0.ext E2
    have A2 : Arv Z h2 a2 cA2 .byte (1 : Int32) [(.int (0 : Int32))] (.int (0 : Int32)) := (Arv.new Ar2 (by decide)).pad (fun i => pad_rep [] (.int (0 : Int32)) 1 i)
    refine own_by st2 ?_
    show own_Go p e below (Q2 Z u h0 n0) (own_Fr s ({ frames := 0, cells := 1, slots := 1, locals := 0 } : Room).cells ({ frames := 0, cells := 1, slots := 1, locals := 0 } : Room).slots) (T2.setTop (mkF m 48 #[.val (.int u), .val (.int (0 : Int32)), .val (.int (0 : Int32))] [(.ref a2)]))
    refine own_dup (pc' := 49) X2 hx rfl (hb hby d1_48) rfl ?_
    refine own_iconst (pc' := 50) X2 hx (0 : Int32) (by decide) (hb hby d1_49) rfl ?_
    refine own_iloadN (pc' := 51) X2 hx rfl (hb hby d1_50) rfl ?_
    refine own_i2b (pc' := 52) X2 hx (z := (0 : Int32)) (by decide) (hb hby d1_51) rfl ?_
    obtain ⟨c5, B5, q5, s5, u5, H5, G5⟩ := id A2
    obtain ⟨T5, h5, X5, e5, W5, st5⟩ := stB X2 hx hZ e2 B5 (j := (0 : Int32)) (x := (0 : Int32)) (inb_of s5 (by decide)) (g := (mkF m 52 #[.val (.int u), .val (.int (0 : Int32)), .val (.int (0 : Int32))] [(.int (0 : Int32)), (.int (0 : Int32)), (.ref a2), (.ref a2)])) rfl rfl (hb hby d1_52)
    have m5 : nar .byte (0 : Int32) = (0 : Int32) := by decide
    rw [m5] at W5
    have A5 : Arv Z h5 a2 cA2 .byte (1 : Int32) [(.int (0 : Int32))] (.int (0 : Int32)) := Arv.set B5 q5 s5 u5 H5 G5 (by decide) W5 0 (by decide) (by simp)
    have Z6 : n0 ≤ h5.size := Nat.le_trans Z3 (Nat.le_of_eq W5.size.symm)
    have N7 := Fr.snoc X5 N0 fr2
    have K8 : Keep h0 h5 [] := K4.wr W5 (Or.inr (Nat.le_trans y2 (Nat.le_of_eq ga2.symm)))
    refine own_by st5 ?_
    show own_Go p e below (Q2 Z u h0 n0) (own_Fr s ({ frames := 0, cells := 1, slots := 1, locals := 0 } : Room).cells ({ frames := 0, cells := 1, slots := 1, locals := 0 } : Room).slots) (T5.setTop (mkF m 53 #[.val (.int u), .val (.int (0 : Int32)), .val (.int (0 : Int32))] [(.ref a2)]))
    refine own_ret X5 hx Bd.returns Bd.notSynchronized (Or.inr (Or.inr (Or.inr (Or.inr ⟨rfl, rfl, rfl⟩)))) (hb hby d1_53) rfl (by decide) (by decide) ?_
    show Q2 Z u h0 n0 _ T5.heap _
    rw [e5]
    have kc2 : ((0 : Int32)).toInt = 0 := by decide
    exact ⟨a2, cA2, (0 : Int32), rfl, by omega, N7, K8, Nat.le_trans y2 (Nat.le_of_eq ga2.symm), A5⟩
  · refine own_icmpYes (pc' := 20) X0 hx (hb hby d1_13) (own_yes_ne rfl (by decide) b1) (by decide) (by decide) ?_
    refine own_iloadN (pc' := 21) X0 hx rfl (hb hby d1_20) rfl ?_
    refine own_istoreN (pc' := 22) X0 hx #[.val (.int u), .val (.int (0 : Int32)), .val (.int u)] rfl (hb hby d1_21) rfl ?_
    refine own_iloadN (pc' := 23) X0 hx rfl (hb hby d1_22) rfl ?_
    refine own_ifYes (pc' := 45) X0 hx (hb hby d1_23) (by decide) (by decide) (by decide) ?_
    refine own_iconst (pc' := 46) X0 hx (1 : Int32) (by decide) (hb hby d1_45) rfl ?_
    obtain ⟨T9, h9, cA9, X9, e9, E9, Ar9, st9⟩ := newP X0 hx hZ (hw _ (List.mem_of_getElem? (i := 7) rfl)) e0 (g := (mkF m 46 #[.val (.int u), .val (.int (0 : Int32)), .val (.int u)] [(.int (1 : Int32))])) rfl (hb hby d1_46) (n := (1 : Int32)) rfl (by decide) (cap := 1) (by decide) (by decide) (by decide) (by decide)
    obtain ⟨a9, ga9⟩ : ∃ z, z = h0.size := ⟨_, rfl⟩
    rw [← ga9] at Ar9 st9
    have y9 : h0.size ≤ h0.size := K0.1
    have fr9 : n0 ≤ a9 := Nat.le_trans Z0 (Nat.le_of_eq ga9.symm)
    have Z10 : n0 ≤ h9.size := Nat.le_trans Z0 E9.1
    have K11 : Keep h0 h9 [] := K0.ext E9
    have A9 : Arv Z h9 a9 cA9 .byte (1 : Int32) [(.int (0 : Int32))] (.int (0 : Int32)) := (Arv.new Ar9 (by decide)).pad (fun i => pad_rep [] (.int (0 : Int32)) 1 i)
    refine own_by st9 ?_
    show own_Go p e below (Q2 Z u h0 n0) (own_Fr s ({ frames := 0, cells := 1, slots := 1, locals := 0 } : Room).cells ({ frames := 0, cells := 1, slots := 1, locals := 0 } : Room).slots) (T9.setTop (mkF m 48 #[.val (.int u), .val (.int (0 : Int32)), .val (.int u)] [(.ref a9)]))
    refine own_dup (pc' := 49) X9 hx rfl (hb hby d1_48) rfl ?_
    refine own_iconst (pc' := 50) X9 hx (0 : Int32) (by decide) (hb hby d1_49) rfl ?_
    refine own_iloadN (pc' := 51) X9 hx rfl (hb hby d1_50) rfl ?_
    obtain ⟨v12, hv12⟩ : ∃ z, u.toInt8.toInt32 = z := ⟨_, rfl⟩
    have f13 : (v12.toInt - u.toInt) % 256 = 0 ∧ -128 ≤ v12.toInt ∧ v12.toInt < 128 := by rw [← hv12]; exact c_i2b u
    refine own_i2b (pc' := 52) X9 hx (z := v12) hv12 (hb hby d1_51) rfl ?_
    obtain ⟨c14, B14, q14, s14, u14, H14, G14⟩ := id A9
    obtain ⟨T14, h14, X14, e14, W14, st14⟩ := stB X9 hx hZ e9 B14 (j := (0 : Int32)) (x := v12) (inb_of s14 (by decide)) (g := (mkF m 52 #[.val (.int u), .val (.int (0 : Int32)), .val (.int u)] [(.int v12), (.int (0 : Int32)), (.ref a9), (.ref a9)])) rfl rfl (hb hby d1_52)
    have m14 : nar .byte v12 = v12 := own_nb (by omega)
    rw [m14] at W14
    have A14 : Arv Z h14 a9 cA9 .byte (1 : Int32) [(.int v12)] (.int (0 : Int32)) := Arv.set B14 q14 s14 u14 H14 G14 (own_fb (by omega)) W14 0 (by decide) (by simp)
    have Z15 : n0 ≤ h14.size := Nat.le_trans Z10 (Nat.le_of_eq W14.size.symm)
    have N16 := Fr.snoc X14 N0 fr9
    have K17 : Keep h0 h14 [] := K11.wr W14 (Or.inr (Nat.le_trans y9 (Nat.le_of_eq ga9.symm)))
    refine own_by st14 ?_
    show own_Go p e below (Q2 Z u h0 n0) (own_Fr s ({ frames := 0, cells := 1, slots := 1, locals := 0 } : Room).cells ({ frames := 0, cells := 1, slots := 1, locals := 0 } : Room).slots) (T14.setTop (mkF m 53 #[.val (.int u), .val (.int (0 : Int32)), .val (.int u)] [(.ref a9)]))
    refine own_ret X14 hx Bd.returns Bd.notSynchronized (Or.inr (Or.inr (Or.inr (Or.inr ⟨rfl, rfl, rfl⟩)))) (hb hby d1_53) rfl (by decide) (by decide) ?_
    show Q2 Z u h0 n0 _ T14.heap _
    rw [e14]
    exact ⟨a9, cA9, v12, rfl, by omega, N16, K17, Nat.le_trans y9 (Nat.le_of_eq ga9.symm), A14⟩
theorem pn_1 : plainName "com/example/handclasp/handclasp/ApduLePinLaw" = true := by first | (simp [plainName, overriddenIn]; done) | decide +kernel
theorem ef_0 (m : MethodId) (x0 : Int32) (x1 : Int32) : entryFrame m #[(.int x0), (.int x1)] maxLocals = mkF m 0 #[.val (.int x0), .val (.int x1), .unset, .unset, .unset, .unset, .unset, .unset] [] := by first | (simp [entryFrame, mkF, argsToLocals, Value.category, maxLocals]; done) | rfl
def Q0 (Z : State) (p1 : Int32) (p2 : Int32) (h0 : Heap) (n0 : Nat) (v : Option Value) (h : Heap) (L : List Loc) : Prop := v = some (.int 1) ∧ Fr n0 L
set_option maxRecDepth 65536 in
set_option maxHeartbeats 40000000 in
theorem rm0 (l : Launch) (Z : State) (a0 : Array Value) (hw : ∀ d ∈ tables_1, d.before a0 Z = true) (ws : List Jvm.Cond) (p1 : Int32) (p2 : Int32) (h0 : Heap) (n0 : Nat) (Z0 : n0 ≤ h0.size) :
    MetFree l x (head1 (Jvm.Cond.code x code maxLocals ret :: ws) room_1) (fun a U => a = #[(.int p1), (.int p2)] ∧ Z.Warmed39 U.vm ∧ U.heap = h0) (fun _ _ _ _ _ => True) (fun _ U o U' => ∃ v L, o = .returned v ∧ Q0 Z p1 p2 h0 n0 v U'.heap L ∧ FrameEnd U o U' L room_1.cells room_1.slots) := by
  refine MetFree.of_bodySF (plainFor_of_name pn_1) hisR ?_
  intro p e s m args below meth c s₁ Bd hml0 hP hK
  obtain ⟨rfl, hZ, hh⟩ := hP
  have hx := Bd.exec
  have hby := Bd.bytes
  have hml : c.maxLocals = 8 := hml0
  have hown : s.vm.findClass "com/example/handclasp/handclasp/ApduLePinLaw" = some m.cls := findClass_of_methodNamed Bd.named
  have hnm := (name_of_methodNamed Bd.named Bd.method).1
  have X0 : Stand p l e room_1 s m #[(.int p1), (.int p2)] below meth c s₁ [] 0 0 := Stand.of_body Bd
  have e0 : s₁.heap = h0 := by rw [← hh, Bd.state]; rfl
  have N0 := Fr.nil n0
  change own_Go p e below (Q0 Z p1 p2 h0 n0) (own_Fr s room_1.cells room_1.slots) (s₁.setTop (entryFrame m #[(.int p1), (.int p2)] maxLocals))
  rw [ef_0 m p1 p2]
  have rp1 := rng32 p1
  have rp2 := rng32 p2
  refine own_iloadN (pc' := 1) X0 hx rfl (hb hby at_0) rfl ?_
  refine own_iconst (pc' := 2) X0 hx (1 : Int32) (by decide) (hb hby at_1) rfl ?_
  obtain ⟨v1, hv1⟩ : ∃ z, p2 &&& (1 : Int32) = z := ⟨_, rfl⟩
  have f2 : v1.toInt = p2.toInt % 2 := by rw [← hv1]; exact c_mask p2 (1 : Int32) 1 (by decide) (by decide)
  refine own_iand (pc' := 3) X0 hx (z := v1) hv1 (hb hby at_2) rfl ?_
  by_cases b3 : v1.toInt = 0
  · refine own_ifYes (pc' := 10) X0 hx (hb hby at_3) (own_z (own_yes_eq rfl (by decide) b3)) (by decide) (by decide) ?_
    refine own_iconst (pc' := 11) X0 hx (0 : Int32) (by decide) (hb hby at_10) rfl ?_
    refine own_istoreN (pc' := 12) X0 hx #[.val (.int p1), .val (.int p2), .val (.int (0 : Int32)), .unset, .unset, .unset, .unset, .unset] rfl (hb hby at_11) rfl ?_
    refine own_iloadN (pc' := 13) X0 hx rfl (hb hby at_12) rfl ?_
    refine own_ifYes (pc' := 28) X0 hx (hb hby at_13) (by decide) (by decide) (by decide) ?_
    refine own_iloadN (pc' := 29) X0 hx rfl (hb hby at_28) rfl ?_
    refine own_ldcInt (pc' := 31) X0 hx hZ hown (hw _ (List.mem_of_getElem? (i := 0) rfl)) (hb hby at_29) rfl ?_
    obtain ⟨v4, hv4⟩ : ∃ z, p1 &&& (2147483647 : Int32) = z := ⟨_, rfl⟩
    have f5 : v4.toInt = p1.toInt % 2147483648 := by rw [← hv4]; exact c_mask p1 (2147483647 : Int32) 31 (by decide) (by decide)
    refine own_iand (pc' := 32) X0 hx (z := v4) hv4 (hb hby at_31) rfl ?_
    refine own_sipush (pc' := 35) X0 hx (256 : Int32) (by decide) (hb hby at_32) rfl ?_
    obtain ⟨v6, hv6⟩ : ∃ z, v4 % (256 : Int32) = z := ⟨_, rfl⟩
    have f7 : v6.toInt = v4.toInt % 256 := by rw [← hv6]; exact (c_irem v4 (256 : Int32) 256 (by decide)).1 (by omega)
    refine own_irem (pc' := 36) X0 hx (z := v6) (by decide) hv6 (hb hby at_35) rfl ?_
    refine own_iconst (pc' := 37) X0 hx (1 : Int32) (by decide) (hb hby at_36) rfl ?_
    obtain ⟨v8, hv8⟩ : ∃ z, v6 + (1 : Int32) = z := ⟨_, rfl⟩
    have f9 : (v8.toInt - (v6.toInt + 1)) % 4294967296 = 0 := by rw [← hv8]; exact c_iadd v6 (1 : Int32)
    have rv8 := rng32 v8
    replace f9 : v8.toInt = v6.toInt + 1 := by omega
    refine own_iadd (pc' := 38) X0 hx (z := v8) hv8 (hb hby at_37) rfl ?_
    refine own_istoreN (pc' := 39) X0 hx #[.val (.int p1), .val (.int p2), .val (.int (0 : Int32)), .val (.int v8), .unset, .unset, .unset, .unset] rfl (hb hby at_38) rfl ?_
    refine own_iloadN (pc' := 40) X0 hx rfl (hb hby at_39) rfl ?_
    refine own_iloadN (pc' := 41) X0 hx rfl (hb hby at_40) rfl ?_
    obtain ⟨_, _, ⟨T10, L10, k10, n10⟩, -, X10, ⟨Lc10, hQ10, l10, y10, z10⟩, st10⟩ := Jvm.LawKit.callS X0 hx (y := (⟨"com/example/handclasp/handclasp/Apdu", "le", "(IZ)[B"⟩ : MethodName)) hown (mvT hZ (hw _ (List.mem_of_getElem? (i := 2) rfl))) (mvT hZ (hw _ (List.mem_of_getElem? (i := 3) rfl))) (mvT hZ (hw _ (List.mem_of_getElem? (i := 4) rfl))) (mvT hZ (hw _ (List.mem_of_getElem? (i := 5) rfl))) (by decide) (backOf (W := 0) (rm2 l Z a0 hw [] v8 h0 n0 Z0 (by omega)) hZ (hw _ (List.mem_of_getElem? (i := 5) rfl)) (hw _ (List.mem_of_getElem? (i := 4) rfl)) (by decide) (by decide)) (g := (mkF m 41 #[.val (.int p1), .val (.int p2), .val (.int (0 : Int32)), .val (.int v8), .unset, .unset, .unset, .unset] [(.int (0 : Int32)), (.int v8)])) rfl (by rw [hml]; rfl) (argsL := [(.int v8), (.int (0 : Int32))]) (rest := []) (lenOf pd_0 rfl) rfl (by show 2 * 0 + _ ≤ _; exact Nat.le_of_eq rfl) (hb hby at_41) (fun _ _ => ⟨rfl, e0, (by decide : 0 + 1 ≤ _), (by decide : 0 + 1 ≤ _)⟩)
    dsimp only [Pt.U, Pt.locs, Pt.cells, Pt.slots] at X10 l10 y10 z10 st10 hQ10
    subst l10 y10 z10
    obtain ⟨o10, kc_10, b0_10, rfl, p10, N10, Kc10, gc10, Ac10⟩ := hQ10
    have fro10 : n0 ≤ o10 := Nat.le_trans Z0 gc10
    have Z11 : n0 ≤ T10.heap.size := Nat.le_trans Z0 Kc10.1
    have rb0_10 := rng32 b0_10
    have N10a := Fr.app N0 N10
    refine own_by st10 ?_
    show own_Go p e below (Q0 Z p1 p2 h0 n0) (own_Fr s room_1.cells room_1.slots) (T10.setTop (mkF m 44 #[.val (.int p1), .val (.int p2), .val (.int (0 : Int32)), .val (.int v8), .unset, .unset, .unset, .unset] [(.ref o10)]))
    refine own_astore (pc' := 46) X10 hx #[.val (.int p1), .val (.int p2), .val (.int (0 : Int32)), .val (.int v8), .val (.ref o10), .unset, .unset, .unset] rfl rfl (hb hby at_44) rfl ?_
    refine own_iloadN (pc' := 47) X10 hx rfl (hb hby at_46) rfl ?_
    refine own_ifYes (pc' := 120) X10 hx (hb hby at_47) (by decide) (by decide) (by decide) ?_
    refine own_aload (pc' := 122) X10 hx rfl rfl (hb hby at_120) rfl ?_
    obtain ⟨c12, B12, q12, s12, u12, H12, G12⟩ := id Ac10
    refine own_by (X10.arraylength hx (by exact B12.1) (State.isArrayOf_alike hZ.alike B12.2.1) (g := (mkF m 122 #[.val (.int p1), .val (.int p2), .val (.int (0 : Int32)), .val (.int v8), .val (.ref o10), .unset, .unset, .unset] [(.ref o10)])) rfl rfl (hb hby at_122)) ?_
    rw [len_of s12 u12]
    show own_Go p e below (Q0 Z p1 p2 h0 n0) (own_Fr s room_1.cells room_1.slots) (T10.setTop (mkF m 123 #[.val (.int p1), .val (.int p2), .val (.int (0 : Int32)), .val (.int v8), .val (.ref o10), .unset, .unset, .unset] [(.int (1 : Int32))]))
    refine own_iconst (pc' := 124) X10 hx (1 : Int32) (by decide) (hb hby at_123) rfl ?_
    refine own_icmpYes (pc' := 129) X10 hx (hb hby at_124) (by decide) (by decide) (by decide) ?_
    refine own_aload (pc' := 131) X10 hx rfl rfl (hb hby at_129) rfl ?_
    refine own_iconst (pc' := 132) X10 hx (0 : Int32) (by decide) (hb hby at_131) rfl ?_
    obtain ⟨c13, B13, q13, s13, u13, H13, G13⟩ := id Ac10
    have i13 := inb_of s13 (j := (0 : Int32)) (by decide)
    refine own_by (X10.baloadBytes hx (j := (0 : Int32)) (v := (.int b0_10)) (by exact B13.1) (State.isArrayOf_alike hZ.alike B13.2.1) B13.2.2 i13 (H13.at i13 rfl) (g := (mkF m 132 #[.val (.int p1), .val (.int p2), .val (.int (0 : Int32)), .val (.int v8), .val (.ref o10), .unset, .unset, .unset] [(.int (0 : Int32)), (.ref o10)])) rfl rfl (hb hby at_132)) ?_
    show own_Go p e below (Q0 Z p1 p2 h0 n0) (own_Fr s room_1.cells room_1.slots) (T10.setTop (mkF m 133 #[.val (.int p1), .val (.int p2), .val (.int (0 : Int32)), .val (.int v8), .val (.ref o10), .unset, .unset, .unset] [(.int b0_10)]))
    refine own_sipush (pc' := 136) X10 hx (255 : Int32) (by decide) (hb hby at_133) rfl ?_
    obtain ⟨v14, hv14⟩ : ∃ z, b0_10 &&& (255 : Int32) = z := ⟨_, rfl⟩
    have f15 : v14.toInt = b0_10.toInt % 256 := by rw [← hv14]; exact c_mask b0_10 (255 : Int32) 8 (by decide) (by decide)
    refine own_iand (pc' := 137) X10 hx (z := v14) hv14 (hb hby at_136) rfl ?_
    refine own_istore (pc' := 139) X10 hx #[.val (.int p1), .val (.int p2), .val (.int (0 : Int32)), .val (.int v8), .val (.ref o10), .val (.int v14), .unset, .unset] rfl (hb hby at_137) rfl ?_
    refine own_iloadN (pc' := 140) X10 hx rfl (hb hby at_139) rfl ?_
    refine own_sipush (pc' := 143) X10 hx (256 : Int32) (by decide) (hb hby at_140) rfl ?_
    by_cases b16 : v8.toInt = 256
    · refine own_icmpNo (pc' := 146) X10 hx (own_no_ne rfl (by decide) b16) (hb hby at_143) rfl ?_
      refine own_iload (pc' := 148) X10 hx rfl (hb hby at_146) rfl ?_
      have b17 : v14.toInt = 0 := by omega
      refine own_ifNo (pc' := 151) X10 hx (own_z (own_no_ne rfl (by decide) b17)) (hb hby at_148) rfl ?_
      refine own_iconst (pc' := 152) X10 hx (1 : Int32) (by decide) (hb hby at_151) rfl ?_
      refine own_goto (pc' := 170) X10 hx (hb hby at_152) (by decide) (by decide) ?_
      refine own_ret X10 hx Bd.returns Bd.notSynchronized (Or.inl ⟨rfl, by simp, _, rfl⟩) (hb hby at_170) rfl (by decide) (by decide) ?_
      show Q0 Z p1 p2 h0 n0 _ T10.heap _
      exact ⟨rfl, N10a⟩
    · refine own_icmpYes (pc' := 159) X10 hx (hb hby at_143) (own_yes_ne rfl (by decide) b16) (by decide) (by decide) ?_
      refine own_iload (pc' := 161) X10 hx rfl (hb hby at_159) rfl ?_
      refine own_iloadN (pc' := 162) X10 hx rfl (hb hby at_161) rfl ?_
      have b18 : v14.toInt = v8.toInt := by omega
      refine own_icmpNo (pc' := 165) X10 hx (own_no_ne rfl rfl b18) (hb hby at_162) rfl ?_
      refine own_iconst (pc' := 166) X10 hx (1 : Int32) (by decide) (hb hby at_165) rfl ?_
      refine own_goto (pc' := 170) X10 hx (hb hby at_166) (by decide) (by decide) ?_
      refine own_ret X10 hx Bd.returns Bd.notSynchronized (Or.inl ⟨rfl, by simp, _, rfl⟩) (hb hby at_170) rfl (by decide) (by decide) ?_
      show Q0 Z p1 p2 h0 n0 _ T10.heap _
      exact ⟨rfl, N10a⟩
  · refine own_ifNo (pc' := 6) X0 hx (own_z (own_no_eq rfl (by decide) b3)) (hb hby at_3) rfl ?_
    refine own_iconst (pc' := 7) X0 hx (1 : Int32) (by decide) (hb hby at_6) rfl ?_
    refine own_goto (pc' := 11) X0 hx (hb hby at_7) (by decide) (by decide) ?_
    refine own_istoreN (pc' := 12) X0 hx #[.val (.int p1), .val (.int p2), .val (.int (1 : Int32)), .unset, .unset, .unset, .unset, .unset] rfl (hb hby at_11) rfl ?_
    refine own_iloadN (pc' := 13) X0 hx rfl (hb hby at_12) rfl ?_
    refine own_ifNo (pc' := 16) X0 hx (by decide) (hb hby at_13) rfl ?_
    refine own_iloadN (pc' := 17) X0 hx rfl (hb hby at_16) rfl ?_
    refine own_ldcInt (pc' := 19) X0 hx hZ hown (hw _ (List.mem_of_getElem? (i := 0) rfl)) (hb hby at_17) rfl ?_
    obtain ⟨v19, hv19⟩ : ∃ z, p1 &&& (2147483647 : Int32) = z := ⟨_, rfl⟩
    have f20 : v19.toInt = p1.toInt % 2147483648 := by rw [← hv19]; exact c_mask p1 (2147483647 : Int32) 31 (by decide) (by decide)
    refine own_iand (pc' := 20) X0 hx (z := v19) hv19 (hb hby at_19) rfl ?_
    refine own_ldcInt (pc' := 22) X0 hx hZ hown (hw _ (List.mem_of_getElem? (i := 1) rfl)) (hb hby at_20) rfl ?_
    obtain ⟨v21, hv21⟩ : ∃ z, v19 % (65536 : Int32) = z := ⟨_, rfl⟩
    have f22 : v21.toInt = v19.toInt % 65536 := by rw [← hv21]; exact (c_irem v19 (65536 : Int32) 65536 (by decide)).1 (by omega)
    refine own_irem (pc' := 23) X0 hx (z := v21) (by decide) hv21 (hb hby at_22) rfl ?_
    refine own_iconst (pc' := 24) X0 hx (1 : Int32) (by decide) (hb hby at_23) rfl ?_
    obtain ⟨v23, hv23⟩ : ∃ z, v21 + (1 : Int32) = z := ⟨_, rfl⟩
    have f24 : (v23.toInt - (v21.toInt + 1)) % 4294967296 = 0 := by rw [← hv23]; exact c_iadd v21 (1 : Int32)
    have rv23 := rng32 v23
    replace f24 : v23.toInt = v21.toInt + 1 := by omega
    refine own_iadd (pc' := 25) X0 hx (z := v23) hv23 (hb hby at_24) rfl ?_
    refine own_goto (pc' := 38) X0 hx (hb hby at_25) (by decide) (by decide) ?_
    refine own_istoreN (pc' := 39) X0 hx #[.val (.int p1), .val (.int p2), .val (.int (1 : Int32)), .val (.int v23), .unset, .unset, .unset, .unset] rfl (hb hby at_38) rfl ?_
    refine own_iloadN (pc' := 40) X0 hx rfl (hb hby at_39) rfl ?_
    refine own_iloadN (pc' := 41) X0 hx rfl (hb hby at_40) rfl ?_
    obtain ⟨_, _, ⟨T25, L25, k25, n25⟩, -, X25, ⟨Lc25, hQ25, l25, y25, z25⟩, st25⟩ := Jvm.LawKit.callS X0 hx (y := (⟨"com/example/handclasp/handclasp/Apdu", "le", "(IZ)[B"⟩ : MethodName)) hown (mvT hZ (hw _ (List.mem_of_getElem? (i := 2) rfl))) (mvT hZ (hw _ (List.mem_of_getElem? (i := 3) rfl))) (mvT hZ (hw _ (List.mem_of_getElem? (i := 4) rfl))) (mvT hZ (hw _ (List.mem_of_getElem? (i := 5) rfl))) (by decide) (backOf (W := 0) (rm1 l Z a0 hw [] v23 h0 n0 Z0 (by omega)) hZ (hw _ (List.mem_of_getElem? (i := 5) rfl)) (hw _ (List.mem_of_getElem? (i := 4) rfl)) (by decide) (by decide)) (g := (mkF m 41 #[.val (.int p1), .val (.int p2), .val (.int (1 : Int32)), .val (.int v23), .unset, .unset, .unset, .unset] [(.int (1 : Int32)), (.int v23)])) rfl (by rw [hml]; rfl) (argsL := [(.int v23), (.int (1 : Int32))]) (rest := []) (lenOf pd_0 rfl) rfl (by show 2 * 0 + _ ≤ _; exact Nat.le_of_eq rfl) (hb hby at_41) (fun _ _ => ⟨rfl, e0, (by decide : 0 + 1 ≤ _), (by decide : 0 + 2 ≤ _)⟩)
    dsimp only [Pt.U, Pt.locs, Pt.cells, Pt.slots] at X25 l25 y25 z25 st25 hQ25
    subst l25 y25 z25
    obtain ⟨o25, kc_25, b0_25, b1_25, rfl, p25, N25, Kc25, gc25, Ac25⟩ := hQ25
    have fro25 : n0 ≤ o25 := Nat.le_trans Z0 gc25
    have Z26 : n0 ≤ T25.heap.size := Nat.le_trans Z0 Kc25.1
    have rb0_25 := rng32 b0_25
    have rb1_25 := rng32 b1_25
    have N25a := Fr.app N0 N25
    refine own_by st25 ?_
    show own_Go p e below (Q0 Z p1 p2 h0 n0) (own_Fr s room_1.cells room_1.slots) (T25.setTop (mkF m 44 #[.val (.int p1), .val (.int p2), .val (.int (1 : Int32)), .val (.int v23), .unset, .unset, .unset, .unset] [(.ref o25)]))
    refine own_astore (pc' := 46) X25 hx #[.val (.int p1), .val (.int p2), .val (.int (1 : Int32)), .val (.int v23), .val (.ref o25), .unset, .unset, .unset] rfl rfl (hb hby at_44) rfl ?_
    refine own_iloadN (pc' := 47) X25 hx rfl (hb hby at_46) rfl ?_
    refine own_ifNo (pc' := 50) X25 hx (by decide) (hb hby at_47) rfl ?_
    refine own_aload (pc' := 52) X25 hx rfl rfl (hb hby at_50) rfl ?_
    obtain ⟨c27, B27, q27, s27, u27, H27, G27⟩ := id Ac25
    refine own_by (X25.arraylength hx (by exact B27.1) (State.isArrayOf_alike hZ.alike B27.2.1) (g := (mkF m 52 #[.val (.int p1), .val (.int p2), .val (.int (1 : Int32)), .val (.int v23), .val (.ref o25), .unset, .unset, .unset] [(.ref o25)])) rfl rfl (hb hby at_52)) ?_
    rw [len_of s27 u27]
    show own_Go p e below (Q0 Z p1 p2 h0 n0) (own_Fr s room_1.cells room_1.slots) (T25.setTop (mkF m 53 #[.val (.int p1), .val (.int p2), .val (.int (1 : Int32)), .val (.int v23), .val (.ref o25), .unset, .unset, .unset] [(.int (2 : Int32))]))
    refine own_iconst (pc' := 54) X25 hx (2 : Int32) (by decide) (hb hby at_53) rfl ?_
    refine own_icmpYes (pc' := 59) X25 hx (hb hby at_54) (by decide) (by decide) (by decide) ?_
    refine own_aload (pc' := 61) X25 hx rfl rfl (hb hby at_59) rfl ?_
    refine own_iconst (pc' := 62) X25 hx (0 : Int32) (by decide) (hb hby at_61) rfl ?_
    obtain ⟨c28, B28, q28, s28, u28, H28, G28⟩ := id Ac25
    have i28 := inb_of s28 (j := (0 : Int32)) (by decide)
    refine own_by (X25.baloadBytes hx (j := (0 : Int32)) (v := (.int b0_25)) (by exact B28.1) (State.isArrayOf_alike hZ.alike B28.2.1) B28.2.2 i28 (H28.at i28 rfl) (g := (mkF m 62 #[.val (.int p1), .val (.int p2), .val (.int (1 : Int32)), .val (.int v23), .val (.ref o25), .unset, .unset, .unset] [(.int (0 : Int32)), (.ref o25)])) rfl rfl (hb hby at_62)) ?_
    show own_Go p e below (Q0 Z p1 p2 h0 n0) (own_Fr s room_1.cells room_1.slots) (T25.setTop (mkF m 63 #[.val (.int p1), .val (.int p2), .val (.int (1 : Int32)), .val (.int v23), .val (.ref o25), .unset, .unset, .unset] [(.int b0_25)]))
    refine own_sipush (pc' := 66) X25 hx (255 : Int32) (by decide) (hb hby at_63) rfl ?_
    obtain ⟨v29, hv29⟩ : ∃ z, b0_25 &&& (255 : Int32) = z := ⟨_, rfl⟩
    have f30 : v29.toInt = b0_25.toInt % 256 := by rw [← hv29]; exact c_mask b0_25 (255 : Int32) 8 (by decide) (by decide)
    refine own_iand (pc' := 67) X25 hx (z := v29) hv29 (hb hby at_66) rfl ?_
    refine own_istore (pc' := 69) X25 hx #[.val (.int p1), .val (.int p2), .val (.int (1 : Int32)), .val (.int v23), .val (.ref o25), .val (.int v29), .unset, .unset] rfl (hb hby at_67) rfl ?_
    refine own_aload (pc' := 71) X25 hx rfl rfl (hb hby at_69) rfl ?_
    refine own_iconst (pc' := 72) X25 hx (1 : Int32) (by decide) (hb hby at_71) rfl ?_
    obtain ⟨c31, B31, q31, s31, u31, H31, G31⟩ := id Ac25
    have i31 := inb_of s31 (j := (1 : Int32)) (by decide)
    refine own_by (X25.baloadBytes hx (j := (1 : Int32)) (v := (.int b1_25)) (by exact B31.1) (State.isArrayOf_alike hZ.alike B31.2.1) B31.2.2 i31 (H31.at i31 rfl) (g := (mkF m 72 #[.val (.int p1), .val (.int p2), .val (.int (1 : Int32)), .val (.int v23), .val (.ref o25), .val (.int v29), .unset, .unset] [(.int (1 : Int32)), (.ref o25)])) rfl rfl (hb hby at_72)) ?_
    show own_Go p e below (Q0 Z p1 p2 h0 n0) (own_Fr s room_1.cells room_1.slots) (T25.setTop (mkF m 73 #[.val (.int p1), .val (.int p2), .val (.int (1 : Int32)), .val (.int v23), .val (.ref o25), .val (.int v29), .unset, .unset] [(.int b1_25)]))
    refine own_sipush (pc' := 76) X25 hx (255 : Int32) (by decide) (hb hby at_73) rfl ?_
    obtain ⟨v32, hv32⟩ : ∃ z, b1_25 &&& (255 : Int32) = z := ⟨_, rfl⟩
    have f33 : v32.toInt = b1_25.toInt % 256 := by rw [← hv32]; exact c_mask b1_25 (255 : Int32) 8 (by decide) (by decide)
    refine own_iand (pc' := 77) X25 hx (z := v32) hv32 (hb hby at_76) rfl ?_
    refine own_istore (pc' := 79) X25 hx #[.val (.int p1), .val (.int p2), .val (.int (1 : Int32)), .val (.int v23), .val (.ref o25), .val (.int v29), .val (.int v32), .unset] rfl (hb hby at_77) rfl ?_
    refine own_iloadN (pc' := 80) X25 hx rfl (hb hby at_79) rfl ?_
    refine own_ldcInt (pc' := 82) X25 hx hZ hown (hw _ (List.mem_of_getElem? (i := 1) rfl)) (hb hby at_80) rfl ?_
    by_cases b34 : v23.toInt = 65536
    · refine own_icmpNo (pc' := 85) X25 hx (own_no_ne rfl (by decide) b34) (hb hby at_82) rfl ?_
      refine own_iconst (pc' := 86) X25 hx (0 : Int32) (by decide) (hb hby at_85) rfl ?_
      refine own_goto (pc' := 90) X25 hx (hb hby at_86) (by decide) (by decide) ?_
      refine own_istore (pc' := 92) X25 hx #[.val (.int p1), .val (.int p2), .val (.int (1 : Int32)), .val (.int v23), .val (.ref o25), .val (.int v29), .val (.int v32), .val (.int (0 : Int32))] rfl (hb hby at_90) rfl ?_
      refine own_iload (pc' := 94) X25 hx rfl (hb hby at_92) rfl ?_
      refine own_iload (pc' := 96) X25 hx rfl (hb hby at_94) rfl ?_
      refine own_sipush (pc' := 99) X25 hx (256 : Int32) (by decide) (hb hby at_96) rfl ?_
      refine own_idiv (pc' := 100) X25 hx (z := (0 : Int32)) (by decide) (by decide) (hb hby at_99) rfl ?_
      have b35 : v29.toInt = 0 := by omega
      refine own_icmpNo (pc' := 103) X25 hx (own_no_ne rfl (by decide) b35) (hb hby at_100) rfl ?_
      refine own_iload (pc' := 105) X25 hx rfl (hb hby at_103) rfl ?_
      refine own_iload (pc' := 107) X25 hx rfl (hb hby at_105) rfl ?_
      refine own_sipush (pc' := 110) X25 hx (256 : Int32) (by decide) (hb hby at_107) rfl ?_
      refine own_irem (pc' := 111) X25 hx (z := (0 : Int32)) (by decide) (by decide) (hb hby at_110) rfl ?_
      have b36 : v32.toInt = 0 := by omega
      refine own_icmpNo (pc' := 114) X25 hx (own_no_ne rfl (by decide) b36) (hb hby at_111) rfl ?_
      refine own_iconst (pc' := 115) X25 hx (1 : Int32) (by decide) (hb hby at_114) rfl ?_
      refine own_goto (pc' := 119) X25 hx (hb hby at_115) (by decide) (by decide) ?_
      refine own_ret X25 hx Bd.returns Bd.notSynchronized (Or.inl ⟨rfl, by simp, _, rfl⟩) (hb hby at_119) rfl (by decide) (by decide) ?_
      show Q0 Z p1 p2 h0 n0 _ T25.heap _
      exact ⟨rfl, N25a⟩
    · refine own_icmpYes (pc' := 89) X25 hx (hb hby at_82) (own_yes_ne rfl (by decide) b34) (by decide) (by decide) ?_
      refine own_iloadN (pc' := 90) X25 hx rfl (hb hby at_89) rfl ?_
      refine own_istore (pc' := 92) X25 hx #[.val (.int p1), .val (.int p2), .val (.int (1 : Int32)), .val (.int v23), .val (.ref o25), .val (.int v29), .val (.int v32), .val (.int v23)] rfl (hb hby at_90) rfl ?_
      refine own_iload (pc' := 94) X25 hx rfl (hb hby at_92) rfl ?_
      refine own_iload (pc' := 96) X25 hx rfl (hb hby at_94) rfl ?_
      refine own_sipush (pc' := 99) X25 hx (256 : Int32) (by decide) (hb hby at_96) rfl ?_
      obtain ⟨v37, hv37⟩ : ∃ z, v23 / (256 : Int32) = z := ⟨_, rfl⟩
      have f38 : v37.toInt = v23.toInt / 256 := by rw [← hv37]; exact (c_idiv v23 (256 : Int32) 256 (by decide) (by decide)).1 (by omega)
      refine own_idiv (pc' := 100) X25 hx (z := v37) (by decide) hv37 (hb hby at_99) rfl ?_
      have b39 : v29.toInt = v37.toInt := by omega
      refine own_icmpNo (pc' := 103) X25 hx (own_no_ne rfl rfl b39) (hb hby at_100) rfl ?_
      refine own_iload (pc' := 105) X25 hx rfl (hb hby at_103) rfl ?_
      refine own_iload (pc' := 107) X25 hx rfl (hb hby at_105) rfl ?_
      refine own_sipush (pc' := 110) X25 hx (256 : Int32) (by decide) (hb hby at_107) rfl ?_
      obtain ⟨v40, hv40⟩ : ∃ z, v23 % (256 : Int32) = z := ⟨_, rfl⟩
      have f41 : v40.toInt = v23.toInt % 256 := by rw [← hv40]; exact (c_irem v23 (256 : Int32) 256 (by decide)).1 (by omega)
      refine own_irem (pc' := 111) X25 hx (z := v40) (by decide) hv40 (hb hby at_110) rfl ?_
      have b42 : v32.toInt = v40.toInt := by omega
      refine own_icmpNo (pc' := 114) X25 hx (own_no_ne rfl rfl b42) (hb hby at_111) rfl ?_
      refine own_iconst (pc' := 115) X25 hx (1 : Int32) (by decide) (hb hby at_114) rfl ?_
      refine own_goto (pc' := 119) X25 hx (hb hby at_115) (by decide) (by decide) ?_
      refine own_ret X25 hx Bd.returns Bd.notSynchronized (Or.inl ⟨rfl, by simp, _, rfl⟩) (hb hby at_119) rfl (by decide) (by decide) ?_
      show Q0 Z p1 p2 h0 n0 _ T25.heap _
      exact ⟨rfl, N25a⟩
set_option maxRecDepth 65536 in
set_option maxHeartbeats 40000000 in
theorem comes_1 {Post : Tables → Env → Array Value → State → Outcome → State → Prop} (hpost : ∀ tb e args s v u, (limb_1_1.after args s (.returned v) u = true ∧ limb_1_2.after args s (.returned v) u = true ∧ True) → FrameEnd s (.returned v) u (Jvm.fieldLocs frame_1_writes args s ++ Jvm.arrayLocs frame_1_arrays args s ++ Jvm.staticLocs frame_1_statics s) 16 128 → Post tb e args s (.returned v) u) :
    ArmFor flags0 classFile x code maxLocals ret World_1 tables_1 room_1 Calls_1 rest_1 Pre_1 Post := by
  intro l hfl _ _ p e ha hc hk s m args below hf hA hF happ hP
  obtain ⟨hcalls, hrest, hpre⟩ := hP
  obtain ⟨-, -, -, hnamed, -, -, -, hat⟩ := (Spec.applies_iff hf).mp happ
  obtain ⟨hg, hn⟩ := and_e (Cond.before_iff.mp (show (Jvm.Cond.and given_1 narrow_1).before args s = true from hpre))
  obtain ⟨g0, gr0⟩ := and_e hg
  obtain ⟨g1, gr1⟩ := and_e gr0
  obtain ⟨w0, w1, rfl⟩ : ∃ w0 w1 : Value, args = #[w0, w1] := by
    have hs : args.size = 2 := by simpa [Cond.value, given_1] using g0
    obtain ⟨L⟩ := args
    match L, hs with
    | [w0, w1], _ => exact ⟨w0, w1, rfl⟩
  have hw := fun d (hd : d ∈ tables_1) => atoms_spec (ws := Jvm.Cond.code x code maxLocals ret :: tables_1) hat d (List.mem_cons_of_mem _ hd)
  obtain ⟨i0, ev0⟩ := is_v g1
  obtain rfl : w0 = (.int i0) := Option.some.inj ev0
  obtain ⟨i1, ev1⟩ := is_v gr1
  obtain rfl : w1 = (.int i1) := Option.some.inj ev1
  obtain ⟨n, o, h1, h2, h3, _, L, rfl, ⟨rfl, N⟩, hq⟩ := rm0 l s _ hw tables_1 i0 i1  s.heap s.heap.size (Nat.le_refl _)  p e ha hc hk s m _ below hf ((Spec.applies_iff_loose hf).mp happ).1 ⟨rfl, State.Warmed39.refl s, rfl⟩ trivial
  refine ⟨n, _, h1, h2, h3, hpost _ _ _ _ _ _ ⟨Cond.after_iff.mpr rfl, Cond.after_iff.mpr (eq_i res_at (Term.int_eval (1)) rfl), trivial⟩ ⟨hq.1, hq.2.1, (hq.2.2.sift fun y hy => Or.inr (N y hy)).mono (by decide) (by decide)⟩⟩
theorem main_1_1 : Claimed_1_1 := comes_1 fun _ _ _ _ _ _ h hF => ⟨h.1, hF⟩
theorem main_1_2 : Claimed_1_2 := comes_1 fun _ _ _ _ _ _ h hF => ⟨h.2.1, hF⟩
end Jvm.Pilot.@@N@@
namespace Jvm.Pilot.@@N@@
open Jvm Jvm.ClassFile Sem Op Lib Jvm.Free Jvm.Stand Jvm.Pilot.@@N@@.Jvm.D
/-! MADE BY PROGRAM (witnessworld.py) out of the Statement's table words and the real class files: 10 classes; the members and pool entries that the words name. The judged class is class 1, her method 1. -/
namespace start1
open Jvm.ClassFile
def u (s : String) : CpInfo := .utf8 (stringToUtf16 s)
/-- a pool by its gaps: so many unusable entries, then the entry; so many at the end -/
def gap : Nat → List CpInfo → List CpInfo
  | 0, r => r
  | n + 1, r => .unusable :: gap n r
def poolList (es : List (Nat × CpInfo)) (last : Nat) : List CpInfo := es.foldr (fun e r => gap e.1 (e.2 :: r)) (gap last [])
def pool (es : List (Nat × CpInfo)) (last : Nat) : Array CpInfo := ⟨poolList es last⟩
def fileOf (pool : Array CpInfo) (this : Nat) (attrs : Array Attribute := #[]) (ms : Array MethodInfo := #[]) (fl : Nat := 33) (sup : Nat := 0) (ifs : Array Nat := #[]) (fds : Array FieldInfo := #[]) : ClassFile where
  minorVersion := 0
  majorVersion := 65
  constantPool := pool
  accessFlags := fl
  thisClass := this
  superClass := sup
  interfaces := ifs
  fields := fds
  methods := ms
  attributes := attrs
def plain (name : String) (sup : Option ClassId) : Class where
  name := name
  kind := .ordinary
  loader := none
  accessFlags := 33
  super := sup
  interfaces := #[]
  cf := none
  fields := #[]
  methods := #[]
  instanceTypes := #[]
  staticTypes := #[]
  resolved := #[]
  callSites := []
  init := .initialized
  statics := none
  mirror := none

def pool0 : Array CpInfo := pool [(5, u "<init>"), (0, u "()V"), (1, .class_ 10), (1, u "java/lang/Object")] 113

def k0m0 : Method := { name := "<init>", desc := "()V", sig := { parameters := [], returnType := none }, accessFlags := 1, code := none }
/-- java/lang/Object -/
def k0 : Class := { plain "java/lang/Object" none with
  accessFlags := 33
  interfaces := #[]
  cf := some (fileOf pool0 8 #[] #[{ accessFlags := 1, nameIndex := 5, descriptorIndex := 6, attributes := #[] }] 33 0 #[] #[])
  fields := #[]
  methods := #[k0m0]
  instanceTypes := #[]
  staticTypes := #[]
  resolved := Array.replicate 124 none
  statics := none }

def pool1 : Array CpInfo := pool [(2, .class_ 4), (1, u "java/lang/Object"), (0, u "<init>"), (0, u "()V"), (0, .integer 2147483647), (0, .integer 65536), (0, .methodref 10 11), (0, .class_ 12), (0, .nameAndType 13 14), (0, u "com/example/handclasp/handclasp/Apdu"), (0, u "le"), (0, u "(IZ)[B"), (0, .class_ 16), (0, u "com/example/handclasp/handclasp/ApduLePinLaw"), (2, u "law"), (0, u "(II)Z")] 5

def k1m0 : Method := { name := "<init>", desc := "()V", sig := { parameters := [], returnType := none }, accessFlags := 1, code := none }
def k1c1 : Code := { maxStack := 3, maxLocals := 8, code := code, exceptionTable := #[], attributes := #[] }
def k1m1 : Method := { name := "law", desc := "(II)Z", sig := { parameters := [.int, .int], returnType := some .boolean }, accessFlags := 9, code := some k1c1 }
/-- com/example/handclasp/handclasp/ApduLePinLaw -/
def k1 : Class := { plain "com/example/handclasp/handclasp/ApduLePinLaw" (some 0) with
  accessFlags := 49
  interfaces := #[]
  cf := some (fileOf pool1 15 #[] #[{ accessFlags := 1, nameIndex := 5, descriptorIndex := 6, attributes := #[] }, { accessFlags := 9, nameIndex := 19, descriptorIndex := 20, attributes := #[] }] 49 2 #[] #[])
  fields := #[]
  methods := #[k1m0, k1m1]
  instanceTypes := #[]
  staticTypes := #[]
  resolved := Array.replicate 26 none
  statics := none }

def pool2 : Array CpInfo := pool [(2, .class_ 4), (1, u "java/lang/Object"), (0, u "<init>"), (0, u "()V"), (0, .class_ 8), (0, u "java/lang/Record")] 13

def k2m0 : Method := { name := "<init>", desc := "()V", sig := { parameters := [], returnType := none }, accessFlags := 4, code := none }
/-- java/lang/Record -/
def k2 : Class := { plain "java/lang/Record" (some 0) with
  accessFlags := 1057
  interfaces := #[]
  cf := some (fileOf pool2 7 #[] #[{ accessFlags := 4, nameIndex := 5, descriptorIndex := 6, attributes := #[] }] 1057 2 #[] #[])
  fields := #[]
  methods := #[k2m0]
  instanceTypes := #[]
  staticTypes := #[]
  resolved := Array.replicate 22 none
  statics := none }

def pool3 : Array CpInfo := pool [(2, .class_ 4), (1, u "java/lang/Record"), (11, .class_ 17), (0, u "com/example/handclasp/handclasp/Apdu"), (1, .integer 65536), (4, u "cla"), (0, u "I"), (2, u "ins"), (2, u "p1"), (2, u "p2"), (2, u "data"), (0, u "[B"), (2, u "ne"), (55, u "le"), (0, u "(IZ)[B"), (25, u "HEADER_LENGTH"), (2, u "SHORT_DATA"), (1, u "SHORT_NE"), (1, u "EXTENDED_DATA"), (0, u "EXTENDED_NE"), (22, .class_ 156), (0, u "com/example/handclasp/handclasp/Apdu$Response")] 48

def k3c0 : Code := { maxStack := 5, maxLocals := 3, code := prog_3_method_8_code, exceptionTable := #[], attributes := #[] }
def k3m0 : Method := { name := "le", desc := "(IZ)[B", sig := { parameters := [.int, .boolean], returnType := some (.array .byte) }, accessFlags := 8, code := some k3c0 }
/-- com/example/handclasp/handclasp/Apdu -/
def k3 : Class := { plain "com/example/handclasp/handclasp/Apdu" (some 2) with
  accessFlags := 48
  interfaces := #[]
  cf := some (fileOf pool3 16 #[.nestMembers #[155]] #[{ accessFlags := 8, nameIndex := 97, descriptorIndex := 98, attributes := #[] }] 48 2 #[] #[{ accessFlags := 18, nameIndex := 24, descriptorIndex := 25, attributes := #[] }, { accessFlags := 18, nameIndex := 28, descriptorIndex := 25, attributes := #[] }, { accessFlags := 18, nameIndex := 31, descriptorIndex := 25, attributes := #[] }, { accessFlags := 18, nameIndex := 34, descriptorIndex := 25, attributes := #[] }, { accessFlags := 18, nameIndex := 37, descriptorIndex := 38, attributes := #[] }, { accessFlags := 18, nameIndex := 41, descriptorIndex := 25, attributes := #[] }, { accessFlags := 24, nameIndex := 124, descriptorIndex := 25, attributes := #[] }, { accessFlags := 26, nameIndex := 127, descriptorIndex := 25, attributes := #[] }, { accessFlags := 26, nameIndex := 129, descriptorIndex := 25, attributes := #[] }, { accessFlags := 26, nameIndex := 131, descriptorIndex := 25, attributes := #[] }, { accessFlags := 26, nameIndex := 132, descriptorIndex := 25, attributes := #[] }])
  fields := #[{ name := "cla", type := .int, accessFlags := 18, slot := 0, constantValue := 0 }, { name := "ins", type := .int, accessFlags := 18, slot := 1, constantValue := 0 }, { name := "p1", type := .int, accessFlags := 18, slot := 2, constantValue := 0 }, { name := "p2", type := .int, accessFlags := 18, slot := 3, constantValue := 0 }, { name := "data", type := (.array .byte), accessFlags := 18, slot := 4, constantValue := 0 }, { name := "ne", type := .int, accessFlags := 18, slot := 5, constantValue := 0 }, { name := "HEADER_LENGTH", type := .int, accessFlags := 24, slot := 0, constantValue := 0 }, { name := "SHORT_DATA", type := .int, accessFlags := 26, slot := 1, constantValue := 0 }, { name := "SHORT_NE", type := .int, accessFlags := 26, slot := 2, constantValue := 0 }, { name := "EXTENDED_DATA", type := .int, accessFlags := 26, slot := 3, constantValue := 0 }, { name := "EXTENDED_NE", type := .int, accessFlags := 26, slot := 4, constantValue := 0 }]
  methods := #[k3m0]
  instanceTypes := #[.int, .int, .int, .int, (.array .byte), .int]
  staticTypes := #[.int, .int, .int, .int, .int]
  resolved := Array.replicate 205 none
  statics := none }

def pool4 : Array CpInfo := pool [(1, u "java/lang/Cloneable"), (0, .class_ 1), (0, u "java/lang/Object"), (0, .class_ 3)] 3

/-- java/lang/Cloneable -/
def k4 : Class := { plain "java/lang/Cloneable" (some 0) with
  accessFlags := 1537
  interfaces := #[]
  cf := some (fileOf pool4 2 #[] #[] 1537 4 #[] #[])
  fields := #[]
  methods := #[]
  instanceTypes := #[]
  staticTypes := #[]
  resolved := Array.replicate 8 none
  statics := none }

def pool5 : Array CpInfo := pool [(1, u "java/io/Serializable"), (0, .class_ 1), (0, u "java/lang/Object"), (0, .class_ 3)] 3

/-- java/io/Serializable -/
def k5 : Class := { plain "java/io/Serializable" (some 0) with
  accessFlags := 1537
  interfaces := #[]
  cf := some (fileOf pool5 2 #[] #[] 1537 4 #[] #[])
  fields := #[]
  methods := #[]
  instanceTypes := #[]
  staticTypes := #[]
  resolved := Array.replicate 8 none
  statics := none }

/-- the primitive byte -/
def k6 : Class := { plain "byte" none with kind := .primitive 'B', accessFlags := 0x411 }
/-- [B -/
def k7 : Class := { plain "[B" (some 0) with kind := .array 6 .byte, interfaces := #[4, 5], accessFlags := 1041 }

/-- the primitive int -/
def k8 : Class := { plain "int" none with kind := .primitive 'I', accessFlags := 0x411 }
/-- [I -/
def k9 : Class := { plain "[I" (some 0) with kind := .array 8 .int, interfaces := #[4, 5], accessFlags := 1041 }

def heap : Heap := #[]
def classes : Array Class := #[k0, k1, k2, k3, k4, k5, k6, k7, k8, k9]
def interned : List (Array UInt16 × Addr) := []
def slotsUsed : Nat := 0
def theMethod : MethodId := ⟨1, 1⟩
def args0 : Array Value := #[.int 5, .int 3]
def aboutOver (below : List Frame) : State where
  vm := { classes := classes, interned := interned.toArray }
  heap := heap
  slotsUsed := slotsUsed
  threads := #[{ frames := .invoking theMethod args0 :: below }]
def below0 : List Frame := [.native { method := ⟨0, 0⟩, args := #[] }]
def about1 : State := aboutOver below0
def p0 : Program := .bare "" "" ""
def e0 : Env := launch0.env 0 0 0
theorem w_frames : about1.frames = Frame.invoking theMethod args0 :: below0 := rfl
set_option maxRecDepth 65536 in
theorem w_args : argsFit about1.vm theMethod args0 = true := by decide +kernel
set_option maxRecDepth 65536 in
theorem w_heap : heapFits about1 = true := by decide +kernel
set_option maxRecDepth 65536 in
theorem w_runnable : about1.curStatus? = some .runnable := by decide +kernel
set_option maxRecDepth 65536 in
theorem w_alone : about1.alone = true := by decide +kernel
set_option maxRecDepth 65536 in
theorem w_named : about1.methodNamed? x = some theMethod := by decide +kernel
set_option maxRecDepth 65536 in
theorem w_hears : about1.hears theMethod below0 = true := by decide +kernel
set_option maxRecDepth 65536 in
theorem w_ripe : about1.ripe theMethod args0 below0 = true := by decide +kernel
theorem w_running : about1.status = .running := rfl
set_option maxRecDepth 65536 in
theorem w_room : about1.hasRoom e0.platform room_1 = true :=
  launch0.hasRoom_least _ room_1 (by decide +kernel) (by decide +kernel) (by decide +kernel) (by decide +kernel) (by decide +kernel) (by decide +kernel)
theorem allAtoms_all (ts : List Jvm.Cond) (a : Array Jvm.Value) (st : Jvm.State) : (allAtoms ts).before a st = ts.all (fun c => c.before a st) := by
  induction ts with
  | nil => rfl
  | cons c t ih =>
    show (Jvm.Cond.and c (allAtoms t)).before a st = _
    rw [Jvm.Cond.before_and, ih, List.all_cons]
def words1 : List Jvm.Cond := Jvm.Cond.code x code maxLocals ret :: tables_1
/-- a 'code' word, met by the world's own term for the bytes: nothing is compared byte by byte -/
theorem code_word {y : MethodName} {bytes : ByteArray} {mx : Nat} {rt : Option FieldType} {a : Array Value} {s : State} {m : MethodId} {meth : Method} {c : Code} (h1 : s.methodNamed? y = some m) (h2 : s.vm.method? m = some meth) (h3 : meth.code = some c) (h4 : c.code = bytes)
    (h5 : (c.maxLocals == mx && c.exceptionTable.isEmpty && decide (c.maxStack ≤ mostOperands) && decide (meth.sig.returnType = rt) && !meth.locks && decide (parseMethodDescriptor y.desc = some meth.sig)) = true) : (Jvm.Cond.code y bytes mx rt).before a s = true := by
  simp only [Bool.and_eq_true, beq_iff_eq, Bool.not_eq_true', decide_eq_true_eq] at h5
  obtain ⟨⟨⟨⟨⟨g1, g2⟩, g3⟩, g4⟩, g5⟩, g6⟩ := h5
  simp [Cond.before, Cond.holds, Cond.value, h1, h2, h3, h4, g1, g2, g3, g4, g5, g6]
def isCode : Jvm.Cond → Bool
  | .code _ _ _ _ => true
  | _ => false
theorem all_split {L : List Jvm.Cond} {P : Jvm.Cond → Bool} (h1 : L.all (fun c => isCode c || P c) = true) (h2 : ∀ c ∈ L.filter isCode, P c = true) : L.all P = true := by
  refine List.all_eq_true.mpr fun c hc => ?_
  have h := List.all_eq_true.mp h1 c hc
  rcases Bool.eq_false_or_eq_true (isCode c) with hi | hi
  · exact h2 c (List.mem_filter.mpr ⟨hc, hi⟩)
  · simpa [hi] using h
set_option maxRecDepth 65536 in
theorem w_c0 : (Jvm.Cond.code x code maxLocals ret).before args0 about1 = true := code_word (m := ⟨1, 1⟩) (meth := k1m1) (c := k1c1) (by decide +kernel) rfl rfl rfl (by decide +kernel)
set_option maxRecDepth 65536 in
theorem w_c1 : (Jvm.Cond.code ({ cls := "com/example/handclasp/handclasp/Apdu", name := "le", desc := "(IZ)[B" } : Jvm.MethodName) prog_3_method_8_code (3 : Nat) (Option.some (Jvm.ClassFile.FieldType.array Jvm.ClassFile.FieldType.byte))).before args0 about1 = true := code_word (m := ⟨3, 0⟩) (meth := k3m0) (c := k3c0) (by decide +kernel) rfl rfl rfl (by decide +kernel)
def codes1 : List Jvm.Cond := [Jvm.Cond.code x code maxLocals ret, Jvm.Cond.code ({ cls := "com/example/handclasp/handclasp/Apdu", name := "le", desc := "(IZ)[B" } : Jvm.MethodName) prog_3_method_8_code (3 : Nat) (Option.some (Jvm.ClassFile.FieldType.array Jvm.ClassFile.FieldType.byte))]
set_option maxRecDepth 65536 in
theorem codes_eq : words1.filter isCode = codes1 := rfl
theorem w_codes : ∀ c ∈ words1.filter isCode, c.before args0 about1 = true := by
  rw [codes_eq]
  intro c hc
  simp only [codes1, List.mem_cons, List.not_mem_nil, or_false] at hc
  rcases hc with rfl | rfl
  · exact w_c0
  · exact w_c1
set_option maxRecDepth 65536 in
theorem w_t1 : words1.all (fun c => isCode c || c.before args0 about1) = true := by decide +kernel
theorem w_tables : (allAtoms (Jvm.Cond.code x code maxLocals ret :: tables_1)).before args0 about1 = true := by
  rw [allAtoms_all]
  show words1.all (fun c => c.before args0 about1) = true
  refine all_split ?_ w_codes
  rw [w_t1]
set_option maxRecDepth 65536 in
theorem w_case : (Jvm.Cond.and given_1 narrow_1).before args0 about1 = true := by decide +kernel
theorem w_applies : (headSpec (Jvm.Cond.code x code maxLocals ret :: tables_1) room_1).applies x e0.platform about1 = true :=
  (Spec.applies_iff w_frames).mpr ⟨w_running, w_runnable, w_alone, w_named, w_hears, w_ripe, w_room, w_tables⟩
theorem atStart : AtStart classFile x code maxLocals ret World_1 tables_1 room_1 Calls_1 rest_1 Pre_1 launch0 p0 e0 about1 theMethod args0 below0 :=
  ⟨lists_1, trivial, launch0.admits_env _ _ _, launch0.least_env, fairChoices_fair.cas, fairChoices_fair.clock, w_frames, w_args, w_heap, w_applies, trivial, trivial, w_case⟩
end start1
theorem witness_1 : WitnessClaimed_1 := ⟨start1.p0, start1.e0, start1.about1, start1.theMethod, start1.args0, start1.below0, start1.atStart⟩
end Jvm.Pilot.@@N@@
