import JvmDerived
import JvmDerived.Pilot.@@N@@Statement
import JvmDerived.Pilot.@@N@@Code
set_option linter.unusedVariables false
set_option linter.unusedSimpArgs false
namespace Jvm.Pilot.@@N@@
open Jvm Jvm.ClassFile Sem Op Lib Jvm.Free Jvm.Stand Jvm.LawKit Jvm.RoadKit Bundle Jvm.Pilot.@@N@@.Jvm.D
section OwnKit
variable {p : Program} {l : Launch} {e : Env} {R : Room} {s : State} {m : MethodId} {args : Array Value} {below : List Frame} {meth : Method} {c : Code} {T : State} {locs : List Loc} {cells slots : Nat}
/-- from U the walk comes to its end, and there Q holds -/
def own_Go (p : Program) (e : Env) (below : List Frame) (Q : Option Value → Heap → List Loc → Prop) (F : List Loc → Outcome → State → Prop) (U : State) : Prop :=
  ∃ t o, Steps p.tables e below U t ∧ t.status = .running ∧ Ended t below o ∧ ∃ v L, o = .returned v ∧ Q v t.heap L ∧ F L o t
def own_Fr (s : State) (C S : Nat) (L : List Loc) (o : Outcome) (t : State) : Prop := FrameEnd s o t L C S
def own_FrW (s : State) (C S : Nat) (L : List Loc) (o : Outcome) (t : State) : Prop := ReturnedEndW s o t L C S
variable {Q : Option Value → Heap → List Loc → Prop} {F : List Loc → Outcome → State → Prop} {C S : Nat}
theorem own_by {U U' : State} (k : ∀ t, Steps p.tables e below U' t → Steps p.tables e below U t) (h : own_Go p e below Q F U') : own_Go p e below Q F U := by
  obtain ⟨t, o, h1, h2⟩ := h
  exact ⟨t, o, k t h1, h2⟩
theorem own_via {U U' : State} (k : Steps p.tables e below U U') (h : own_Go p e below Q F U') : own_Go p e below Q F U := own_by (fun _ q => k.trans q) h
theorem own_ret (X : Stand p l e R s m args below meth c T locs cells slots) (hx : p.tables.exec = Jvm.exec) {pc : Nat} {Ls : Array Slot} {w : Value} {t : FieldType} {i : Instr} {rest : List Value} (hret : meth.sig.returnType = some t) (hlocks : meth.locks = false)
    (hi : (i = .ireturn ∧ (t = .int ∨ t = .boolean ∨ t = .byte ∨ t = .char ∨ t = .short) ∧ ∃ z, w = .int z) ∨ (i = .lreturn ∧ t = .long ∧ ∃ z, w = .long z) ∨ (i = .dreturn ∧ t = .double ∧ ∃ z, w = .double z) ∨ (i = .freturn ∧ t = .float ∧ ∃ z, w = .float z) ∨ (i = .areturn ∧ t.isReference = true ∧ w.isRef = true))
    (hd : decode c.code pc = .ok (i, 1)) (hn : narrow t w = w) (hc : cells ≤ C) (hs : slots ≤ S) (hQ : Q (some w) T.heap locs) : own_Go p e below Q (own_Fr s C S) (T.setTop (mkF m pc Ls (w :: rest))) := by
  obtain ⟨fs, hr, hrun, hended, hW, hsame⟩ := X.leave (v := some w) (fun h => by rw [hret] at h; cases h) hlocks
  exact ⟨_, _, retOut X hx hret hn hi hd hr, hrun, hended, _, _, rfl, hQ, ⟨_, rfl⟩, hW, hsame.mono hc hs⟩
theorem own_ret0 (X : Stand p l e R s m args below meth c T locs cells slots) (hx : p.tables.exec = Jvm.exec) {pc : Nat} {Ls : Array Slot} {st : List Value} (hret : meth.sig.returnType = none) (hlocks : meth.locks = false)
    (hd : decode c.code pc = .ok (.return_, 1)) (hst : st = []) (hc : cells ≤ C) (hs : slots ≤ S) (hQ : Q none T.heap locs) : own_Go p e below Q (own_Fr s C S) (T.setTop (mkF m pc Ls st)) := by
  subst hst
  obtain ⟨fs, hr, hrun, hended, hW, hsame⟩ := X.leave (v := none) (fun _ => rfl) hlocks
  exact ⟨_, _, X.returnOut hx hret hd hr, hrun, hended, _, _, rfl, hQ, ⟨_, rfl⟩, hW, hsame.mono hc hs⟩
theorem own_retW {s : State} {vm₁ : Vm} {nn : Nat} (X : Stand p l e R (s.setVm vm₁) m args below meth c T locs cells slots) (hx : p.tables.exec = Jvm.exec) {pc : Nat} {Ls : Array Slot} {w : Value} {t : FieldType} {i : Instr} {rest : List Value} (hret : meth.sig.returnType = some t) (hlocks : meth.locks = false) (hS : s.Since vm₁ nn) (hk : nn ≤ T.heap.size)
    (hi : (i = .ireturn ∧ (t = .int ∨ t = .boolean ∨ t = .byte ∨ t = .char ∨ t = .short) ∧ ∃ z, w = .int z) ∨ (i = .lreturn ∧ t = .long ∧ ∃ z, w = .long z) ∨ (i = .dreturn ∧ t = .double ∧ ∃ z, w = .double z) ∨ (i = .freturn ∧ t = .float ∧ ∃ z, w = .float z) ∨ (i = .areturn ∧ t.isReference = true ∧ w.isRef = true))
    (hd : decode c.code pc = .ok (i, 1)) (hn : narrow t w = w) (hc : cells ≤ C) (hs : slots ≤ S) (hQ : Q (some w) T.heap locs) : own_Go p e below Q (own_FrW s C S) (T.setTop (mkF m pc Ls (w :: rest))) := by
  obtain ⟨fs, hr, hrun, hended, hW⟩ := X.leaveW hS hk (v := some w) (fun h => by rw [hret] at h; cases h) hlocks
  exact ⟨_, _, retOut X hx hret hn hi hd hr, hrun, hended, _, _, rfl, hQ, hW.1, hW.2.1, hW.2.2.1, hW.2.2.2.mono hc hs⟩
theorem own_nz {z : Int32} (h : z.toInt = 0 ∨ z.toInt = 1) : narrow .boolean (.int z) = .int z := by
  rcases h with h | h
  · obtain rfl : z = 0 := Int32.toInt_inj.mp h
    rfl
  · obtain rfl : z = 1 := Int32.toInt_inj.mp h
    rfl
theorem own_nb {z : Int32} (h : -128 ≤ z.toInt ∧ z.toInt < 128) : nar .byte z = z := by
  have q := c_i2b z
  exact Int32.toInt_inj.mp (by show z.toInt8.toInt32.toInt = z.toInt; omega)
theorem own_fb {z : Int32} (h : -128 ≤ z.toInt ∧ z.toInt < 128) : fits .byte (.int z) = true := by
  have q := fits_nar_byte z
  rw [show z.toInt8.toInt32 = z from own_nb h] at q
  exact q
theorem own_b01 {z : Int32} (h : z.toInt = 0 ∨ z.toInt = 1) : z = 0 ∨ z = 1 := h.imp (fun q => Int32.toInt_inj.mp q) (fun q => Int32.toInt_inj.mp q)
theorem own_nbool {z : Int32} (h : z.toInt = 0 ∨ z.toInt = 1) : nar .boolean z = z := by rcases own_b01 h with rfl | rfl <;> decide
theorem own_fbool {z : Int32} (h : z.toInt = 0 ∨ z.toInt = 1) : fits .boolean (.int z) = true := by rcases own_b01 h with rfl | rfl <;> decide
theorem own_lt {x y : Int32} : x.toInt < y.toInt ↔ x < y := Int32.lt_iff_toInt_lt.symm
theorem own_yes_lt {x y : Int32} {a b : Int} (ha : x.toInt = a) (hb : y.toInt = b) (h : a < b) : if_icmp.holds .lt x y = true := by subst ha hb; exact (tlt (own_lt.mp h)).1
theorem own_no_lt {x y : Int32} {a b : Int} (ha : x.toInt = a) (hb : y.toInt = b) (h : ¬ a < b) : if_icmp.holds .lt x y = false := by subst ha hb; exact (flt (fun q => h (own_lt.mpr q))).1
theorem own_yes_ge {x y : Int32} {a b : Int} (ha : x.toInt = a) (hb : y.toInt = b) (h : ¬ a < b) : if_icmp.holds .ge x y = true := by subst ha hb; exact (flt (fun q => h (own_lt.mpr q))).2.1
theorem own_no_ge {x y : Int32} {a b : Int} (ha : x.toInt = a) (hb : y.toInt = b) (h : a < b) : if_icmp.holds .ge x y = false := by subst ha hb; exact (tlt (own_lt.mp h)).2.1
theorem own_yes_gt {x y : Int32} {a b : Int} (ha : x.toInt = a) (hb : y.toInt = b) (h : b < a) : if_icmp.holds .gt x y = true := by subst ha hb; exact (tlt (own_lt.mp h)).2.2.1
theorem own_no_gt {x y : Int32} {a b : Int} (ha : x.toInt = a) (hb : y.toInt = b) (h : ¬ b < a) : if_icmp.holds .gt x y = false := by subst ha hb; exact (flt (fun q => h (own_lt.mpr q))).2.2.1
theorem own_yes_le {x y : Int32} {a b : Int} (ha : x.toInt = a) (hb : y.toInt = b) (h : ¬ b < a) : if_icmp.holds .le x y = true := by subst ha hb; exact (flt (fun q => h (own_lt.mpr q))).2.2.2
theorem own_no_le {x y : Int32} {a b : Int} (ha : x.toInt = a) (hb : y.toInt = b) (h : b < a) : if_icmp.holds .le x y = false := by subst ha hb; exact (tlt (own_lt.mp h)).2.2.2
theorem own_yes_eq {x y : Int32} {a b : Int} (ha : x.toInt = a) (hb : y.toInt = b) (h : a = b) : if_icmp.holds .eq x y = true := by subst ha hb; exact (teq (Int32.toInt_inj.mp h)).1
theorem own_no_eq {x y : Int32} {a b : Int} (ha : x.toInt = a) (hb : y.toInt = b) (h : ¬ a = b) : if_icmp.holds .eq x y = false := by subst ha hb; exact (feq (fun q => h (congrArg Int32.toInt q))).1
theorem own_yes_ne {x y : Int32} {a b : Int} (ha : x.toInt = a) (hb : y.toInt = b) (h : ¬ a = b) : if_icmp.holds .ne x y = true := by subst ha hb; exact (feq (fun q => h (congrArg Int32.toInt q))).2
theorem own_no_ne {x y : Int32} {a b : Int} (ha : x.toInt = a) (hb : y.toInt = b) (h : a = b) : if_icmp.holds .ne x y = false := by subst ha hb; exact (teq (Int32.toInt_inj.mp h)).2
theorem own_z {cd : ClassFile.Cond} {x : Int32} {b : Bool} (h : if_icmp.holds cd x 0 = b) : ifCond.holds cd x = b := (if0 cd x).trans h
theorem own_lcm {x y : Int64} {a b : Int} (ha : x.toInt = a) (hb : y.toInt = b) : (a < b ∧ (lcmpW x y).toInt = -1) ∨ (a = b ∧ (lcmpW x y).toInt = 0) ∨ (b < a ∧ (lcmpW x y).toInt = 1) := by
  subst ha hb
  obtain ⟨h1, h2, h3⟩ := c_lcmp x y
  omega
theorem own_ne0 {x : Int32} {a : Int} (ha : x.toInt = a) (h : ¬ a = 0) : x ≠ 0 := fun q => h (by rw [← ha, q]; rfl)
theorem own_iloadN (X : Stand p l e R s m args below meth c T locs cells slots) (hx : p.tables.exec = Jvm.exec) {pc pc' : Nat} {Ls : Array Slot} {st : List Value} {k : Fin 4} {v : Int32} (hl : Ls[k.val]? = some (.val (.int v))) (hd : decode c.code pc = .ok (.iload_n k, 1)) (hp : pc + 1 = pc') (h : own_Go p e below Q F (T.setTop (mkF m pc' Ls (.int v :: st)))) : own_Go p e below Q F (T.setTop (mkF m pc Ls st)) := by
  subst hp
  exact own_by (fun _ q => XS.iloadN X.here hx rfl hd hl q) h
theorem own_iload (X : Stand p l e R s m args below meth c T locs cells slots) (hx : p.tables.exec = Jvm.exec) {pc pc' : Nat} {Ls : Array Slot} {st : List Value} {k : Nat} {v : Int32} (hl : Ls[k]? = some (.val (.int v))) (hd : decode c.code pc = .ok (.iload k, 2)) (hp : pc + 2 = pc') (h : own_Go p e below Q F (T.setTop (mkF m pc' Ls (.int v :: st)))) : own_Go p e below Q F (T.setTop (mkF m pc Ls st)) := by
  subst hp
  exact own_by (fun _ q => XS.iload X.here hx rfl hd hl q) h
theorem own_lloadN (X : Stand p l e R s m args below meth c T locs cells slots) (hx : p.tables.exec = Jvm.exec) {pc pc' : Nat} {Ls : Array Slot} {st : List Value} {k : Fin 4} {v : Int64} (hl : Ls[k.val]? = some (.val (.long v))) (hd : decode c.code pc = .ok (.lload_n k, 1)) (hp : pc + 1 = pc') (h : own_Go p e below Q F (T.setTop (mkF m pc' Ls (.long v :: st)))) : own_Go p e below Q F (T.setTop (mkF m pc Ls st)) := by
  subst hp
  exact own_by (fun _ q => XS.lloadN X.here hx rfl hd hl q) h
theorem own_lload (X : Stand p l e R s m args below meth c T locs cells slots) (hx : p.tables.exec = Jvm.exec) {pc pc' : Nat} {Ls : Array Slot} {st : List Value} {k : Nat} {v : Int64} (hl : Ls[k]? = some (.val (.long v))) (hd : decode c.code pc = .ok (.lload k, 2)) (hp : pc + 2 = pc') (h : own_Go p e below Q F (T.setTop (mkF m pc' Ls (.long v :: st)))) : own_Go p e below Q F (T.setTop (mkF m pc Ls st)) := by
  subst hp
  exact own_by (fun _ q => XS.lload X.here hx rfl hd hl q) h
theorem own_aloadN (X : Stand p l e R s m args below meth c T locs cells slots) (hx : p.tables.exec = Jvm.exec) {pc pc' : Nat} {Ls : Array Slot} {st : List Value} {k : Fin 4} {v : Value} (hl : Ls[k.val]? = some (.val v)) (hv : v.isRef = true) (hd : decode c.code pc = .ok (.aload_n k, 1)) (hp : pc + 1 = pc') (h : own_Go p e below Q F (T.setTop (mkF m pc' Ls (v :: st)))) : own_Go p e below Q F (T.setTop (mkF m pc Ls st)) := by
  subst hp
  exact own_by (fun _ q => XS.aloadN X.here hx rfl hd hl hv q) h
theorem own_aload (X : Stand p l e R s m args below meth c T locs cells slots) (hx : p.tables.exec = Jvm.exec) {pc pc' : Nat} {Ls : Array Slot} {st : List Value} {k : Nat} {v : Value} (hl : Ls[k]? = some (.val v)) (hv : v.isRef = true) (hd : decode c.code pc = .ok (.aload k, 2)) (hp : pc + 2 = pc') (h : own_Go p e below Q F (T.setTop (mkF m pc' Ls (v :: st)))) : own_Go p e below Q F (T.setTop (mkF m pc Ls st)) := by
  subst hp
  exact own_by (fun _ q => XS.aload X.here hx rfl hd hl hv q) h
theorem own_iconst (X : Stand p l e R s m args below meth c T locs cells slots) (hx : p.tables.exec = Jvm.exec) {pc pc' : Nat} {Ls : Array Slot} {st : List Value} {i : Int} (z : Int32) (hz : Int32.ofInt i = z) (hd : decode c.code pc = .ok (.iconst i, 1)) (hp : pc + 1 = pc') (h : own_Go p e below Q F (T.setTop (mkF m pc' Ls (.int z :: st)))) : own_Go p e below Q F (T.setTop (mkF m pc Ls st)) := by
  subst hp hz
  exact own_by (fun _ q => XS.iconst X.here hx rfl hd q) h
theorem own_bipush (X : Stand p l e R s m args below meth c T locs cells slots) (hx : p.tables.exec = Jvm.exec) {pc pc' : Nat} {Ls : Array Slot} {st : List Value} {i : Int} (z : Int32) (hz : (Int8.ofInt i).toInt32 = z) (hd : decode c.code pc = .ok (.bipush i, 2)) (hp : pc + 2 = pc') (h : own_Go p e below Q F (T.setTop (mkF m pc' Ls (.int z :: st)))) : own_Go p e below Q F (T.setTop (mkF m pc Ls st)) := by
  subst hp hz
  exact own_by (fun _ q => XS.bipush X.here hx rfl hd q) h
theorem own_sipush (X : Stand p l e R s m args below meth c T locs cells slots) (hx : p.tables.exec = Jvm.exec) {pc pc' : Nat} {Ls : Array Slot} {st : List Value} {i : Int} (z : Int32) (hz : (Int16.ofInt i).toInt32 = z) (hd : decode c.code pc = .ok (.sipush i, 3)) (hp : pc + 3 = pc') (h : own_Go p e below Q F (T.setTop (mkF m pc' Ls (.int z :: st)))) : own_Go p e below Q F (T.setTop (mkF m pc Ls st)) := by
  subst hp hz
  exact own_by (fun _ q => XS.sipush X.here hx rfl hd q) h
theorem own_lconst (X : Stand p l e R s m args below meth c T locs cells slots) (hx : p.tables.exec = Jvm.exec) {pc pc' : Nat} {Ls : Array Slot} {st : List Value} {k : Fin 2} (z : Int64) (hz : Int64.ofNat k = z) (hd : decode c.code pc = .ok (.lconst k, 1)) (hp : pc + 1 = pc') (h : own_Go p e below Q F (T.setTop (mkF m pc' Ls (.long z :: st)))) : own_Go p e below Q F (T.setTop (mkF m pc Ls st)) := by
  subst hp hz
  exact own_by (fun _ q => XS.lconst X.here hx rfl hd q) h
theorem own_aconstNull (X : Stand p l e R s m args below meth c T locs cells slots) (hx : p.tables.exec = Jvm.exec) {pc pc' : Nat} {Ls : Array Slot} {st : List Value}  (hd : decode c.code pc = .ok (.aconst_null, 1)) (hp : pc + 1 = pc') (h : own_Go p e below Q F (T.setTop (mkF m pc' Ls (.null :: st)))) : own_Go p e below Q F (T.setTop (mkF m pc Ls st)) := by
  subst hp
  exact own_by (fun _ q => XS.aconstNull X.here hx rfl hd q) h
theorem own_iadd (X : Stand p l e R s m args below meth c T locs cells slots) (hx : p.tables.exec = Jvm.exec) {pc pc' : Nat} {Ls : Array Slot} {st : List Value} {x y z : Int32} (hz : x + y = z) (hd : decode c.code pc = .ok (.iadd, 1)) (hp : pc + 1 = pc') (h : own_Go p e below Q F (T.setTop (mkF m pc' Ls (.int z :: st)))) : own_Go p e below Q F (T.setTop (mkF m pc Ls (.int y :: .int x :: st))) := by
  subst hp hz
  exact own_by (fun _ q => XS.iadd X.here hx rfl hd rfl q) h
theorem own_isub (X : Stand p l e R s m args below meth c T locs cells slots) (hx : p.tables.exec = Jvm.exec) {pc pc' : Nat} {Ls : Array Slot} {st : List Value} {x y z : Int32} (hz : x - y = z) (hd : decode c.code pc = .ok (.isub, 1)) (hp : pc + 1 = pc') (h : own_Go p e below Q F (T.setTop (mkF m pc' Ls (.int z :: st)))) : own_Go p e below Q F (T.setTop (mkF m pc Ls (.int y :: .int x :: st))) := by
  subst hp hz
  exact own_by (fun _ q => XS.isub X.here hx rfl hd rfl q) h
theorem own_imul (X : Stand p l e R s m args below meth c T locs cells slots) (hx : p.tables.exec = Jvm.exec) {pc pc' : Nat} {Ls : Array Slot} {st : List Value} {x y z : Int32} (hz : x * y = z) (hd : decode c.code pc = .ok (.imul, 1)) (hp : pc + 1 = pc') (h : own_Go p e below Q F (T.setTop (mkF m pc' Ls (.int z :: st)))) : own_Go p e below Q F (T.setTop (mkF m pc Ls (.int y :: .int x :: st))) := by
  subst hp hz
  exact own_by (fun _ q => XS.imul X.here hx rfl hd rfl q) h
theorem own_iand (X : Stand p l e R s m args below meth c T locs cells slots) (hx : p.tables.exec = Jvm.exec) {pc pc' : Nat} {Ls : Array Slot} {st : List Value} {x y z : Int32} (hz : x &&& y = z) (hd : decode c.code pc = .ok (.iand, 1)) (hp : pc + 1 = pc') (h : own_Go p e below Q F (T.setTop (mkF m pc' Ls (.int z :: st)))) : own_Go p e below Q F (T.setTop (mkF m pc Ls (.int y :: .int x :: st))) := by
  subst hp hz
  exact own_by (fun _ q => XS.iand X.here hx rfl hd rfl q) h
theorem own_ior (X : Stand p l e R s m args below meth c T locs cells slots) (hx : p.tables.exec = Jvm.exec) {pc pc' : Nat} {Ls : Array Slot} {st : List Value} {x y z : Int32} (hz : x ||| y = z) (hd : decode c.code pc = .ok (.ior, 1)) (hp : pc + 1 = pc') (h : own_Go p e below Q F (T.setTop (mkF m pc' Ls (.int z :: st)))) : own_Go p e below Q F (T.setTop (mkF m pc Ls (.int y :: .int x :: st))) := by
  subst hp hz
  exact own_by (fun _ q => XS.ior X.here hx rfl hd rfl q) h
theorem own_ixor (X : Stand p l e R s m args below meth c T locs cells slots) (hx : p.tables.exec = Jvm.exec) {pc pc' : Nat} {Ls : Array Slot} {st : List Value} {x y z : Int32} (hz : x ^^^ y = z) (hd : decode c.code pc = .ok (.ixor, 1)) (hp : pc + 1 = pc') (h : own_Go p e below Q F (T.setTop (mkF m pc' Ls (.int z :: st)))) : own_Go p e below Q F (T.setTop (mkF m pc Ls (.int y :: .int x :: st))) := by
  subst hp hz
  exact own_by (fun _ q => XS.ixor X.here hx rfl hd rfl q) h
theorem own_ishl (X : Stand p l e R s m args below meth c T locs cells slots) (hx : p.tables.exec = Jvm.exec) {pc pc' : Nat} {Ls : Array Slot} {st : List Value} {x y z : Int32} (hz : x <<< (y &&& 31) = z) (hd : decode c.code pc = .ok (.ishl, 1)) (hp : pc + 1 = pc') (h : own_Go p e below Q F (T.setTop (mkF m pc' Ls (.int z :: st)))) : own_Go p e below Q F (T.setTop (mkF m pc Ls (.int y :: .int x :: st))) := by
  subst hp hz
  exact own_by (fun _ q => XS.ishl X.here hx rfl hd rfl q) h
theorem own_ishr (X : Stand p l e R s m args below meth c T locs cells slots) (hx : p.tables.exec = Jvm.exec) {pc pc' : Nat} {Ls : Array Slot} {st : List Value} {x y z : Int32} (hz : x >>> (y &&& 31) = z) (hd : decode c.code pc = .ok (.ishr, 1)) (hp : pc + 1 = pc') (h : own_Go p e below Q F (T.setTop (mkF m pc' Ls (.int z :: st)))) : own_Go p e below Q F (T.setTop (mkF m pc Ls (.int y :: .int x :: st))) := by
  subst hp hz
  exact own_by (fun _ q => XS.ishr X.here hx rfl hd rfl q) h
theorem own_iushr (X : Stand p l e R s m args below meth c T locs cells slots) (hx : p.tables.exec = Jvm.exec) {pc pc' : Nat} {Ls : Array Slot} {st : List Value} {x y z : Int32} (hz : (x.toUInt32 >>> (y &&& 31).toUInt32).toInt32 = z) (hd : decode c.code pc = .ok (.iushr, 1)) (hp : pc + 1 = pc') (h : own_Go p e below Q F (T.setTop (mkF m pc' Ls (.int z :: st)))) : own_Go p e below Q F (T.setTop (mkF m pc Ls (.int y :: .int x :: st))) := by
  subst hp hz
  exact own_by (fun _ q => XS.iushr X.here hx rfl hd rfl q) h
theorem own_idiv (X : Stand p l e R s m args below meth c T locs cells slots) (hx : p.tables.exec = Jvm.exec) {pc pc' : Nat} {Ls : Array Slot} {st : List Value} {x y z : Int32} (hy : y ≠ 0) (hz : x / y = z) (hd : decode c.code pc = .ok (.idiv, 1)) (hp : pc + 1 = pc') (h : own_Go p e below Q F (T.setTop (mkF m pc' Ls (.int z :: st)))) : own_Go p e below Q F (T.setTop (mkF m pc Ls (.int y :: .int x :: st))) := by
  subst hp hz
  exact own_by (fun _ q => XS.idiv X.here hx rfl hd rfl hy q) h
theorem own_irem (X : Stand p l e R s m args below meth c T locs cells slots) (hx : p.tables.exec = Jvm.exec) {pc pc' : Nat} {Ls : Array Slot} {st : List Value} {x y z : Int32} (hy : y ≠ 0) (hz : x % y = z) (hd : decode c.code pc = .ok (.irem, 1)) (hp : pc + 1 = pc') (h : own_Go p e below Q F (T.setTop (mkF m pc' Ls (.int z :: st)))) : own_Go p e below Q F (T.setTop (mkF m pc Ls (.int y :: .int x :: st))) := by
  subst hp hz
  exact own_by (fun _ q => iremM X hx rfl hd rfl hy q) h
theorem own_ladd (X : Stand p l e R s m args below meth c T locs cells slots) (hx : p.tables.exec = Jvm.exec) {pc pc' : Nat} {Ls : Array Slot} {st : List Value} {x y z : Int64} (hz : x + y = z) (hd : decode c.code pc = .ok (.ladd, 1)) (hp : pc + 1 = pc') (h : own_Go p e below Q F (T.setTop (mkF m pc' Ls (.long z :: st)))) : own_Go p e below Q F (T.setTop (mkF m pc Ls (.long y :: .long x :: st))) := by
  subst hp hz
  exact own_by (fun _ q => XS.ladd X.here hx rfl hd rfl q) h
theorem own_lsub (X : Stand p l e R s m args below meth c T locs cells slots) (hx : p.tables.exec = Jvm.exec) {pc pc' : Nat} {Ls : Array Slot} {st : List Value} {x y z : Int64} (hz : x - y = z) (hd : decode c.code pc = .ok (.lsub, 1)) (hp : pc + 1 = pc') (h : own_Go p e below Q F (T.setTop (mkF m pc' Ls (.long z :: st)))) : own_Go p e below Q F (T.setTop (mkF m pc Ls (.long y :: .long x :: st))) := by
  subst hp hz
  exact own_by (fun _ q => XS.lsub X.here hx rfl hd rfl q) h
theorem own_lmul (X : Stand p l e R s m args below meth c T locs cells slots) (hx : p.tables.exec = Jvm.exec) {pc pc' : Nat} {Ls : Array Slot} {st : List Value} {x y z : Int64} (hz : x * y = z) (hd : decode c.code pc = .ok (.lmul, 1)) (hp : pc + 1 = pc') (h : own_Go p e below Q F (T.setTop (mkF m pc' Ls (.long z :: st)))) : own_Go p e below Q F (T.setTop (mkF m pc Ls (.long y :: .long x :: st))) := by
  subst hp hz
  exact own_by (fun _ q => XS.lmul X.here hx rfl hd rfl q) h
theorem own_land (X : Stand p l e R s m args below meth c T locs cells slots) (hx : p.tables.exec = Jvm.exec) {pc pc' : Nat} {Ls : Array Slot} {st : List Value} {x y z : Int64} (hz : x &&& y = z) (hd : decode c.code pc = .ok (.land, 1)) (hp : pc + 1 = pc') (h : own_Go p e below Q F (T.setTop (mkF m pc' Ls (.long z :: st)))) : own_Go p e below Q F (T.setTop (mkF m pc Ls (.long y :: .long x :: st))) := by
  subst hp hz
  exact own_by (fun _ q => XS.land X.here hx rfl hd rfl q) h
theorem own_lor (X : Stand p l e R s m args below meth c T locs cells slots) (hx : p.tables.exec = Jvm.exec) {pc pc' : Nat} {Ls : Array Slot} {st : List Value} {x y z : Int64} (hz : x ||| y = z) (hd : decode c.code pc = .ok (.lor, 1)) (hp : pc + 1 = pc') (h : own_Go p e below Q F (T.setTop (mkF m pc' Ls (.long z :: st)))) : own_Go p e below Q F (T.setTop (mkF m pc Ls (.long y :: .long x :: st))) := by
  subst hp hz
  exact own_by (fun _ q => XS.lor X.here hx rfl hd rfl q) h
theorem own_lcmp (X : Stand p l e R s m args below meth c T locs cells slots) (hx : p.tables.exec = Jvm.exec) {pc pc' : Nat} {Ls : Array Slot} {st : List Value} {x y : Int64} {z : Int32} (hz : lcmpW x y = z) (hd : decode c.code pc = .ok (.lcmp, 1)) (hp : pc + 1 = pc') (h : own_Go p e below Q F (T.setTop (mkF m pc' Ls (.int z :: st)))) : own_Go p e below Q F (T.setTop (mkF m pc Ls (.long y :: .long x :: st))) := by
  subst hp hz
  exact own_by (fun _ q => XS.lcmp X.here hx rfl hd rfl q) h
theorem own_ineg (X : Stand p l e R s m args below meth c T locs cells slots) (hx : p.tables.exec = Jvm.exec) {pc pc' : Nat} {Ls : Array Slot} {st : List Value} {x z : Int32} (hz : -x = z) (hd : decode c.code pc = .ok (.ineg, 1)) (hp : pc + 1 = pc') (h : own_Go p e below Q F (T.setTop (mkF m pc' Ls (.int z :: st)))) : own_Go p e below Q F (T.setTop (mkF m pc Ls (.int x :: st))) := by
  subst hp hz
  exact own_by (fun _ q => XS.ineg X.here hx rfl hd rfl q) h
theorem own_i2l (X : Stand p l e R s m args below meth c T locs cells slots) (hx : p.tables.exec = Jvm.exec) {pc pc' : Nat} {Ls : Array Slot} {st : List Value} {x : Int32} {z : Int64} (hz : x.toInt64 = z) (hd : decode c.code pc = .ok (.i2l, 1)) (hp : pc + 1 = pc') (h : own_Go p e below Q F (T.setTop (mkF m pc' Ls (.long z :: st)))) : own_Go p e below Q F (T.setTop (mkF m pc Ls (.int x :: st))) := by
  subst hp hz
  exact own_by (fun _ q => XS.i2l X.here hx rfl hd rfl q) h
theorem own_l2i (X : Stand p l e R s m args below meth c T locs cells slots) (hx : p.tables.exec = Jvm.exec) {pc pc' : Nat} {Ls : Array Slot} {st : List Value} {x : Int64} {z : Int32} (hz : x.toInt32 = z) (hd : decode c.code pc = .ok (.l2i, 1)) (hp : pc + 1 = pc') (h : own_Go p e below Q F (T.setTop (mkF m pc' Ls (.int z :: st)))) : own_Go p e below Q F (T.setTop (mkF m pc Ls (.long x :: st))) := by
  subst hp hz
  exact own_by (fun _ q => XS.l2i X.here hx rfl hd rfl q) h
theorem own_i2b (X : Stand p l e R s m args below meth c T locs cells slots) (hx : p.tables.exec = Jvm.exec) {pc pc' : Nat} {Ls : Array Slot} {st : List Value} {x z : Int32} (hz : x.toInt8.toInt32 = z) (hd : decode c.code pc = .ok (.i2b, 1)) (hp : pc + 1 = pc') (h : own_Go p e below Q F (T.setTop (mkF m pc' Ls (.int z :: st)))) : own_Go p e below Q F (T.setTop (mkF m pc Ls (.int x :: st))) := by
  subst hp hz
  exact own_by (fun _ q => XS.i2b X.here hx rfl hd rfl q) h
theorem own_i2c (X : Stand p l e R s m args below meth c T locs cells slots) (hx : p.tables.exec = Jvm.exec) {pc pc' : Nat} {Ls : Array Slot} {st : List Value} {x z : Int32} (hz : x.toUInt32.toUInt16.toUInt32.toInt32 = z) (hd : decode c.code pc = .ok (.i2c, 1)) (hp : pc + 1 = pc') (h : own_Go p e below Q F (T.setTop (mkF m pc' Ls (.int z :: st)))) : own_Go p e below Q F (T.setTop (mkF m pc Ls (.int x :: st))) := by
  subst hp hz
  exact own_by (fun _ q => XS.i2c X.here hx rfl hd rfl q) h
theorem own_i2s (X : Stand p l e R s m args below meth c T locs cells slots) (hx : p.tables.exec = Jvm.exec) {pc pc' : Nat} {Ls : Array Slot} {st : List Value} {x z : Int32} (hz : x.toInt16.toInt32 = z) (hd : decode c.code pc = .ok (.i2s, 1)) (hp : pc + 1 = pc') (h : own_Go p e below Q F (T.setTop (mkF m pc' Ls (.int z :: st)))) : own_Go p e below Q F (T.setTop (mkF m pc Ls (.int x :: st))) := by
  subst hp hz
  exact own_by (fun _ q => XS.i2s X.here hx rfl hd rfl q) h
theorem own_dup (X : Stand p l e R s m args below meth c T locs cells slots) (hx : p.tables.exec = Jvm.exec) {pc pc' : Nat} {Ls : Array Slot} {st : List Value} {x : Value} (hc : x.category = 1) (hd : decode c.code pc = .ok (.dup, 1)) (hp : pc + 1 = pc') (h : own_Go p e below Q F (T.setTop (mkF m pc' Ls (x :: x :: st)))) : own_Go p e below Q F (T.setTop (mkF m pc Ls (x :: st))) := by
  subst hp
  exact own_by (fun _ q => XS.dup X.here hx rfl hd rfl hc q) h
theorem own_dupX1 (X : Stand p l e R s m args below meth c T locs cells slots) (hx : p.tables.exec = Jvm.exec) {pc pc' : Nat} {Ls : Array Slot} {st : List Value} {x y : Value} (hc : x.category = 1) (hc2 : y.category = 1) (hd : decode c.code pc = .ok (.dup_x1, 1)) (hp : pc + 1 = pc') (h : own_Go p e below Q F (T.setTop (mkF m pc' Ls (x :: y :: x :: st)))) : own_Go p e below Q F (T.setTop (mkF m pc Ls (x :: y :: st))) := by
  subst hp
  exact own_by (fun _ q => XS.dupX1 X.here hx rfl hd rfl hc hc2 q) h
theorem own_pop (X : Stand p l e R s m args below meth c T locs cells slots) (hx : p.tables.exec = Jvm.exec) {pc pc' : Nat} {Ls : Array Slot} {st : List Value} {x : Value} (hc : x.category = 1) (hd : decode c.code pc = .ok (.pop, 1)) (hp : pc + 1 = pc') (h : own_Go p e below Q F (T.setTop (mkF m pc' Ls st))) : own_Go p e below Q F (T.setTop (mkF m pc Ls (x :: st))) := by
  subst hp
  exact own_by (fun _ q => XS.pop X.here hx rfl hd rfl hc q) h
theorem own_istoreN (X : Stand p l e R s m args below meth c T locs cells slots) (hx : p.tables.exec = Jvm.exec) {pc pc' : Nat} {Ls : Array Slot} {st : List Value} {k : Fin 4} {x : Int32} (L' : Array Slot) (hl : storeLocals Ls k.val (.int x) = some L') (hd : decode c.code pc = .ok (.istore_n k, 1)) (hp : pc + 1 = pc') (h : own_Go p e below Q F (T.setTop (mkF m pc' L' st))) : own_Go p e below Q F (T.setTop (mkF m pc Ls (.int x :: st))) := by
  subst hp
  exact own_by (fun _ q => XS.istoreN X.here hx rfl hd rfl hl q) h
theorem own_istore (X : Stand p l e R s m args below meth c T locs cells slots) (hx : p.tables.exec = Jvm.exec) {pc pc' : Nat} {Ls : Array Slot} {st : List Value} {k : Nat} {x : Int32} (L' : Array Slot) (hl : storeLocals Ls k (.int x) = some L') (hd : decode c.code pc = .ok (.istore k, 2)) (hp : pc + 2 = pc') (h : own_Go p e below Q F (T.setTop (mkF m pc' L' st))) : own_Go p e below Q F (T.setTop (mkF m pc Ls (.int x :: st))) := by
  subst hp
  exact own_by (fun _ q => XS.istore X.here hx rfl hd rfl hl q) h
theorem own_lstoreN (X : Stand p l e R s m args below meth c T locs cells slots) (hx : p.tables.exec = Jvm.exec) {pc pc' : Nat} {Ls : Array Slot} {st : List Value} {k : Fin 4} {x : Int64} (L' : Array Slot) (hl : storeLocals Ls k.val (.long x) = some L') (hd : decode c.code pc = .ok (.lstore_n k, 1)) (hp : pc + 1 = pc') (h : own_Go p e below Q F (T.setTop (mkF m pc' L' st))) : own_Go p e below Q F (T.setTop (mkF m pc Ls (.long x :: st))) := by
  subst hp
  exact own_by (fun _ q => XS.lstoreN X.here hx rfl hd rfl hl q) h
theorem own_lstore (X : Stand p l e R s m args below meth c T locs cells slots) (hx : p.tables.exec = Jvm.exec) {pc pc' : Nat} {Ls : Array Slot} {st : List Value} {k : Nat} {x : Int64} (L' : Array Slot) (hl : storeLocals Ls k (.long x) = some L') (hd : decode c.code pc = .ok (.lstore k, 2)) (hp : pc + 2 = pc') (h : own_Go p e below Q F (T.setTop (mkF m pc' L' st))) : own_Go p e below Q F (T.setTop (mkF m pc Ls (.long x :: st))) := by
  subst hp
  exact own_by (fun _ q => XS.lstore X.here hx rfl hd rfl hl q) h
theorem own_astoreN (X : Stand p l e R s m args below meth c T locs cells slots) (hx : p.tables.exec = Jvm.exec) {pc pc' : Nat} {Ls : Array Slot} {st : List Value} {k : Fin 4} {x : Value} (L' : Array Slot) (hv : x.isRef = true) (hl : storeLocals Ls k.val x = some L') (hd : decode c.code pc = .ok (.astore_n k, 1)) (hp : pc + 1 = pc') (h : own_Go p e below Q F (T.setTop (mkF m pc' L' st))) : own_Go p e below Q F (T.setTop (mkF m pc Ls (x :: st))) := by
  subst hp
  exact own_by (fun _ q => XS.astoreN X.here hx rfl hd rfl hv hl q) h
theorem own_astore (X : Stand p l e R s m args below meth c T locs cells slots) (hx : p.tables.exec = Jvm.exec) {pc pc' : Nat} {Ls : Array Slot} {st : List Value} {k : Nat} {x : Value} (L' : Array Slot) (hv : x.isRef = true) (hl : storeLocals Ls k x = some L') (hd : decode c.code pc = .ok (.astore k, 2)) (hp : pc + 2 = pc') (h : own_Go p e below Q F (T.setTop (mkF m pc' L' st))) : own_Go p e below Q F (T.setTop (mkF m pc Ls (x :: st))) := by
  subst hp
  exact own_by (fun _ q => XS.astore X.here hx rfl hd rfl hv hl q) h
theorem own_iinc (X : Stand p l e R s m args below meth c T locs cells slots) (hx : p.tables.exec = Jvm.exec) {pc pc' : Nat} {Ls : Array Slot} {st : List Value} {k : Nat} {cst : Int} {x z : Int32} (L' : Array Slot) (hv : Ls[k]? = some (.val (.int x))) (hz : x + Int32.ofInt cst = z) (hl : storeLocals Ls k (.int z) = some L') (hd : decode c.code pc = .ok (.iinc k cst, 3)) (hp : pc + 3 = pc') (h : own_Go p e below Q F (T.setTop (mkF m pc' L' st))) : own_Go p e below Q F (T.setTop (mkF m pc Ls st)) := by
  subst hp hz
  exact own_by (fun _ q => XS.iinc X.here hx rfl hd hv hl q) h
theorem own_goto (X : Stand p l e R s m args below meth c T locs cells slots) (hx : p.tables.exec = Jvm.exec) {pc pc' : Nat} {Ls : Array Slot} {st : List Value} {o : Int}  (hd : decode c.code pc = .ok (.goto o, 3))  (ho : 0 ≤ (pc : Int) + o) (hp : ((pc : Int) + o).toNat = pc') (h : own_Go p e below Q F (T.setTop (mkF m pc' Ls st))) : own_Go p e below Q F (T.setTop (mkF m pc Ls st)) := by
  exact own_by (fun _ q => XS.goto X.here hx rfl rfl hd ho hp q) h
theorem own_ifYes (X : Stand p l e R s m args below meth c T locs cells slots) (hx : p.tables.exec = Jvm.exec) {pc pc' : Nat} {Ls : Array Slot} {st : List Value} {o : Int} {cd : ClassFile.Cond} {x : Int32} (hd : decode c.code pc = .ok (.ifCond cd o, 3)) (hc : ifCond.holds cd x = true) (ho : 0 ≤ (pc : Int) + o) (hp : ((pc : Int) + o).toNat = pc') (h : own_Go p e below Q F (T.setTop (mkF m pc' Ls st))) : own_Go p e below Q F (T.setTop (mkF m pc Ls (.int x :: st))) := by
  exact own_by (fun _ q => XS.ifYes X.here hx rfl rfl hd rfl hc ho hp q) h
theorem own_icmpYes (X : Stand p l e R s m args below meth c T locs cells slots) (hx : p.tables.exec = Jvm.exec) {pc pc' : Nat} {Ls : Array Slot} {st : List Value} {o : Int} {cd : ClassFile.Cond} {x y : Int32} (hd : decode c.code pc = .ok (.if_icmp cd o, 3)) (hc : if_icmp.holds cd x y = true) (ho : 0 ≤ (pc : Int) + o) (hp : ((pc : Int) + o).toNat = pc') (h : own_Go p e below Q F (T.setTop (mkF m pc' Ls st))) : own_Go p e below Q F (T.setTop (mkF m pc Ls (.int y :: .int x :: st))) := by
  exact own_by (fun _ q => XS.icmpYes X.here hx rfl rfl hd rfl hc ho hp q) h
theorem own_ifnullYes (X : Stand p l e R s m args below meth c T locs cells slots) (hx : p.tables.exec = Jvm.exec) {pc pc' : Nat} {Ls : Array Slot} {st : List Value} {o : Int}  (hd : decode c.code pc = .ok (.ifnull o, 3))  (ho : 0 ≤ (pc : Int) + o) (hp : ((pc : Int) + o).toNat = pc') (h : own_Go p e below Q F (T.setTop (mkF m pc' Ls st))) : own_Go p e below Q F (T.setTop (mkF m pc Ls (.null :: st))) := by
  exact own_by (fun _ q => XS.ifnullYes X.here hx rfl rfl hd rfl ho hp q) h
theorem own_ifnonnullYes (X : Stand p l e R s m args below meth c T locs cells slots) (hx : p.tables.exec = Jvm.exec) {pc pc' : Nat} {Ls : Array Slot} {st : List Value} {o : Int} {b : Addr} (hd : decode c.code pc = .ok (.ifnonnull o, 3))  (ho : 0 ≤ (pc : Int) + o) (hp : ((pc : Int) + o).toNat = pc') (h : own_Go p e below Q F (T.setTop (mkF m pc' Ls st))) : own_Go p e below Q F (T.setTop (mkF m pc Ls (.ref b :: st))) := by
  exact own_by (fun _ q => XS.ifnonnullYes X.here hx rfl rfl hd rfl ho hp q) h
theorem own_acmpYes (X : Stand p l e R s m args below meth c T locs cells slots) (hx : p.tables.exec = Jvm.exec) {pc pc' : Nat} {Ls : Array Slot} {st : List Value} {o : Int} {cd : ClassFile.ACond} {a b : Addr} (hd : decode c.code pc = .ok (.if_acmp cd o, 3)) (hc : if_acmp.holds cd (some a) (some b) = true) (ho : 0 ≤ (pc : Int) + o) (hp : ((pc : Int) + o).toNat = pc') (h : own_Go p e below Q F (T.setTop (mkF m pc' Ls st))) : own_Go p e below Q F (T.setTop (mkF m pc Ls (.ref b :: .ref a :: st))) := by
  exact own_by (fun _ q => XS.acmpYes X.here hx rfl rfl hd rfl hc ho hp q) h
theorem own_ifNo (X : Stand p l e R s m args below meth c T locs cells slots) (hx : p.tables.exec = Jvm.exec) {pc pc' : Nat} {Ls : Array Slot} {st : List Value} {cd : ClassFile.Cond} {x : Int32} {o : Int} (hc : ifCond.holds cd x = false) (hd : decode c.code pc = .ok (.ifCond cd o, 3)) (hp : pc + 3 = pc') (h : own_Go p e below Q F (T.setTop (mkF m pc' Ls st))) : own_Go p e below Q F (T.setTop (mkF m pc Ls (.int x :: st))) := by
  subst hp
  exact own_by (fun _ q => XS.ifNo X.here hx rfl hd rfl hc q) h
theorem own_icmpNo (X : Stand p l e R s m args below meth c T locs cells slots) (hx : p.tables.exec = Jvm.exec) {pc pc' : Nat} {Ls : Array Slot} {st : List Value} {cd : ClassFile.Cond} {x y : Int32} {o : Int} (hc : if_icmp.holds cd x y = false) (hd : decode c.code pc = .ok (.if_icmp cd o, 3)) (hp : pc + 3 = pc') (h : own_Go p e below Q F (T.setTop (mkF m pc' Ls st))) : own_Go p e below Q F (T.setTop (mkF m pc Ls (.int y :: .int x :: st))) := by
  subst hp
  exact own_by (fun _ q => XS.icmpNo X.here hx rfl hd rfl hc q) h
theorem own_ifnullNo (X : Stand p l e R s m args below meth c T locs cells slots) (hx : p.tables.exec = Jvm.exec) {pc pc' : Nat} {Ls : Array Slot} {st : List Value} {b : Addr} {o : Int}  (hd : decode c.code pc = .ok (.ifnull o, 3)) (hp : pc + 3 = pc') (h : own_Go p e below Q F (T.setTop (mkF m pc' Ls st))) : own_Go p e below Q F (T.setTop (mkF m pc Ls (.ref b :: st))) := by
  subst hp
  exact own_by (fun _ q => XS.ifnullNo X.here hx rfl hd rfl q) h
theorem own_ifnonnullNo (X : Stand p l e R s m args below meth c T locs cells slots) (hx : p.tables.exec = Jvm.exec) {pc pc' : Nat} {Ls : Array Slot} {st : List Value} {o : Int}  (hd : decode c.code pc = .ok (.ifnonnull o, 3)) (hp : pc + 3 = pc') (h : own_Go p e below Q F (T.setTop (mkF m pc' Ls st))) : own_Go p e below Q F (T.setTop (mkF m pc Ls (.null :: st))) := by
  subst hp
  exact own_by (fun _ q => XS.ifnonnullNo X.here hx rfl hd rfl q) h
theorem own_acmpNo (X : Stand p l e R s m args below meth c T locs cells slots) (hx : p.tables.exec = Jvm.exec) {pc pc' : Nat} {Ls : Array Slot} {st : List Value} {cd : ClassFile.ACond} {a b : Addr} {o : Int} (hc : if_acmp.holds cd (some a) (some b) = false) (hd : decode c.code pc = .ok (.if_acmp cd o, 3)) (hp : pc + 3 = pc') (h : own_Go p e below Q F (T.setTop (mkF m pc' Ls st))) : own_Go p e below Q F (T.setTop (mkF m pc Ls (.ref b :: .ref a :: st))) := by
  subst hp
  exact own_by (fun _ q => XS.acmpNo X.here hx rfl hd rfl hc q) h
theorem own_ldcInt (X : Stand p l e R s m args below meth c T locs cells slots) (hx : p.tables.exec = Jvm.exec) {pc pc' : Nat} {Ls : Array Slot} {st : List Value} {Z : State} {a0 : Array Value} {own : String} {index : Nat} {v : Int32} (hZ : Z.Warmed39 s.vm) (hown : s.vm.findClass own = some m.cls) (w : (Jvm.Cond.constant own index v).before a0 Z = true) (hd : decode c.code pc = .ok (.ldc index, 2)) (hp : pc + 2 = pc') (h : own_Go p e below Q F (T.setTop (mkF m pc' Ls (.int v :: st)))) : own_Go p e below Q F (T.setTop (mkF m pc Ls st)) := by
  subst hp
  exact own_by (fun _ q => X.ldcInt hx hown (mv hZ w) (g := mkF m pc Ls st) rfl hd _ q) h
theorem own_ldc2Long (X : Stand p l e R s m args below meth c T locs cells slots) (hx : p.tables.exec = Jvm.exec) {pc pc' : Nat} {Ls : Array Slot} {st : List Value} {Z : State} {a0 : Array Value} {own : String} {index : Nat} {v : Int64} (hZ : Z.Warmed39 s.vm) (hown : s.vm.findClass own = some m.cls) (w : (Jvm.Cond.constantLong own index v).before a0 Z = true) (hd : decode c.code pc = .ok (.ldc2_w index, 3)) (hp : pc + 3 = pc') (h : own_Go p e below Q F (T.setTop (mkF m pc' Ls (.long v :: st)))) : own_Go p e below Q F (T.setTop (mkF m pc Ls st)) := by
  subst hp
  exact own_by (fun _ q => X.ldc2Long hx hown (mv hZ w) (g := mkF m pc Ls st) rfl hd _ q) h
theorem own_lyes_lt {x y : Int64} {a b : Int} (ha : x.toInt = a) (hb : y.toInt = b) (h : a < b) : ifCond.holds .lt (lcmpW x y) = true := by
  have q := own_lcm ha hb
  have r :  (lcmpW x y).toInt < 0 := by omega
  exact own_z (own_yes_lt rfl rfl r)
theorem own_lno_lt {x y : Int64} {a b : Int} (ha : x.toInt = a) (hb : y.toInt = b) (h : ¬ a < b) : ifCond.holds .lt (lcmpW x y) = false := by
  have q := own_lcm ha hb
  have r : ¬ (lcmpW x y).toInt < 0 := by omega
  exact own_z (own_no_lt rfl rfl r)
theorem own_lyes_ge {x y : Int64} {a b : Int} (ha : x.toInt = a) (hb : y.toInt = b) (h : ¬ a < b) : ifCond.holds .ge (lcmpW x y) = true := by
  have q := own_lcm ha hb
  have r : ¬ (lcmpW x y).toInt < 0 := by omega
  exact own_z (own_yes_ge rfl rfl r)
theorem own_lno_ge {x y : Int64} {a b : Int} (ha : x.toInt = a) (hb : y.toInt = b) (h : a < b) : ifCond.holds .ge (lcmpW x y) = false := by
  have q := own_lcm ha hb
  have r :  (lcmpW x y).toInt < 0 := by omega
  exact own_z (own_no_ge rfl rfl r)
theorem own_lyes_gt {x y : Int64} {a b : Int} (ha : x.toInt = a) (hb : y.toInt = b) (h : b < a) : ifCond.holds .gt (lcmpW x y) = true := by
  have q := own_lcm ha hb
  have r :  0 < (lcmpW x y).toInt := by omega
  exact own_z (own_yes_gt rfl rfl r)
theorem own_lno_gt {x y : Int64} {a b : Int} (ha : x.toInt = a) (hb : y.toInt = b) (h : ¬ b < a) : ifCond.holds .gt (lcmpW x y) = false := by
  have q := own_lcm ha hb
  have r : ¬ 0 < (lcmpW x y).toInt := by omega
  exact own_z (own_no_gt rfl rfl r)
theorem own_lyes_le {x y : Int64} {a b : Int} (ha : x.toInt = a) (hb : y.toInt = b) (h : ¬ b < a) : ifCond.holds .le (lcmpW x y) = true := by
  have q := own_lcm ha hb
  have r : ¬ 0 < (lcmpW x y).toInt := by omega
  exact own_z (own_yes_le rfl rfl r)
theorem own_lno_le {x y : Int64} {a b : Int} (ha : x.toInt = a) (hb : y.toInt = b) (h : b < a) : ifCond.holds .le (lcmpW x y) = false := by
  have q := own_lcm ha hb
  have r :  0 < (lcmpW x y).toInt := by omega
  exact own_z (own_no_le rfl rfl r)
theorem own_lyes_eq {x y : Int64} {a b : Int} (ha : x.toInt = a) (hb : y.toInt = b) (h : a = b) : ifCond.holds .eq (lcmpW x y) = true := by
  have q := own_lcm ha hb
  have r :  (lcmpW x y).toInt = 0 := by omega
  exact own_z (own_yes_eq rfl rfl r)
theorem own_lno_eq {x y : Int64} {a b : Int} (ha : x.toInt = a) (hb : y.toInt = b) (h : ¬ a = b) : ifCond.holds .eq (lcmpW x y) = false := by
  have q := own_lcm ha hb
  have r : ¬ (lcmpW x y).toInt = 0 := by omega
  exact own_z (own_no_eq rfl rfl r)
theorem own_lyes_ne {x y : Int64} {a b : Int} (ha : x.toInt = a) (hb : y.toInt = b) (h : ¬ a = b) : ifCond.holds .ne (lcmpW x y) = true := by
  have q := own_lcm ha hb
  have r : ¬ (lcmpW x y).toInt = 0 := by omega
  exact own_z (own_yes_ne rfl rfl r)
theorem own_lno_ne {x y : Int64} {a b : Int} (ha : x.toInt = a) (hb : y.toInt = b) (h : a = b) : ifCond.holds .ne (lcmpW x y) = false := by
  have q := own_lcm ha hb
  have r :  (lcmpW x y).toInt = 0 := by omega
  exact own_z (own_no_ne rfl rfl r)
theorem own_tswIn (X : Stand p l e R s m args below meth c T locs cells slots) (hx : p.tables.exec = Jvm.exec) {pc pc' : Nat} {Ls : Array Slot} {st : List Value} {dflt low high : Int} {offs : Array Int} {len : Nat} (o : Int) {i : Int32} (hd : decode c.code pc = .ok (.tableswitch dflt low high offs, len)) (hin : ¬ (i.toInt < low ∨ i.toInt > high)) (hoff : offs[(i.toInt - low).toNat]? = some o) (ho : 0 ≤ (pc : Int) + o) (hp : ((pc : Int) + o).toNat = pc') (h : own_Go p e below Q F (T.setTop (mkF m pc' Ls st))) : own_Go p e below Q F (T.setTop (mkF m pc Ls (.int i :: st))) := by
  exact own_by (fun _ q => XS.tswIn X.here hx rfl rfl hd rfl hin hoff ho hp q) h
theorem own_tswOut (X : Stand p l e R s m args below meth c T locs cells slots) (hx : p.tables.exec = Jvm.exec) {pc pc' : Nat} {Ls : Array Slot} {st : List Value} {dflt low high : Int} {offs : Array Int} {len : Nat} {i : Int32} (hd : decode c.code pc = .ok (.tableswitch dflt low high offs, len)) (hout : i.toInt < low ∨ i.toInt > high) (ho : 0 ≤ (pc : Int) + dflt) (hp : ((pc : Int) + dflt).toNat = pc') (h : own_Go p e below Q F (T.setTop (mkF m pc' Ls st))) : own_Go p e below Q F (T.setTop (mkF m pc Ls (.int i :: st))) := by
  exact own_by (fun _ q => XS.tswOut X.here hx rfl rfl hd rfl hout ho hp q) h
end OwnKit
theorem pd_0 : parseMethodDescriptor "(JJ)J" = some ⟨[.long, .long], some .long⟩ := by decide +kernel
theorem d9_0 : decode jdk_29_method_70_code 0 = .ok (.lload_n 0, 1) := by decide +kernel
theorem d9_1 : decode jdk_29_method_70_code 1 = .ok (.lload_n 2, 1) := by decide +kernel
theorem d9_2 : decode jdk_29_method_70_code 2 = .ok (.lcmp, 1) := by decide +kernel
theorem d9_3 : decode jdk_29_method_70_code 3 = .ok (.ifCond .gt 7, 3) := by decide +kernel
theorem d9_6 : decode jdk_29_method_70_code 6 = .ok (.lload_n 0, 1) := by decide +kernel
theorem d9_7 : decode jdk_29_method_70_code 7 = .ok (.goto 4, 3) := by decide +kernel
theorem d9_10 : decode jdk_29_method_70_code 10 = .ok (.lload_n 2, 1) := by decide +kernel
theorem d9_11 : decode jdk_29_method_70_code 11 = .ok (.lreturn, 1) := by decide +kernel
theorem ef_9 (m : MethodId) (x0 : Int64) (x1 : Int64) : entryFrame m #[(.long x0), (.long x1)] 4 = mkF m 0 #[.val (.long x0), .second, .val (.long x1), .second] [] := by first | (simp [entryFrame, mkF, argsToLocals, Value.category, maxLocals]; done) | rfl
def Q9 (Z : State) (u : Int64) (w : Int64) (h0 : Heap) (n0 : Nat) (v : Option Value) (h : Heap) (L : List Loc) : Prop := ∃ r : Int64, v = some (.long r) ∧ ((u.toInt ≤ w.toInt ∧ r.toInt = u.toInt) ∨ (w.toInt < u.toInt ∧ r.toInt = w.toInt)) ∧ Fr n0 L ∧ h = h0
set_option maxRecDepth 65536 in
set_option maxHeartbeats 40000000 in
theorem rm9 (l : Launch) (Z : State) (a0 : Array Value) (hw : ∀ d ∈ tables_1, d.before a0 Z = true) (ws : List Jvm.Cond) (u : Int64) (w : Int64) (h0 : Heap) (n0 : Nat) (Z0 : n0 ≤ h0.size) :
    MetFree l (⟨"java/lang/Math", "min", "(JJ)J"⟩ : MethodName) (head1 (Jvm.Cond.code (⟨"java/lang/Math", "min", "(JJ)J"⟩ : MethodName) jdk_29_method_70_code 4 (some .long) :: ws) ({ frames := 0, cells := 0, slots := 0, locals := 0 } : Room)) (fun a U => a = #[(.long u), (.long w)] ∧ Z.Warmed39 U.vm ∧ U.heap = h0) (fun _ _ _ _ _ => True) (fun _ U o U' => ∃ v L, o = .returned v ∧ Q9 Z u w h0 n0 v U'.heap L ∧ FrameEnd U o U' L ({ frames := 0, cells := 0, slots := 0, locals := 0 } : Room).cells ({ frames := 0, cells := 0, slots := 0, locals := 0 } : Room).slots) := by
  refine MetFree.of_bodySF (Jvm.Free.JP.mathPlain rfl (by decide +kernel)) hisR ?_
  intro p e s m args below meth c s₁ Bd hml0 hP hK
  obtain ⟨rfl, hZ, hh⟩ := hP
  have hx := Bd.exec
  have hby := Bd.bytes
  have hml : c.maxLocals = 4 := hml0
  have hown : s.vm.findClass "java/lang/Math" = some m.cls := findClass_of_methodNamed Bd.named
  have hnm := (name_of_methodNamed Bd.named Bd.method).1
  have X0 : Stand p l e ({ frames := 0, cells := 0, slots := 0, locals := 0 } : Room) s m #[(.long u), (.long w)] below meth c s₁ [] 0 0 := Stand.of_body Bd
  have e0 : s₁.heap = h0 := by rw [← hh, Bd.state]; rfl
  have N0 := Fr.nil n0
  change own_Go p e below (Q9 Z u w h0 n0) (own_Fr s ({ frames := 0, cells := 0, slots := 0, locals := 0 } : Room).cells ({ frames := 0, cells := 0, slots := 0, locals := 0 } : Room).slots) (s₁.setTop (entryFrame m #[(.long u), (.long w)] 4))
  rw [ef_9 m u w]
  have ru := rng64 u
  have rw := rng64 w
  refine own_lloadN (pc' := 1) X0 hx rfl (hb hby d9_0) rfl ?_
  refine own_lloadN (pc' := 2) X0 hx rfl (hb hby d9_1) rfl ?_
  refine own_lcmp (pc' := 3) X0 hx rfl (hb hby d9_2) rfl ?_
  by_cases b1 : w.toInt < u.toInt
  · refine own_ifYes (pc' := 10) X0 hx (hb hby d9_3) (own_lyes_gt rfl rfl b1) (by decide) (by decide) ?_
    refine own_lloadN (pc' := 11) X0 hx rfl (hb hby d9_10) rfl ?_
    refine own_ret X0 hx Bd.returns Bd.notSynchronized (Or.inr (Or.inl ⟨rfl, rfl, _, rfl⟩)) (hb hby d9_11) rfl (by decide) (by decide) ?_
    show Q9 Z u w h0 n0 _ s₁.heap _
    rw [e0]
    exact ⟨w, rfl, by omega, N0, rfl⟩
  · refine own_ifNo (pc' := 6) X0 hx (own_lno_gt rfl rfl b1) (hb hby d9_3) rfl ?_
    refine own_lloadN (pc' := 7) X0 hx rfl (hb hby d9_6) rfl ?_
    refine own_goto (pc' := 11) X0 hx (hb hby d9_7) (by decide) (by decide) ?_
    refine own_ret X0 hx Bd.returns Bd.notSynchronized (Or.inr (Or.inl ⟨rfl, rfl, _, rfl⟩)) (hb hby d9_11) rfl (by decide) (by decide) ?_
    show Q9 Z u w h0 n0 _ s₁.heap _
    rw [e0]
    exact ⟨u, rfl, by omega, N0, rfl⟩
theorem pd_1 : parseMethodDescriptor "(J)V" = some ⟨[.long], none⟩ := by decide +kernel
theorem d1_0 : decode prog_25_method_1_code 0 = .ok (.aload_n 0, 1) := by decide +kernel
theorem d1_1 : decode prog_25_method_1_code 1 = .ok (.invokespecial 1, 3) := by decide +kernel
theorem d1_4 : decode prog_25_method_1_code 4 = .ok (.aload_n 0, 1) := by decide +kernel
theorem d1_5 : decode prog_25_method_1_code 5 = .ok (.lload_n 1, 1) := by decide +kernel
theorem d1_6 : decode prog_25_method_1_code 6 = .ok (.putfield 7, 3) := by decide +kernel
theorem d1_9 : decode prog_25_method_1_code 9 = .ok (.return_, 1) := by decide +kernel
theorem pn_0 : plainName "com/example/sigillum/sigillum/ld/Work" = true := by first | (simp [plainName, overriddenIn]; done) | decide +kernel
theorem ef_1 (m : MethodId) (x0 : Addr) (x1 : Int64) : entryFrame m #[(.ref x0), (.long x1)] 3 = mkF m 0 #[.val (.ref x0), .val (.long x1), .second] [] := by first | (simp [entryFrame, mkF, argsToLocals, Value.category, maxLocals]; done) | rfl
def Q1 (Z : State) (a1 : Addr) (q2 : Int64) (h0 : Heap) (n0 : Nat) (v : Option Value) (h : Heap) (L : List Loc) : Prop := v = none ∧ (True) ∧ Fr n0 L ∧ Keep h0 h [a1] ∧ Exa Z h a1 "com/example/sigillum/sigillum/ld/Work" ∧ Fld Z h a1 "com/example/sigillum/sigillum/ld/Work" "limit" "J" (.long q2) ∧ Fld Z h a1 "com/example/sigillum/sigillum/ld/Work" "steps" "J" (.long (0 : Int64))
set_option maxRecDepth 65536 in
set_option maxHeartbeats 40000000 in
theorem rm1 (l : Launch) (Z : State) (a0 : Array Value) (hw : ∀ d ∈ tables_1, d.before a0 Z = true) (ws : List Jvm.Cond) (a1 : Addr) (q2 : Int64) (h0 : Heap) (n0 : Nat) (Z0 : n0 ≤ h0.size) (E_a1 : Exa Z h0 a1 "com/example/sigillum/sigillum/ld/Work") (F_limit_a1 : Fld Z h0 a1 "com/example/sigillum/sigillum/ld/Work" "limit" "J" (.long (0 : Int64))) (F_steps_a1 : Fld Z h0 a1 "com/example/sigillum/sigillum/ld/Work" "steps" "J" (.long (0 : Int64))) (g_a1 : n0 ≤ a1) :
    MetFree l (⟨"com/example/sigillum/sigillum/ld/Work", "<init>", "(J)V"⟩ : MethodName) (head1 (Jvm.Cond.code (⟨"com/example/sigillum/sigillum/ld/Work", "<init>", "(J)V"⟩ : MethodName) prog_25_method_1_code 3 none :: ws) ({ frames := 1, cells := 0, slots := 0, locals := 12 } : Room)) (fun a U => a = #[(.ref a1), (.long q2)] ∧ Z.Warmed39 U.vm ∧ U.heap = h0) (fun _ _ _ _ _ => True) (fun _ U o U' => ∃ v L, o = .returned v ∧ Q1 Z a1 q2 h0 n0 v U'.heap L ∧ FrameEnd U o U' L ({ frames := 1, cells := 0, slots := 0, locals := 12 } : Room).cells ({ frames := 1, cells := 0, slots := 0, locals := 12 } : Room).slots) := by
  refine MetFree.of_bodySF (plainFor_of_name pn_0) hisR ?_
  intro p e s m args below meth c s₁ Bd hml0 hP hK
  obtain ⟨rfl, hZ, hh⟩ := hP
  have hx := Bd.exec
  have hby := Bd.bytes
  have hml : c.maxLocals = 3 := hml0
  have hown : s.vm.findClass "com/example/sigillum/sigillum/ld/Work" = some m.cls := findClass_of_methodNamed Bd.named
  have hnm := (name_of_methodNamed Bd.named Bd.method).1
  have X0 : Stand p l e ({ frames := 1, cells := 0, slots := 0, locals := 12 } : Room) s m #[(.ref a1), (.long q2)] below meth c s₁ [] 0 0 := Stand.of_body Bd
  have e0 : s₁.heap = h0 := by rw [← hh, Bd.state]; rfl
  have N0 := Fr.nil n0
  change own_Go p e below (Q1 Z a1 q2 h0 n0) (own_Fr s ({ frames := 1, cells := 0, slots := 0, locals := 12 } : Room).cells ({ frames := 1, cells := 0, slots := 0, locals := 12 } : Room).slots) (s₁.setTop (entryFrame m #[(.ref a1), (.long q2)] 3))
  rw [ef_1 m a1 q2]
  have rq2 := rng64 q2
  have K0 : Keep h0 h0 [a1] := Keep.refl h0 [a1]
  refine own_aloadN (pc' := 1) X0 hx rfl rfl (hb hby d1_0) rfl ?_
  obtain ⟨T1, X1, e1, st1⟩ := initO X0 hx hZ hown (hw _ (List.mem_of_getElem? (i := 6) rfl)) (hw _ (List.mem_of_getElem? (i := 7) rfl)) (hw _ (List.mem_of_getElem? (i := 8) rfl)) e0 (g := (mkF m 1 #[.val (.ref a1), .val (.long q2), .second] [(.ref a1)])) rfl (by rw [hml]; rfl) rfl (hb hby d1_1) (by decide) (W := 0) (by show 2 * 0 + _ ≤ _; exact Nat.le_of_eq rfl) (by decide)
  refine own_by st1 ?_
  show own_Go p e below (Q1 Z a1 q2 h0 n0) (own_Fr s ({ frames := 1, cells := 0, slots := 0, locals := 12 } : Room).cells ({ frames := 1, cells := 0, slots := 0, locals := 12 } : Room).slots) (T1.setTop (mkF m 4 #[.val (.ref a1), .val (.long q2), .second] []))
  refine own_aloadN (pc' := 5) X1 hx rfl rfl (hb hby d1_4) rfl ?_
  refine own_lloadN (pc' := 6) X1 hx rfl (hb hby d1_5) rfl ?_
  obtain ⟨T2, h2, X2, e2, W2, st2⟩ := putF X1 hx hZ hown (host := "") (Or.inl (hw _ (List.mem_of_getElem? (i := 9) rfl))) Via.refl e1 F_limit_a1 E_a1 (Or.inr ⟨(hw _ (List.mem_of_getElem? (i := 10) rfl)), rfl, hnm⟩) (hw _ (List.mem_of_getElem? (i := 1) rfl)) (ty := .long) (by decide) rfl rfl (g := (mkF m 6 #[.val (.ref a1), .val (.long q2), .second] [(.long q2), (.ref a1)])) rfl rfl (hb hby d1_6)
  have Fw2 : Fld Z h2 a1 "com/example/sigillum/sigillum/ld/Work" "limit" "J" (.long q2) := F_limit_a1.same W2
  have F3 : Fld Z h2 a1 "com/example/sigillum/sigillum/ld/Work" "steps" "J" (.long (0 : Int64)) := F_steps_a1.other W2 (Or.inr (slot_ne (Or.inl (hw _ (List.mem_of_getElem? (i := 17) rfl))) (Or.inr (hw _ (List.mem_of_getElem? (i := 10) rfl))) (by decide) (t := .long) (by decide) (t' := .long) (by decide)))
  have E4 : Exa Z h2 a1 "com/example/sigillum/sigillum/ld/Work" := E_a1.wr W2
  have Z5 : n0 ≤ h2.size := Nat.le_trans Z0 (Nat.le_of_eq W2.size.symm)
  have N6 := Fr.snoc X2 N0 g_a1
  have K7 : Keep h0 h2 [a1] := K0.wr W2 (Or.inl (List.mem_of_getElem? (i := 0) rfl))
  refine own_by st2 ?_
  show own_Go p e below (Q1 Z a1 q2 h0 n0) (own_Fr s ({ frames := 1, cells := 0, slots := 0, locals := 12 } : Room).cells ({ frames := 1, cells := 0, slots := 0, locals := 12 } : Room).slots) (T2.setTop (mkF m 9 #[.val (.ref a1), .val (.long q2), .second] []))
  refine own_ret0 X2 hx Bd.returns Bd.notSynchronized (hb hby d1_9) rfl (by decide) (by decide) ?_
  show Q1 Z a1 q2 h0 n0 _ T2.heap _
  rw [e2]
  exact ⟨rfl, trivial, N6, K7, E4, Fw2, F3⟩
theorem pd_2 : parseMethodDescriptor "()Z" = some ⟨[], some .boolean⟩ := by decide +kernel
theorem d2_0 : decode prog_25_method_4_code 0 = .ok (.aload_n 0, 1) := by decide +kernel
theorem d2_1 : decode prog_25_method_4_code 1 = .ok (.getfield 13, 3) := by decide +kernel
theorem d2_4 : decode prog_25_method_4_code 4 = .ok (.aload_n 0, 1) := by decide +kernel
theorem d2_5 : decode prog_25_method_4_code 5 = .ok (.getfield 7, 3) := by decide +kernel
theorem d2_8 : decode prog_25_method_4_code 8 = .ok (.lcmp, 1) := by decide +kernel
theorem d2_9 : decode prog_25_method_4_code 9 = .ok (.ifCond .le 7, 3) := by decide +kernel
theorem d2_12 : decode prog_25_method_4_code 12 = .ok (.iconst 1, 1) := by decide +kernel
theorem d2_13 : decode prog_25_method_4_code 13 = .ok (.goto 4, 3) := by decide +kernel
theorem d2_16 : decode prog_25_method_4_code 16 = .ok (.iconst 0, 1) := by decide +kernel
theorem d2_17 : decode prog_25_method_4_code 17 = .ok (.ireturn, 1) := by decide +kernel
theorem ef_2 (m : MethodId) (x0 : Addr) : entryFrame m #[(.ref x0)] 1 = mkF m 0 #[.val (.ref x0)] [] := by first | (simp [entryFrame, mkF, argsToLocals, Value.category, maxLocals]; done) | rfl
def Q2 (Z : State) (a1 : Addr) (wl : Int64) (wst : Int64) (h0 : Heap) (n0 : Nat) (v : Option Value) (h : Heap) (L : List Loc) : Prop := ∃ r : Int32, v = some (.int r) ∧ ((r.toInt = 1 ∧ wl.toInt < wst.toInt) ∨ (r.toInt = 0 ∧ wst.toInt ≤ wl.toInt)) ∧ Fr n0 L ∧ h = h0
set_option maxRecDepth 65536 in
set_option maxHeartbeats 40000000 in
theorem rm2 (l : Launch) (Z : State) (a0 : Array Value) (hw : ∀ d ∈ tables_1, d.before a0 Z = true) (ws : List Jvm.Cond) (a1 : Addr) (wl : Int64) (wst : Int64) (h0 : Heap) (n0 : Nat) (Z0 : n0 ≤ h0.size) (F_limit_a1 : Fld Z h0 a1 "com/example/sigillum/sigillum/ld/Work" "limit" "J" (.long wl)) (F_steps_a1 : Fld Z h0 a1 "com/example/sigillum/sigillum/ld/Work" "steps" "J" (.long wst)) :
    MetFree l (⟨"com/example/sigillum/sigillum/ld/Work", "exceeded", "()Z"⟩ : MethodName) (head1 (Jvm.Cond.code (⟨"com/example/sigillum/sigillum/ld/Work", "exceeded", "()Z"⟩ : MethodName) prog_25_method_4_code 1 (some .boolean) :: ws) ({ frames := 0, cells := 0, slots := 0, locals := 0 } : Room)) (fun a U => a = #[(.ref a1)] ∧ Z.Warmed39 U.vm ∧ U.heap = h0) (fun _ _ _ _ _ => True) (fun _ U o U' => ∃ v L, o = .returned v ∧ Q2 Z a1 wl wst h0 n0 v U'.heap L ∧ FrameEnd U o U' L ({ frames := 0, cells := 0, slots := 0, locals := 0 } : Room).cells ({ frames := 0, cells := 0, slots := 0, locals := 0 } : Room).slots) := by
  refine MetFree.of_bodySF (plainFor_of_name pn_0) hisR ?_
  intro p e s m args below meth c s₁ Bd hml0 hP hK
  obtain ⟨rfl, hZ, hh⟩ := hP
  have hx := Bd.exec
  have hby := Bd.bytes
  have hml : c.maxLocals = 1 := hml0
  have hown : s.vm.findClass "com/example/sigillum/sigillum/ld/Work" = some m.cls := findClass_of_methodNamed Bd.named
  have hnm := (name_of_methodNamed Bd.named Bd.method).1
  have X0 : Stand p l e ({ frames := 0, cells := 0, slots := 0, locals := 0 } : Room) s m #[(.ref a1)] below meth c s₁ [] 0 0 := Stand.of_body Bd
  have e0 : s₁.heap = h0 := by rw [← hh, Bd.state]; rfl
  have N0 := Fr.nil n0
  change own_Go p e below (Q2 Z a1 wl wst h0 n0) (own_Fr s ({ frames := 0, cells := 0, slots := 0, locals := 0 } : Room).cells ({ frames := 0, cells := 0, slots := 0, locals := 0 } : Room).slots) (s₁.setTop (entryFrame m #[(.ref a1)] 1))
  rw [ef_2 m a1]
  have rwl := rng64 wl
  have rwst := rng64 wst
  refine own_aloadN (pc' := 1) X0 hx rfl rfl (hb hby d2_0) rfl ?_
  obtain ⟨T1, X1, e1, st1⟩ := getF X0 hx hZ hown (host := "") (Or.inl (hw _ (List.mem_of_getElem? (i := 16) rfl))) Via.refl e0 F_steps_a1 (g := (mkF m 1 #[.val (.ref a1)] [(.ref a1)])) rfl rfl (hb hby d2_1)
  refine own_by st1 ?_
  show own_Go p e below (Q2 Z a1 wl wst h0 n0) (own_Fr s ({ frames := 0, cells := 0, slots := 0, locals := 0 } : Room).cells ({ frames := 0, cells := 0, slots := 0, locals := 0 } : Room).slots) (T1.setTop (mkF m 4 #[.val (.ref a1)] [(.long wst)]))
  refine own_aloadN (pc' := 5) X1 hx rfl rfl (hb hby d2_4) rfl ?_
  obtain ⟨T2, X2, e2, st2⟩ := getF X1 hx hZ hown (host := "") (Or.inl (hw _ (List.mem_of_getElem? (i := 9) rfl))) Via.refl e1 F_limit_a1 (g := (mkF m 5 #[.val (.ref a1)] [(.ref a1), (.long wst)])) rfl rfl (hb hby d2_5)
  refine own_by st2 ?_
  show own_Go p e below (Q2 Z a1 wl wst h0 n0) (own_Fr s ({ frames := 0, cells := 0, slots := 0, locals := 0 } : Room).cells ({ frames := 0, cells := 0, slots := 0, locals := 0 } : Room).slots) (T2.setTop (mkF m 8 #[.val (.ref a1)] [(.long wl), (.long wst)]))
  refine own_lcmp (pc' := 9) X2 hx rfl (hb hby d2_8) rfl ?_
  by_cases b3 : wl.toInt < wst.toInt
  · refine own_ifNo (pc' := 12) X2 hx (own_lno_le rfl rfl b3) (hb hby d2_9) rfl ?_
    refine own_iconst (pc' := 13) X2 hx (1 : Int32) (by decide) (hb hby d2_12) rfl ?_
    refine own_goto (pc' := 17) X2 hx (hb hby d2_13) (by decide) (by decide) ?_
    refine own_ret X2 hx Bd.returns Bd.notSynchronized (Or.inl ⟨rfl, by simp, _, rfl⟩) (hb hby d2_17) rfl (by decide) (by decide) ?_
    show Q2 Z a1 wl wst h0 n0 _ T2.heap _
    rw [e2]
    have kc0 : ((1 : Int32)).toInt = 1 := by decide
    exact ⟨(1 : Int32), rfl, by omega, N0, rfl⟩
  · refine own_ifYes (pc' := 16) X2 hx (hb hby d2_9) (own_lyes_le rfl rfl b3) (by decide) (by decide) ?_
    refine own_iconst (pc' := 17) X2 hx (0 : Int32) (by decide) (hb hby d2_16) rfl ?_
    refine own_ret X2 hx Bd.returns Bd.notSynchronized (Or.inl ⟨rfl, by simp, _, rfl⟩) (hb hby d2_17) rfl (by decide) (by decide) ?_
    show Q2 Z a1 wl wst h0 n0 _ T2.heap _
    rw [e2]
    have kc0 : ((0 : Int32)).toInt = 0 := by decide
    exact ⟨(0 : Int32), rfl, by omega, N0, rfl⟩
theorem pd_3 : parseMethodDescriptor "()J" = some ⟨[], some .long⟩ := by decide +kernel
theorem d3_0 : decode prog_25_method_3_code 0 = .ok (.aload_n 0, 1) := by decide +kernel
theorem d3_1 : decode prog_25_method_3_code 1 = .ok (.getfield 13, 3) := by decide +kernel
theorem d3_4 : decode prog_25_method_3_code 4 = .ok (.lreturn, 1) := by decide +kernel
theorem ef_3 (m : MethodId) (x0 : Addr) : entryFrame m #[(.ref x0)] 1 = mkF m 0 #[.val (.ref x0)] [] := by first | (simp [entryFrame, mkF, argsToLocals, Value.category, maxLocals]; done) | rfl
def Q3 (Z : State) (a1 : Addr) (wst : Int64) (h0 : Heap) (n0 : Nat) (v : Option Value) (h : Heap) (L : List Loc) : Prop := ∃ r : Int64, v = some (.long r) ∧ (r.toInt = wst.toInt) ∧ Fr n0 L ∧ h = h0
set_option maxRecDepth 65536 in
set_option maxHeartbeats 40000000 in
theorem rm3 (l : Launch) (Z : State) (a0 : Array Value) (hw : ∀ d ∈ tables_1, d.before a0 Z = true) (ws : List Jvm.Cond) (a1 : Addr) (wst : Int64) (h0 : Heap) (n0 : Nat) (Z0 : n0 ≤ h0.size) (F_steps_a1 : Fld Z h0 a1 "com/example/sigillum/sigillum/ld/Work" "steps" "J" (.long wst)) :
    MetFree l (⟨"com/example/sigillum/sigillum/ld/Work", "steps", "()J"⟩ : MethodName) (head1 (Jvm.Cond.code (⟨"com/example/sigillum/sigillum/ld/Work", "steps", "()J"⟩ : MethodName) prog_25_method_3_code 1 (some .long) :: ws) ({ frames := 0, cells := 0, slots := 0, locals := 0 } : Room)) (fun a U => a = #[(.ref a1)] ∧ Z.Warmed39 U.vm ∧ U.heap = h0) (fun _ _ _ _ _ => True) (fun _ U o U' => ∃ v L, o = .returned v ∧ Q3 Z a1 wst h0 n0 v U'.heap L ∧ FrameEnd U o U' L ({ frames := 0, cells := 0, slots := 0, locals := 0 } : Room).cells ({ frames := 0, cells := 0, slots := 0, locals := 0 } : Room).slots) := by
  refine MetFree.of_bodySF (plainFor_of_name pn_0) hisR ?_
  intro p e s m args below meth c s₁ Bd hml0 hP hK
  obtain ⟨rfl, hZ, hh⟩ := hP
  have hx := Bd.exec
  have hby := Bd.bytes
  have hml : c.maxLocals = 1 := hml0
  have hown : s.vm.findClass "com/example/sigillum/sigillum/ld/Work" = some m.cls := findClass_of_methodNamed Bd.named
  have hnm := (name_of_methodNamed Bd.named Bd.method).1
  have X0 : Stand p l e ({ frames := 0, cells := 0, slots := 0, locals := 0 } : Room) s m #[(.ref a1)] below meth c s₁ [] 0 0 := Stand.of_body Bd
  have e0 : s₁.heap = h0 := by rw [← hh, Bd.state]; rfl
  have N0 := Fr.nil n0
  change own_Go p e below (Q3 Z a1 wst h0 n0) (own_Fr s ({ frames := 0, cells := 0, slots := 0, locals := 0 } : Room).cells ({ frames := 0, cells := 0, slots := 0, locals := 0 } : Room).slots) (s₁.setTop (entryFrame m #[(.ref a1)] 1))
  rw [ef_3 m a1]
  have rwst := rng64 wst
  refine own_aloadN (pc' := 1) X0 hx rfl rfl (hb hby d3_0) rfl ?_
  obtain ⟨T1, X1, e1, st1⟩ := getF X0 hx hZ hown (host := "") (Or.inl (hw _ (List.mem_of_getElem? (i := 16) rfl))) Via.refl e0 F_steps_a1 (g := (mkF m 1 #[.val (.ref a1)] [(.ref a1)])) rfl rfl (hb hby d3_1)
  refine own_by st1 ?_
  show own_Go p e below (Q3 Z a1 wst h0 n0) (own_Fr s ({ frames := 0, cells := 0, slots := 0, locals := 0 } : Room).cells ({ frames := 0, cells := 0, slots := 0, locals := 0 } : Room).slots) (T1.setTop (mkF m 4 #[.val (.ref a1)] [(.long wst)]))
  refine own_ret X1 hx Bd.returns Bd.notSynchronized (Or.inr (Or.inl ⟨rfl, rfl, _, rfl⟩)) (hb hby d3_4) rfl (by decide) (by decide) ?_
  show Q3 Z a1 wst h0 n0 _ T1.heap _
  rw [e1]
  exact ⟨wst, rfl, by omega, N0, rfl⟩
theorem d4_0 : decode prog_25_method_2_code 0 = .ok (.aload_n 0, 1) := by decide +kernel
theorem d4_1 : decode prog_25_method_2_code 1 = .ok (.dup, 1) := by decide +kernel
theorem d4_2 : decode prog_25_method_2_code 2 = .ok (.getfield 13, 3) := by decide +kernel
theorem d4_5 : decode prog_25_method_2_code 5 = .ok (.lload_n 1, 1) := by decide +kernel
theorem d4_6 : decode prog_25_method_2_code 6 = .ok (.ladd, 1) := by decide +kernel
theorem d4_7 : decode prog_25_method_2_code 7 = .ok (.putfield 13, 3) := by decide +kernel
theorem d4_10 : decode prog_25_method_2_code 10 = .ok (.aload_n 0, 1) := by decide +kernel
theorem d4_11 : decode prog_25_method_2_code 11 = .ok (.invokevirtual 16, 3) := by decide +kernel
theorem d4_14 : decode prog_25_method_2_code 14 = .ok (.ifCond .eq 8, 3) := by decide +kernel
theorem d4_22 : decode prog_25_method_2_code 22 = .ok (.return_, 1) := by decide +kernel
theorem ef_4 (m : MethodId) (x0 : Addr) (x1 : Int64) : entryFrame m #[(.ref x0), (.long x1)] 3 = mkF m 0 #[.val (.ref x0), .val (.long x1), .second] [] := by first | (simp [entryFrame, mkF, argsToLocals, Value.category, maxLocals]; done) | rfl
def Q4 (Z : State) (a1 : Addr) (q2 : Int64) (wl : Int64) (wst : Int64) (h0 : Heap) (n0 : Nat) (v : Option Value) (h : Heap) (L : List Loc) : Prop := ∃ n5 : Int64, v = none ∧ (n5.toInt = wst.toInt + q2.toInt) ∧ Fr n0 L ∧ Keep h0 h [a1] ∧ Exa Z h a1 "com/example/sigillum/sigillum/ld/Work" ∧ Fld Z h a1 "com/example/sigillum/sigillum/ld/Work" "limit" "J" (.long wl) ∧ Fld Z h a1 "com/example/sigillum/sigillum/ld/Work" "steps" "J" (.long n5)
set_option maxRecDepth 65536 in
set_option maxHeartbeats 40000000 in
theorem rm4 (l : Launch) (Z : State) (a0 : Array Value) (hw : ∀ d ∈ tables_1, d.before a0 Z = true) (ws : List Jvm.Cond) (a1 : Addr) (q2 : Int64) (wl : Int64) (wst : Int64) (h0 : Heap) (n0 : Nat) (Z0 : n0 ≤ h0.size) (E_a1 : Exa Z h0 a1 "com/example/sigillum/sigillum/ld/Work") (F_limit_a1 : Fld Z h0 a1 "com/example/sigillum/sigillum/ld/Work" "limit" "J" (.long wl)) (F_steps_a1 : Fld Z h0 a1 "com/example/sigillum/sigillum/ld/Work" "steps" "J" (.long wst)) (g_a1 : n0 ≤ a1) (hy : -9223372036854775808 ≤ wst.toInt + q2.toInt ∧ wst.toInt + q2.toInt ≤ wl.toInt) :
    MetFree l (⟨"com/example/sigillum/sigillum/ld/Work", "spend", "(J)V"⟩ : MethodName) (head1 (Jvm.Cond.code (⟨"com/example/sigillum/sigillum/ld/Work", "spend", "(J)V"⟩ : MethodName) prog_25_method_2_code 3 none :: ws) ({ frames := 1, cells := 0, slots := 0, locals := 12 } : Room)) (fun a U => a = #[(.ref a1), (.long q2)] ∧ Z.Warmed39 U.vm ∧ U.heap = h0) (fun _ _ _ _ _ => True) (fun _ U o U' => ∃ v L, o = .returned v ∧ Q4 Z a1 q2 wl wst h0 n0 v U'.heap L ∧ FrameEnd U o U' L ({ frames := 1, cells := 0, slots := 0, locals := 12 } : Room).cells ({ frames := 1, cells := 0, slots := 0, locals := 12 } : Room).slots) := by
  refine MetFree.of_bodySF (plainFor_of_name pn_0) hisR ?_
  intro p e s m args below meth c s₁ Bd hml0 hP hK
  obtain ⟨rfl, hZ, hh⟩ := hP
  have hx := Bd.exec
  have hby := Bd.bytes
  have hml : c.maxLocals = 3 := hml0
  have hown : s.vm.findClass "com/example/sigillum/sigillum/ld/Work" = some m.cls := findClass_of_methodNamed Bd.named
  have hnm := (name_of_methodNamed Bd.named Bd.method).1
  have X0 : Stand p l e ({ frames := 1, cells := 0, slots := 0, locals := 12 } : Room) s m #[(.ref a1), (.long q2)] below meth c s₁ [] 0 0 := Stand.of_body Bd
  have e0 : s₁.heap = h0 := by rw [← hh, Bd.state]; rfl
  have N0 := Fr.nil n0
  change own_Go p e below (Q4 Z a1 q2 wl wst h0 n0) (own_Fr s ({ frames := 1, cells := 0, slots := 0, locals := 12 } : Room).cells ({ frames := 1, cells := 0, slots := 0, locals := 12 } : Room).slots) (s₁.setTop (entryFrame m #[(.ref a1), (.long q2)] 3))
  rw [ef_4 m a1 q2]
  have rq2 := rng64 q2
  have rwl := rng64 wl
  have rwst := rng64 wst
  have K0 : Keep h0 h0 [a1] := Keep.refl h0 [a1]
  refine own_aloadN (pc' := 1) X0 hx rfl rfl (hb hby d4_0) rfl ?_
  refine own_dup (pc' := 2) X0 hx rfl (hb hby d4_1) rfl ?_
  obtain ⟨T1, X1, e1, st1⟩ := getF X0 hx hZ hown (host := "") (Or.inl (hw _ (List.mem_of_getElem? (i := 16) rfl))) Via.refl e0 F_steps_a1 (g := (mkF m 2 #[.val (.ref a1), .val (.long q2), .second] [(.ref a1), (.ref a1)])) rfl rfl (hb hby d4_2)
  refine own_by st1 ?_
  show own_Go p e below (Q4 Z a1 q2 wl wst h0 n0) (own_Fr s ({ frames := 1, cells := 0, slots := 0, locals := 12 } : Room).cells ({ frames := 1, cells := 0, slots := 0, locals := 12 } : Room).slots) (T1.setTop (mkF m 5 #[.val (.ref a1), .val (.long q2), .second] [(.long wst), (.ref a1)]))
  refine own_lloadN (pc' := 6) X1 hx rfl (hb hby d4_5) rfl ?_
  obtain ⟨v2, hv2⟩ : ∃ z, wst + q2 = z := ⟨_, rfl⟩
  have f3 : (v2.toInt - (wst.toInt + q2.toInt)) % 18446744073709551616 = 0 := by rw [← hv2]; exact c_ladd wst q2
  have rv2 := rng64 v2
  replace f3 : v2.toInt = wst.toInt + q2.toInt := by omega
  refine own_ladd (pc' := 7) X1 hx (z := v2) hv2 (hb hby d4_6) rfl ?_
  obtain ⟨T4, h4, X4, e4, W4, st4⟩ := putF X1 hx hZ hown (host := "") (Or.inl (hw _ (List.mem_of_getElem? (i := 16) rfl))) Via.refl e1 F_steps_a1 E_a1 (Or.inl (hw _ (List.mem_of_getElem? (i := 17) rfl))) (hw _ (List.mem_of_getElem? (i := 1) rfl)) (ty := .long) (by decide) rfl rfl (g := (mkF m 7 #[.val (.ref a1), .val (.long q2), .second] [(.long v2), (.ref a1)])) rfl rfl (hb hby d4_7)
  have Fw4 : Fld Z h4 a1 "com/example/sigillum/sigillum/ld/Work" "steps" "J" (.long v2) := F_steps_a1.same W4
  have F5 : Fld Z h4 a1 "com/example/sigillum/sigillum/ld/Work" "limit" "J" (.long wl) := F_limit_a1.other W4 (Or.inr (slot_ne (Or.inr (hw _ (List.mem_of_getElem? (i := 10) rfl))) (Or.inl (hw _ (List.mem_of_getElem? (i := 17) rfl))) (by decide) (t := .long) (by decide) (t' := .long) (by decide)))
  have E6 : Exa Z h4 a1 "com/example/sigillum/sigillum/ld/Work" := E_a1.wr W4
  have Z7 : n0 ≤ h4.size := Nat.le_trans Z0 (Nat.le_of_eq W4.size.symm)
  have N8 := Fr.snoc X4 N0 g_a1
  have K9 : Keep h0 h4 [a1] := K0.wr W4 (Or.inl (List.mem_of_getElem? (i := 0) rfl))
  refine own_by st4 ?_
  show own_Go p e below (Q4 Z a1 q2 wl wst h0 n0) (own_Fr s ({ frames := 1, cells := 0, slots := 0, locals := 12 } : Room).cells ({ frames := 1, cells := 0, slots := 0, locals := 12 } : Room).slots) (T4.setTop (mkF m 10 #[.val (.ref a1), .val (.long q2), .second] []))
  refine own_aloadN (pc' := 11) X4 hx rfl rfl (hb hby d4_10) rfl ?_
  obtain ⟨cq10, kq10, q10a, q10b, q10c⟩ := isOf hZ e4 E6
  obtain ⟨_, _, ⟨T10, L10, k10, n10⟩, -, X10, ⟨Lc10, hQ10, l10, y10, z10⟩, st10⟩ := X4.virtualBack hx (y := (⟨"com/example/sigillum/sigillum/ld/Work", "exceeded", "()Z"⟩ : MethodName)) (z := (⟨"com/example/sigillum/sigillum/ld/Work", "exceeded", "()Z"⟩ : MethodName)) hown (mvT hZ (hw _ (List.mem_of_getElem? (i := 27) rfl))) (mvT hZ (hw _ (List.mem_of_getElem? (i := 12) rfl))) (notFace_of_selects (args := #[]) (mvT hZ (hw _ (List.mem_of_getElem? (i := 14) rfl)))) (mvT hZ (hw _ (List.mem_of_getElem? (i := 14) rfl))) (mvT hZ (hw _ (List.mem_of_getElem? (i := 13) rfl))) (by decide) (backOf (W := 0) (rm2 l Z a0 hw [] a1 wl v2 h4 n0 Z7 F5 Fw4) hZ (hw _ (List.mem_of_getElem? (i := 15) rfl)) (hw _ (List.mem_of_getElem? (i := 2) rfl)) (by decide) (by decide)) q10a q10c (g := (mkF m 11 #[.val (.ref a1), .val (.long q2), .second] [(.ref a1)])) rfl (by rw [hml]; rfl) (Steps.refl _) (argsL := []) (rest := []) (lenOf pd_2 rfl) rfl (by show 2 * 0 + _ ≤ _; exact Nat.le_of_eq rfl) (hb hby d4_11) (fun _ _ => ⟨rfl, e4, (by decide : 0 + 0 ≤ _), (by decide : 0 + 0 ≤ _)⟩)
  dsimp only [Pt.U, Pt.locs, Pt.cells, Pt.slots] at X10 l10 y10 z10 st10 hQ10
  subst l10 y10 z10
  obtain ⟨o10, rfl, p10, N10, e10⟩ := hQ10
  have ro10 := rng32 o10
  have N10a := Fr.app N8 N10
  refine own_via st10 ?_
  show own_Go p e below (Q4 Z a1 q2 wl wst h0 n0) (own_Fr s ({ frames := 1, cells := 0, slots := 0, locals := 12 } : Room).cells ({ frames := 1, cells := 0, slots := 0, locals := 12 } : Room).slots) (T10.setTop (mkF m 14 #[.val (.ref a1), .val (.long q2), .second] [(.int o10)]))
  have b11 : o10.toInt = 0 := by omega
  refine own_ifYes (pc' := 22) X10 hx (hb hby d4_14) (own_z (own_yes_eq rfl (by decide) b11)) (by decide) (by decide) ?_
  refine own_ret0 X10 hx Bd.returns Bd.notSynchronized (hb hby d4_22) rfl (by decide) (by decide) ?_
  show Q4 Z a1 q2 wl wst h0 n0 _ T10.heap _
  rw [e10]
  exact ⟨v2, rfl, by omega, N10a, K9, E6, F5, Fw4⟩
theorem pn_1 : plainName "com/example/sigillum/sigillum/ld/WorkExceededPinLaw" = true := by first | (simp [plainName, overriddenIn]; done) | decide +kernel
theorem ef_0 (m : MethodId) (x0 : Int64) (x1 : Int64) (x2 : Int32) : entryFrame m #[(.long x0), (.long x1), (.int x2)] maxLocals = mkF m 0 #[.val (.long x0), .second, .val (.long x1), .second, .val (.int x2), .unset, .unset, .unset, .unset] [] := by first | (simp [entryFrame, mkF, argsToLocals, Value.category, maxLocals]; done) | rfl
def Q0 (Z : State) (p1 : Int64) (p2 : Int64) (p3 : Int32) (h0 : Heap) (n0 : Nat) (v : Option Value) (h : Heap) (L : List Loc) : Prop := v = some (.int 1) ∧ Fr n0 L
set_option maxRecDepth 65536 in
set_option maxHeartbeats 40000000 in
theorem rm0 (l : Launch) (Z : State) (a0 : Array Value) (hw : ∀ d ∈ tables_1, d.before a0 Z = true) (ws : List Jvm.Cond) (p1 : Int64) (p2 : Int64) (p3 : Int32) (h0 : Heap) (n0 : Nat) (Z0 : n0 ≤ h0.size) :
    MetFree l x (head1 (Jvm.Cond.code x code maxLocals ret :: ws) room_1) (fun a U => a = #[(.long p1), (.long p2), (.int p3)] ∧ Z.Warmed39 U.vm ∧ U.heap = h0) (fun _ _ _ _ _ => True) (fun _ U o U' => ∃ v L, o = .returned v ∧ Q0 Z p1 p2 p3 h0 n0 v U'.heap L ∧ FrameEnd U o U' L room_1.cells room_1.slots) := by
  refine MetFree.of_bodySF (plainFor_of_name pn_1) hisR ?_
  intro p e s m args below meth c s₁ Bd hml0 hP hK
  obtain ⟨rfl, hZ, hh⟩ := hP
  have hx := Bd.exec
  have hby := Bd.bytes
  have hml : c.maxLocals = 9 := hml0
  have hown : s.vm.findClass "com/example/sigillum/sigillum/ld/WorkExceededPinLaw" = some m.cls := findClass_of_methodNamed Bd.named
  have hnm := (name_of_methodNamed Bd.named Bd.method).1
  have X0 : Stand p l e room_1 s m #[(.long p1), (.long p2), (.int p3)] below meth c s₁ [] 0 0 := Stand.of_body Bd
  have e0 : s₁.heap = h0 := by rw [← hh, Bd.state]; rfl
  have N0 := Fr.nil n0
  change own_Go p e below (Q0 Z p1 p2 p3 h0 n0) (own_Fr s room_1.cells room_1.slots) (s₁.setTop (entryFrame m #[(.long p1), (.long p2), (.int p3)] maxLocals))
  rw [ef_0 m p1 p2 p3]
  have rp1 := rng64 p1
  have rp2 := rng64 p2
  have rp3 := rng32 p3
  obtain ⟨T1, h1, X1, e1, E1, A1, D1, -, st1⟩ := newO X0 hx hZ hown (hw _ (List.mem_of_getElem? (i := 0) rfl)) (hw _ (List.mem_of_getElem? (i := 1) rfl)) (hw _ (List.mem_of_getElem? (i := 2) rfl)) e0 (g := (mkF m 0 #[.val (.long p1), .second, .val (.long p2), .second, .val (.int p3), .unset, .unset, .unset, .unset] [])) rfl (hb hby at_0) (by decide) (by decide)
  obtain ⟨a1, ga1⟩ : ∃ z, z = h0.size := ⟨_, rfl⟩
  rw [← ga1] at A1 D1 st1
  have fr1 : n0 ≤ a1 := Nat.le_trans Z0 (Nat.le_of_eq ga1.symm)
  have Z2 : n0 ≤ h1.size := Nat.le_trans Z0 E1.1
  have F3 : Fld Z h1 a1 "com/example/sigillum/sigillum/ld/Work" "limit" "J" (.long (0 : Int64)) := D1 (Or.inr (hw _ (List.mem_of_getElem? (i := 10) rfl))) (ty := .long) (by decide)
  have F4 : Fld Z h1 a1 "com/example/sigillum/sigillum/ld/Work" "steps" "J" (.long (0 : Int64)) := D1 (Or.inl (hw _ (List.mem_of_getElem? (i := 17) rfl))) (ty := .long) (by decide)
  refine own_by st1 ?_
  show own_Go p e below (Q0 Z p1 p2 p3 h0 n0) (own_Fr s room_1.cells room_1.slots) (T1.setTop (mkF m 3 #[.val (.long p1), .second, .val (.long p2), .second, .val (.int p3), .unset, .unset, .unset, .unset] [(.ref a1)]))
  refine own_dup (pc' := 4) X1 hx rfl (hb hby at_3) rfl ?_
  refine own_lloadN (pc' := 5) X1 hx rfl (hb hby at_4) rfl ?_
  obtain ⟨_, _, ⟨T5, L5, k5, n5⟩, -, X5, ⟨Lc5, hQ5, l5, y5, z5⟩, st5⟩ := X1.specialBack hx (y := (⟨"com/example/sigillum/sigillum/ld/Work", "<init>", "(J)V"⟩ : MethodName)) rfl hown (mvT hZ (hw _ (List.mem_of_getElem? (i := 3) rfl))) (mvT hZ (hw _ (List.mem_of_getElem? (i := 4) rfl))) (mvT hZ (hw _ (List.mem_of_getElem? (i := 5) rfl))) (by decide) (backOf (W := 1) (rm1 l Z a0 hw [] a1 p1 h1 n0 Z2 A1 F3 F4 fr1) hZ (hw _ (List.mem_of_getElem? (i := 5) rfl)) (hw _ (List.mem_of_getElem? (i := 2) rfl)) (by decide) (by decide)) (g := (mkF m 5 #[.val (.long p1), .second, .val (.long p2), .second, .val (.int p3), .unset, .unset, .unset, .unset] [(.long p1), (.ref a1), (.ref a1)])) rfl (by rw [hml]; rfl) (Steps.refl _) (a := a1) (argsL := [(.long p1)]) (rest := [(.ref a1)]) (lenOf pd_1 rfl) rfl (by show 2 * 0 + _ ≤ _; exact Nat.le_of_eq rfl) (hb hby at_5) (fun _ _ => ⟨rfl, e1, (by decide : 1 + 0 ≤ _), (by decide : 2 + 0 ≤ _)⟩)
  dsimp only [Pt.U, Pt.locs, Pt.cells, Pt.slots] at X5 l5 y5 z5 st5 hQ5
  subst l5 y5 z5
  obtain ⟨rfl, p5, N5, Kc5, Ec5_a1, Fc5_0, Fc5_1⟩ := hQ5
  have Z6 : n0 ≤ T5.heap.size := Nat.le_trans Z2 Kc5.1
  have N5a := Fr.app N0 N5
  refine own_via st5 ?_
  show own_Go p e below (Q0 Z p1 p2 p3 h0 n0) (own_Fr s room_1.cells room_1.slots) (T5.setTop (mkF m 8 #[.val (.long p1), .second, .val (.long p2), .second, .val (.int p3), .unset, .unset, .unset, .unset] [(.ref a1)]))
  refine own_astore (pc' := 10) X5 hx #[.val (.long p1), .second, .val (.long p2), .second, .val (.int p3), .val (.ref a1), .unset, .unset, .unset] rfl rfl (hb hby at_8) rfl ?_
  refine own_aload (pc' := 12) X5 hx rfl rfl (hb hby at_10) rfl ?_
  have kq8 : (0 : Int64).toInt = 0 := by decide
  obtain ⟨cq7, kq7, q7a, q7b, q7c⟩ := isOf hZ rfl Ec5_a1
  obtain ⟨_, _, ⟨T7, L7, k7, n7⟩, -, X7, ⟨Lc7, hQ7, l7, y7, z7⟩, st7⟩ := X5.virtualBack hx (y := (⟨"com/example/sigillum/sigillum/ld/Work", "exceeded", "()Z"⟩ : MethodName)) (z := (⟨"com/example/sigillum/sigillum/ld/Work", "exceeded", "()Z"⟩ : MethodName)) hown (mvT hZ (hw _ (List.mem_of_getElem? (i := 11) rfl))) (mvT hZ (hw _ (List.mem_of_getElem? (i := 12) rfl))) (notFace_of_selects (args := #[]) (mvT hZ (hw _ (List.mem_of_getElem? (i := 14) rfl)))) (mvT hZ (hw _ (List.mem_of_getElem? (i := 14) rfl))) (mvT hZ (hw _ (List.mem_of_getElem? (i := 13) rfl))) (by decide) (backOf (W := 0) (rm2 l Z a0 hw [] a1 p1 (0 : Int64) T5.heap n0 Z6 Fc5_0 Fc5_1) hZ (hw _ (List.mem_of_getElem? (i := 15) rfl)) (hw _ (List.mem_of_getElem? (i := 2) rfl)) (by decide) (by decide)) q7a q7c (g := (mkF m 12 #[.val (.long p1), .second, .val (.long p2), .second, .val (.int p3), .val (.ref a1), .unset, .unset, .unset] [(.ref a1)])) rfl (by rw [hml]; rfl) (Steps.refl _) (argsL := []) (rest := []) (lenOf pd_2 rfl) rfl (by show 2 * 0 + _ ≤ _; exact Nat.le_of_eq rfl) (hb hby at_12) (fun _ _ => ⟨rfl, rfl, (by decide : 1 + 0 ≤ _), (by decide : 2 + 0 ≤ _)⟩)
  dsimp only [Pt.U, Pt.locs, Pt.cells, Pt.slots] at X7 l7 y7 z7 st7 hQ7
  subst l7 y7 z7
  obtain ⟨o7, rfl, p7, N7, e7⟩ := hQ7
  have ro7 := rng32 o7
  have N7a := Fr.app N5a N7
  refine own_via st7 ?_
  show own_Go p e below (Q0 Z p1 p2 p3 h0 n0) (own_Fr s room_1.cells room_1.slots) (T7.setTop (mkF m 15 #[.val (.long p1), .second, .val (.long p2), .second, .val (.int p3), .val (.ref a1), .unset, .unset, .unset] [(.int o7)]))
  refine own_istore (pc' := 17) X7 hx #[.val (.long p1), .second, .val (.long p2), .second, .val (.int p3), .val (.ref a1), .val (.int o7), .unset, .unset] rfl (hb hby at_15) rfl ?_
  refine own_iload (pc' := 19) X7 hx rfl (hb hby at_17) rfl ?_
  refine own_lloadN (pc' := 20) X7 hx rfl (hb hby at_19) rfl ?_
  refine own_lconst (pc' := 21) X7 hx (0 : Int64) (by decide) (hb hby at_20) rfl ?_
  refine own_lcmp (pc' := 22) X7 hx rfl (hb hby at_21) rfl ?_
  by_cases b9 : p1.toInt < 0
  · refine own_ifNo (pc' := 25) X7 hx (own_lno_ge rfl (by decide) b9) (hb hby at_22) rfl ?_
    refine own_iconst (pc' := 26) X7 hx (1 : Int32) (by decide) (hb hby at_25) rfl ?_
    refine own_goto (pc' := 30) X7 hx (hb hby at_26) (by decide) (by decide) ?_
    have b10 : o7.toInt = 1 := by omega
    refine own_icmpYes (pc' := 35) X7 hx (hb hby at_30) (own_yes_eq rfl (by decide) b10) (by decide) (by decide) ?_
    refine own_iload (pc' := 37) X7 hx rfl (hb hby at_35) rfl ?_
    refine own_iconst (pc' := 38) X7 hx (1 : Int32) (by decide) (hb hby at_37) rfl ?_
    obtain ⟨v11, hv11⟩ : ∃ z, p3 &&& (1 : Int32) = z := ⟨_, rfl⟩
    have f12 : v11.toInt = p3.toInt % 2 := by rw [← hv11]; exact c_mask p3 (1 : Int32) 1 (by decide) (by decide)
    refine own_iand (pc' := 39) X7 hx (z := v11) hv11 (hb hby at_38) rfl ?_
    by_cases b13 : v11.toInt = 0
    · refine own_ifYes (pc' := 46) X7 hx (hb hby at_39) (own_z (own_yes_eq rfl (by decide) b13)) (by decide) (by decide) ?_
      refine own_lloadN (pc' := 47) X7 hx rfl (hb hby at_46) rfl ?_
      refine own_lloadN (pc' := 48) X7 hx rfl (hb hby at_47) rfl ?_
      obtain ⟨_, _, ⟨T14, L14, k14, n14⟩, -, X14, ⟨Lc14, hQ14, l14, y14, z14⟩, st14⟩ := Jvm.LawKit.callS X7 hx (y := (⟨"java/lang/Math", "min", "(JJ)J"⟩ : MethodName)) hown (mvT hZ (hw _ (List.mem_of_getElem? (i := 18) rfl))) (mvT hZ (hw _ (List.mem_of_getElem? (i := 19) rfl))) (mvT hZ (hw _ (List.mem_of_getElem? (i := 20) rfl))) (mvT hZ (hw _ (List.mem_of_getElem? (i := 21) rfl))) (by decide) (backOf (W := 0) (rm9 l Z a0 hw [] p2 p1 T5.heap n0 Z6 ) hZ (hw _ (List.mem_of_getElem? (i := 21) rfl)) (hw _ (List.mem_of_getElem? (i := 20) rfl)) (by decide) (by decide)) (g := (mkF m 48 #[.val (.long p1), .second, .val (.long p2), .second, .val (.int p3), .val (.ref a1), .val (.int o7), .unset, .unset] [(.long p1), (.long p2)])) rfl (by rw [hml]; rfl) (argsL := [(.long p2), (.long p1)]) (rest := []) (lenOf pd_0 rfl) rfl (by show 2 * 0 + _ ≤ _; exact Nat.le_of_eq rfl) (hb hby at_48) (fun _ _ => ⟨rfl, e7, (by decide : 1 + 0 ≤ _), (by decide : 2 + 0 ≤ _)⟩)
      dsimp only [Pt.U, Pt.locs, Pt.cells, Pt.slots] at X14 l14 y14 z14 st14 hQ14
      subst l14 y14 z14
      obtain ⟨o14, rfl, p14, N14, e14⟩ := hQ14
      have N14a := Fr.app N7a N14
      refine own_by st14 ?_
      show own_Go p e below (Q0 Z p1 p2 p3 h0 n0) (own_Fr s room_1.cells room_1.slots) (T14.setTop (mkF m 51 #[.val (.long p1), .second, .val (.long p2), .second, .val (.int p3), .val (.ref a1), .val (.int o7), .unset, .unset] [(.long o14)]))
      refine own_lstore (pc' := 53) X14 hx #[.val (.long p1), .second, .val (.long p2), .second, .val (.int p3), .val (.ref a1), .val (.int o7), .val (.long o14), .second] rfl (hb hby at_51) rfl ?_
      refine own_aload (pc' := 55) X14 hx rfl rfl (hb hby at_53) rfl ?_
      refine own_lload (pc' := 57) X14 hx rfl (hb hby at_55) rfl ?_
      have kq16 : (0 : Int64).toInt = 0 := by decide
      obtain ⟨cq15, kq15, q15a, q15b, q15c⟩ := isOf hZ e14 Ec5_a1
      obtain ⟨_, _, ⟨T15, L15, k15, n15⟩, -, X15, ⟨Lc15, hQ15, l15, y15, z15⟩, st15⟩ := X14.virtualBack hx (y := (⟨"com/example/sigillum/sigillum/ld/Work", "spend", "(J)V"⟩ : MethodName)) (z := (⟨"com/example/sigillum/sigillum/ld/Work", "spend", "(J)V"⟩ : MethodName)) hown (mvT hZ (hw _ (List.mem_of_getElem? (i := 22) rfl))) (mvT hZ (hw _ (List.mem_of_getElem? (i := 23) rfl))) (notFace_of_selects (args := #[]) (mvT hZ (hw _ (List.mem_of_getElem? (i := 25) rfl)))) (mvT hZ (hw _ (List.mem_of_getElem? (i := 25) rfl))) (mvT hZ (hw _ (List.mem_of_getElem? (i := 24) rfl))) (by decide) (backOf (W := 0) (rm4 l Z a0 hw [] a1 o14 p1 (0 : Int64) T5.heap n0 Z6 Ec5_a1 Fc5_0 Fc5_1 fr1 (by omega)) hZ (hw _ (List.mem_of_getElem? (i := 26) rfl)) (hw _ (List.mem_of_getElem? (i := 2) rfl)) (by decide) (by decide)) q15a q15c (g := (mkF m 57 #[.val (.long p1), .second, .val (.long p2), .second, .val (.int p3), .val (.ref a1), .val (.int o7), .val (.long o14), .second] [(.long o14), (.ref a1)])) rfl (by rw [hml]; rfl) (Steps.refl _) (argsL := [(.long o14)]) (rest := []) (lenOf pd_1 rfl) rfl (by show 2 * 0 + _ ≤ _; exact Nat.le_of_eq rfl) (hb hby at_57) (fun _ _ => ⟨rfl, e14, (by decide : 1 + 0 ≤ _), (by decide : 2 + 0 ≤ _)⟩)
      dsimp only [Pt.U, Pt.locs, Pt.cells, Pt.slots] at X15 l15 y15 z15 st15 hQ15
      subst l15 y15 z15
      obtain ⟨n5_15, rfl, p15, N15, Kc15, Ec15_a1, Fc15_0, Fc15_1⟩ := hQ15
      have Z17 : n0 ≤ T15.heap.size := Nat.le_trans Z6 Kc15.1
      have rn5_15 := rng64 n5_15
      have N15a := Fr.app N14a N15
      refine own_via st15 ?_
      show own_Go p e below (Q0 Z p1 p2 p3 h0 n0) (own_Fr s room_1.cells room_1.slots) (T15.setTop (mkF m 60 #[.val (.long p1), .second, .val (.long p2), .second, .val (.int p3), .val (.ref a1), .val (.int o7), .val (.long o14), .second] []))
      refine own_aload (pc' := 62) X15 hx rfl rfl (hb hby at_60) rfl ?_
      obtain ⟨cq18, kq18, q18a, q18b, q18c⟩ := isOf hZ rfl Ec15_a1
      obtain ⟨_, _, ⟨T18, L18, k18, n18⟩, -, X18, ⟨Lc18, hQ18, l18, y18, z18⟩, st18⟩ := X15.virtualBack hx (y := (⟨"com/example/sigillum/sigillum/ld/Work", "exceeded", "()Z"⟩ : MethodName)) (z := (⟨"com/example/sigillum/sigillum/ld/Work", "exceeded", "()Z"⟩ : MethodName)) hown (mvT hZ (hw _ (List.mem_of_getElem? (i := 11) rfl))) (mvT hZ (hw _ (List.mem_of_getElem? (i := 12) rfl))) (notFace_of_selects (args := #[]) (mvT hZ (hw _ (List.mem_of_getElem? (i := 14) rfl)))) (mvT hZ (hw _ (List.mem_of_getElem? (i := 14) rfl))) (mvT hZ (hw _ (List.mem_of_getElem? (i := 13) rfl))) (by decide) (backOf (W := 0) (rm2 l Z a0 hw [] a1 p1 n5_15 T15.heap n0 Z17 Fc15_0 Fc15_1) hZ (hw _ (List.mem_of_getElem? (i := 15) rfl)) (hw _ (List.mem_of_getElem? (i := 2) rfl)) (by decide) (by decide)) q18a q18c (g := (mkF m 62 #[.val (.long p1), .second, .val (.long p2), .second, .val (.int p3), .val (.ref a1), .val (.int o7), .val (.long o14), .second] [(.ref a1)])) rfl (by rw [hml]; rfl) (Steps.refl _) (argsL := []) (rest := []) (lenOf pd_2 rfl) rfl (by show 2 * 0 + _ ≤ _; exact Nat.le_of_eq rfl) (hb hby at_62) (fun _ _ => ⟨rfl, rfl, (by decide : 1 + 0 ≤ _), (by decide : 2 + 0 ≤ _)⟩)
      dsimp only [Pt.U, Pt.locs, Pt.cells, Pt.slots] at X18 l18 y18 z18 st18 hQ18
      subst l18 y18 z18
      obtain ⟨o18, rfl, p18, N18, e18⟩ := hQ18
      have ro18 := rng32 o18
      have N18a := Fr.app N15a N18
      refine own_via st18 ?_
      show own_Go p e below (Q0 Z p1 p2 p3 h0 n0) (own_Fr s room_1.cells room_1.slots) (T18.setTop (mkF m 65 #[.val (.long p1), .second, .val (.long p2), .second, .val (.int p3), .val (.ref a1), .val (.int o7), .val (.long o14), .second] [(.int o18)]))
      have b19 : o18.toInt = 0 := by omega
      refine own_ifNo (pc' := 68) X18 hx (own_z (own_no_ne rfl (by decide) b19)) (hb hby at_65) rfl ?_
      refine own_aload (pc' := 70) X18 hx rfl rfl (hb hby at_68) rfl ?_
      obtain ⟨cq20, kq20, q20a, q20b, q20c⟩ := isOf hZ e18 Ec15_a1
      obtain ⟨_, _, ⟨T20, L20, k20, n20⟩, -, X20, ⟨Lc20, hQ20, l20, y20, z20⟩, st20⟩ := X18.virtualBack hx (y := (⟨"com/example/sigillum/sigillum/ld/Work", "steps", "()J"⟩ : MethodName)) (z := (⟨"com/example/sigillum/sigillum/ld/Work", "steps", "()J"⟩ : MethodName)) hown (mvT hZ (hw _ (List.mem_of_getElem? (i := 28) rfl))) (mvT hZ (hw _ (List.mem_of_getElem? (i := 29) rfl))) (notFace_of_selects (args := #[]) (mvT hZ (hw _ (List.mem_of_getElem? (i := 31) rfl)))) (mvT hZ (hw _ (List.mem_of_getElem? (i := 31) rfl))) (mvT hZ (hw _ (List.mem_of_getElem? (i := 30) rfl))) (by decide) (backOf (W := 0) (rm3 l Z a0 hw [] a1 n5_15 T15.heap n0 Z17 Fc15_1) hZ (hw _ (List.mem_of_getElem? (i := 32) rfl)) (hw _ (List.mem_of_getElem? (i := 2) rfl)) (by decide) (by decide)) q20a q20c (g := (mkF m 70 #[.val (.long p1), .second, .val (.long p2), .second, .val (.int p3), .val (.ref a1), .val (.int o7), .val (.long o14), .second] [(.ref a1)])) rfl (by rw [hml]; rfl) (Steps.refl _) (argsL := []) (rest := []) (lenOf pd_3 rfl) rfl (by show 2 * 0 + _ ≤ _; exact Nat.le_of_eq rfl) (hb hby at_70) (fun _ _ => ⟨rfl, e18, (by decide : 1 + 0 ≤ _), (by decide : 2 + 0 ≤ _)⟩)
      dsimp only [Pt.U, Pt.locs, Pt.cells, Pt.slots] at X20 l20 y20 z20 st20 hQ20
      subst l20 y20 z20
      obtain ⟨o20, rfl, p20, N20, e20⟩ := hQ20
      have ro20 := rng64 o20
      have N20a := Fr.app N18a N20
      refine own_via st20 ?_
      show own_Go p e below (Q0 Z p1 p2 p3 h0 n0) (own_Fr s room_1.cells room_1.slots) (T20.setTop (mkF m 73 #[.val (.long p1), .second, .val (.long p2), .second, .val (.int p3), .val (.ref a1), .val (.int o7), .val (.long o14), .second] [(.long o20)]))
      refine own_lload (pc' := 75) X20 hx rfl (hb hby at_73) rfl ?_
      refine own_lcmp (pc' := 76) X20 hx rfl (hb hby at_75) rfl ?_
      have b21 : o20.toInt = o14.toInt := by omega
      refine own_ifNo (pc' := 79) X20 hx (own_lno_ne rfl rfl b21) (hb hby at_76) rfl ?_
      refine own_iconst (pc' := 80) X20 hx (1 : Int32) (by decide) (hb hby at_79) rfl ?_
      refine own_goto (pc' := 84) X20 hx (hb hby at_80) (by decide) (by decide) ?_
      refine own_ret X20 hx Bd.returns Bd.notSynchronized (Or.inl ⟨rfl, by simp, _, rfl⟩) (hb hby at_84) rfl (by decide) (by decide) ?_
      show Q0 Z p1 p2 p3 h0 n0 _ T20.heap _
      rw [e20]
      exact ⟨rfl, N20a⟩
    · refine own_ifNo (pc' := 42) X7 hx (own_z (own_no_eq rfl (by decide) b13)) (hb hby at_39) rfl ?_
      refine own_lloadN (pc' := 43) X7 hx rfl (hb hby at_42) rfl ?_
      refine own_goto (pc' := 51) X7 hx (hb hby at_43) (by decide) (by decide) ?_
      refine own_lstore (pc' := 53) X7 hx #[.val (.long p1), .second, .val (.long p2), .second, .val (.int p3), .val (.ref a1), .val (.int o7), .val (.long p1), .second] rfl (hb hby at_51) rfl ?_
      refine own_aload (pc' := 55) X7 hx rfl rfl (hb hby at_53) rfl ?_
      refine own_lload (pc' := 57) X7 hx rfl (hb hby at_55) rfl ?_
      have kq23 : (0 : Int64).toInt = 0 := by decide
      obtain ⟨cq22, kq22, q22a, q22b, q22c⟩ := isOf hZ e7 Ec5_a1
      obtain ⟨_, _, ⟨T22, L22, k22, n22⟩, -, X22, ⟨Lc22, hQ22, l22, y22, z22⟩, st22⟩ := X7.virtualBack hx (y := (⟨"com/example/sigillum/sigillum/ld/Work", "spend", "(J)V"⟩ : MethodName)) (z := (⟨"com/example/sigillum/sigillum/ld/Work", "spend", "(J)V"⟩ : MethodName)) hown (mvT hZ (hw _ (List.mem_of_getElem? (i := 22) rfl))) (mvT hZ (hw _ (List.mem_of_getElem? (i := 23) rfl))) (notFace_of_selects (args := #[]) (mvT hZ (hw _ (List.mem_of_getElem? (i := 25) rfl)))) (mvT hZ (hw _ (List.mem_of_getElem? (i := 25) rfl))) (mvT hZ (hw _ (List.mem_of_getElem? (i := 24) rfl))) (by decide) (backOf (W := 0) (rm4 l Z a0 hw [] a1 p1 p1 (0 : Int64) T5.heap n0 Z6 Ec5_a1 Fc5_0 Fc5_1 fr1 (by omega)) hZ (hw _ (List.mem_of_getElem? (i := 26) rfl)) (hw _ (List.mem_of_getElem? (i := 2) rfl)) (by decide) (by decide)) q22a q22c (g := (mkF m 57 #[.val (.long p1), .second, .val (.long p2), .second, .val (.int p3), .val (.ref a1), .val (.int o7), .val (.long p1), .second] [(.long p1), (.ref a1)])) rfl (by rw [hml]; rfl) (Steps.refl _) (argsL := [(.long p1)]) (rest := []) (lenOf pd_1 rfl) rfl (by show 2 * 0 + _ ≤ _; exact Nat.le_of_eq rfl) (hb hby at_57) (fun _ _ => ⟨rfl, e7, (by decide : 1 + 0 ≤ _), (by decide : 2 + 0 ≤ _)⟩)
      dsimp only [Pt.U, Pt.locs, Pt.cells, Pt.slots] at X22 l22 y22 z22 st22 hQ22
      subst l22 y22 z22
      obtain ⟨n5_22, rfl, p22, N22, Kc22, Ec22_a1, Fc22_0, Fc22_1⟩ := hQ22
      have Z24 : n0 ≤ T22.heap.size := Nat.le_trans Z6 Kc22.1
      have rn5_22 := rng64 n5_22
      have N22a := Fr.app N7a N22
      refine own_via st22 ?_
      show own_Go p e below (Q0 Z p1 p2 p3 h0 n0) (own_Fr s room_1.cells room_1.slots) (T22.setTop (mkF m 60 #[.val (.long p1), .second, .val (.long p2), .second, .val (.int p3), .val (.ref a1), .val (.int o7), .val (.long p1), .second] []))
      refine own_aload (pc' := 62) X22 hx rfl rfl (hb hby at_60) rfl ?_
      obtain ⟨cq25, kq25, q25a, q25b, q25c⟩ := isOf hZ rfl Ec22_a1
      obtain ⟨_, _, ⟨T25, L25, k25, n25⟩, -, X25, ⟨Lc25, hQ25, l25, y25, z25⟩, st25⟩ := X22.virtualBack hx (y := (⟨"com/example/sigillum/sigillum/ld/Work", "exceeded", "()Z"⟩ : MethodName)) (z := (⟨"com/example/sigillum/sigillum/ld/Work", "exceeded", "()Z"⟩ : MethodName)) hown (mvT hZ (hw _ (List.mem_of_getElem? (i := 11) rfl))) (mvT hZ (hw _ (List.mem_of_getElem? (i := 12) rfl))) (notFace_of_selects (args := #[]) (mvT hZ (hw _ (List.mem_of_getElem? (i := 14) rfl)))) (mvT hZ (hw _ (List.mem_of_getElem? (i := 14) rfl))) (mvT hZ (hw _ (List.mem_of_getElem? (i := 13) rfl))) (by decide) (backOf (W := 0) (rm2 l Z a0 hw [] a1 p1 n5_22 T22.heap n0 Z24 Fc22_0 Fc22_1) hZ (hw _ (List.mem_of_getElem? (i := 15) rfl)) (hw _ (List.mem_of_getElem? (i := 2) rfl)) (by decide) (by decide)) q25a q25c (g := (mkF m 62 #[.val (.long p1), .second, .val (.long p2), .second, .val (.int p3), .val (.ref a1), .val (.int o7), .val (.long p1), .second] [(.ref a1)])) rfl (by rw [hml]; rfl) (Steps.refl _) (argsL := []) (rest := []) (lenOf pd_2 rfl) rfl (by show 2 * 0 + _ ≤ _; exact Nat.le_of_eq rfl) (hb hby at_62) (fun _ _ => ⟨rfl, rfl, (by decide : 1 + 0 ≤ _), (by decide : 2 + 0 ≤ _)⟩)
      dsimp only [Pt.U, Pt.locs, Pt.cells, Pt.slots] at X25 l25 y25 z25 st25 hQ25
      subst l25 y25 z25
      obtain ⟨o25, rfl, p25, N25, e25⟩ := hQ25
      have ro25 := rng32 o25
      have N25a := Fr.app N22a N25
      refine own_via st25 ?_
      show own_Go p e below (Q0 Z p1 p2 p3 h0 n0) (own_Fr s room_1.cells room_1.slots) (T25.setTop (mkF m 65 #[.val (.long p1), .second, .val (.long p2), .second, .val (.int p3), .val (.ref a1), .val (.int o7), .val (.long p1), .second] [(.int o25)]))
      have b26 : o25.toInt = 0 := by omega
      refine own_ifNo (pc' := 68) X25 hx (own_z (own_no_ne rfl (by decide) b26)) (hb hby at_65) rfl ?_
      refine own_aload (pc' := 70) X25 hx rfl rfl (hb hby at_68) rfl ?_
      obtain ⟨cq27, kq27, q27a, q27b, q27c⟩ := isOf hZ e25 Ec22_a1
      obtain ⟨_, _, ⟨T27, L27, k27, n27⟩, -, X27, ⟨Lc27, hQ27, l27, y27, z27⟩, st27⟩ := X25.virtualBack hx (y := (⟨"com/example/sigillum/sigillum/ld/Work", "steps", "()J"⟩ : MethodName)) (z := (⟨"com/example/sigillum/sigillum/ld/Work", "steps", "()J"⟩ : MethodName)) hown (mvT hZ (hw _ (List.mem_of_getElem? (i := 28) rfl))) (mvT hZ (hw _ (List.mem_of_getElem? (i := 29) rfl))) (notFace_of_selects (args := #[]) (mvT hZ (hw _ (List.mem_of_getElem? (i := 31) rfl)))) (mvT hZ (hw _ (List.mem_of_getElem? (i := 31) rfl))) (mvT hZ (hw _ (List.mem_of_getElem? (i := 30) rfl))) (by decide) (backOf (W := 0) (rm3 l Z a0 hw [] a1 n5_22 T22.heap n0 Z24 Fc22_1) hZ (hw _ (List.mem_of_getElem? (i := 32) rfl)) (hw _ (List.mem_of_getElem? (i := 2) rfl)) (by decide) (by decide)) q27a q27c (g := (mkF m 70 #[.val (.long p1), .second, .val (.long p2), .second, .val (.int p3), .val (.ref a1), .val (.int o7), .val (.long p1), .second] [(.ref a1)])) rfl (by rw [hml]; rfl) (Steps.refl _) (argsL := []) (rest := []) (lenOf pd_3 rfl) rfl (by show 2 * 0 + _ ≤ _; exact Nat.le_of_eq rfl) (hb hby at_70) (fun _ _ => ⟨rfl, e25, (by decide : 1 + 0 ≤ _), (by decide : 2 + 0 ≤ _)⟩)
      dsimp only [Pt.U, Pt.locs, Pt.cells, Pt.slots] at X27 l27 y27 z27 st27 hQ27
      subst l27 y27 z27
      obtain ⟨o27, rfl, p27, N27, e27⟩ := hQ27
      have ro27 := rng64 o27
      have N27a := Fr.app N25a N27
      refine own_via st27 ?_
      show own_Go p e below (Q0 Z p1 p2 p3 h0 n0) (own_Fr s room_1.cells room_1.slots) (T27.setTop (mkF m 73 #[.val (.long p1), .second, .val (.long p2), .second, .val (.int p3), .val (.ref a1), .val (.int o7), .val (.long p1), .second] [(.long o27)]))
      refine own_lload (pc' := 75) X27 hx rfl (hb hby at_73) rfl ?_
      refine own_lcmp (pc' := 76) X27 hx rfl (hb hby at_75) rfl ?_
      have b28 : o27.toInt = p1.toInt := by omega
      refine own_ifNo (pc' := 79) X27 hx (own_lno_ne rfl rfl b28) (hb hby at_76) rfl ?_
      refine own_iconst (pc' := 80) X27 hx (1 : Int32) (by decide) (hb hby at_79) rfl ?_
      refine own_goto (pc' := 84) X27 hx (hb hby at_80) (by decide) (by decide) ?_
      refine own_ret X27 hx Bd.returns Bd.notSynchronized (Or.inl ⟨rfl, by simp, _, rfl⟩) (hb hby at_84) rfl (by decide) (by decide) ?_
      show Q0 Z p1 p2 p3 h0 n0 _ T27.heap _
      rw [e27]
      exact ⟨rfl, N27a⟩
  · refine own_ifYes (pc' := 29) X7 hx (hb hby at_22) (own_lyes_ge rfl (by decide) b9) (by decide) (by decide) ?_
    refine own_iconst (pc' := 30) X7 hx (0 : Int32) (by decide) (hb hby at_29) rfl ?_
    have b29 : o7.toInt = 0 := by omega
    refine own_icmpYes (pc' := 35) X7 hx (hb hby at_30) (own_yes_eq rfl (by decide) b29) (by decide) (by decide) ?_
    refine own_iload (pc' := 37) X7 hx rfl (hb hby at_35) rfl ?_
    refine own_iconst (pc' := 38) X7 hx (1 : Int32) (by decide) (hb hby at_37) rfl ?_
    obtain ⟨v30, hv30⟩ : ∃ z, p3 &&& (1 : Int32) = z := ⟨_, rfl⟩
    have f31 : v30.toInt = p3.toInt % 2 := by rw [← hv30]; exact c_mask p3 (1 : Int32) 1 (by decide) (by decide)
    refine own_iand (pc' := 39) X7 hx (z := v30) hv30 (hb hby at_38) rfl ?_
    by_cases b32 : v30.toInt = 0
    · refine own_ifYes (pc' := 46) X7 hx (hb hby at_39) (own_z (own_yes_eq rfl (by decide) b32)) (by decide) (by decide) ?_
      refine own_lloadN (pc' := 47) X7 hx rfl (hb hby at_46) rfl ?_
      refine own_lloadN (pc' := 48) X7 hx rfl (hb hby at_47) rfl ?_
      obtain ⟨_, _, ⟨T33, L33, k33, n33⟩, -, X33, ⟨Lc33, hQ33, l33, y33, z33⟩, st33⟩ := Jvm.LawKit.callS X7 hx (y := (⟨"java/lang/Math", "min", "(JJ)J"⟩ : MethodName)) hown (mvT hZ (hw _ (List.mem_of_getElem? (i := 18) rfl))) (mvT hZ (hw _ (List.mem_of_getElem? (i := 19) rfl))) (mvT hZ (hw _ (List.mem_of_getElem? (i := 20) rfl))) (mvT hZ (hw _ (List.mem_of_getElem? (i := 21) rfl))) (by decide) (backOf (W := 0) (rm9 l Z a0 hw [] p2 p1 T5.heap n0 Z6 ) hZ (hw _ (List.mem_of_getElem? (i := 21) rfl)) (hw _ (List.mem_of_getElem? (i := 20) rfl)) (by decide) (by decide)) (g := (mkF m 48 #[.val (.long p1), .second, .val (.long p2), .second, .val (.int p3), .val (.ref a1), .val (.int o7), .unset, .unset] [(.long p1), (.long p2)])) rfl (by rw [hml]; rfl) (argsL := [(.long p2), (.long p1)]) (rest := []) (lenOf pd_0 rfl) rfl (by show 2 * 0 + _ ≤ _; exact Nat.le_of_eq rfl) (hb hby at_48) (fun _ _ => ⟨rfl, e7, (by decide : 1 + 0 ≤ _), (by decide : 2 + 0 ≤ _)⟩)
      dsimp only [Pt.U, Pt.locs, Pt.cells, Pt.slots] at X33 l33 y33 z33 st33 hQ33
      subst l33 y33 z33
      obtain ⟨o33, rfl, p33, N33, e33⟩ := hQ33
      have N33a := Fr.app N7a N33
      refine own_by st33 ?_
      show own_Go p e below (Q0 Z p1 p2 p3 h0 n0) (own_Fr s room_1.cells room_1.slots) (T33.setTop (mkF m 51 #[.val (.long p1), .second, .val (.long p2), .second, .val (.int p3), .val (.ref a1), .val (.int o7), .unset, .unset] [(.long o33)]))
      refine own_lstore (pc' := 53) X33 hx #[.val (.long p1), .second, .val (.long p2), .second, .val (.int p3), .val (.ref a1), .val (.int o7), .val (.long o33), .second] rfl (hb hby at_51) rfl ?_
      refine own_aload (pc' := 55) X33 hx rfl rfl (hb hby at_53) rfl ?_
      refine own_lload (pc' := 57) X33 hx rfl (hb hby at_55) rfl ?_
      have kq35 : (0 : Int64).toInt = 0 := by decide
      obtain ⟨cq34, kq34, q34a, q34b, q34c⟩ := isOf hZ e33 Ec5_a1
      obtain ⟨_, _, ⟨T34, L34, k34, n34⟩, -, X34, ⟨Lc34, hQ34, l34, y34, z34⟩, st34⟩ := X33.virtualBack hx (y := (⟨"com/example/sigillum/sigillum/ld/Work", "spend", "(J)V"⟩ : MethodName)) (z := (⟨"com/example/sigillum/sigillum/ld/Work", "spend", "(J)V"⟩ : MethodName)) hown (mvT hZ (hw _ (List.mem_of_getElem? (i := 22) rfl))) (mvT hZ (hw _ (List.mem_of_getElem? (i := 23) rfl))) (notFace_of_selects (args := #[]) (mvT hZ (hw _ (List.mem_of_getElem? (i := 25) rfl)))) (mvT hZ (hw _ (List.mem_of_getElem? (i := 25) rfl))) (mvT hZ (hw _ (List.mem_of_getElem? (i := 24) rfl))) (by decide) (backOf (W := 0) (rm4 l Z a0 hw [] a1 o33 p1 (0 : Int64) T5.heap n0 Z6 Ec5_a1 Fc5_0 Fc5_1 fr1 (by omega)) hZ (hw _ (List.mem_of_getElem? (i := 26) rfl)) (hw _ (List.mem_of_getElem? (i := 2) rfl)) (by decide) (by decide)) q34a q34c (g := (mkF m 57 #[.val (.long p1), .second, .val (.long p2), .second, .val (.int p3), .val (.ref a1), .val (.int o7), .val (.long o33), .second] [(.long o33), (.ref a1)])) rfl (by rw [hml]; rfl) (Steps.refl _) (argsL := [(.long o33)]) (rest := []) (lenOf pd_1 rfl) rfl (by show 2 * 0 + _ ≤ _; exact Nat.le_of_eq rfl) (hb hby at_57) (fun _ _ => ⟨rfl, e33, (by decide : 1 + 0 ≤ _), (by decide : 2 + 0 ≤ _)⟩)
      dsimp only [Pt.U, Pt.locs, Pt.cells, Pt.slots] at X34 l34 y34 z34 st34 hQ34
      subst l34 y34 z34
      obtain ⟨n5_34, rfl, p34, N34, Kc34, Ec34_a1, Fc34_0, Fc34_1⟩ := hQ34
      have Z36 : n0 ≤ T34.heap.size := Nat.le_trans Z6 Kc34.1
      have rn5_34 := rng64 n5_34
      have N34a := Fr.app N33a N34
      refine own_via st34 ?_
      show own_Go p e below (Q0 Z p1 p2 p3 h0 n0) (own_Fr s room_1.cells room_1.slots) (T34.setTop (mkF m 60 #[.val (.long p1), .second, .val (.long p2), .second, .val (.int p3), .val (.ref a1), .val (.int o7), .val (.long o33), .second] []))
      refine own_aload (pc' := 62) X34 hx rfl rfl (hb hby at_60) rfl ?_
      obtain ⟨cq37, kq37, q37a, q37b, q37c⟩ := isOf hZ rfl Ec34_a1
      obtain ⟨_, _, ⟨T37, L37, k37, n37⟩, -, X37, ⟨Lc37, hQ37, l37, y37, z37⟩, st37⟩ := X34.virtualBack hx (y := (⟨"com/example/sigillum/sigillum/ld/Work", "exceeded", "()Z"⟩ : MethodName)) (z := (⟨"com/example/sigillum/sigillum/ld/Work", "exceeded", "()Z"⟩ : MethodName)) hown (mvT hZ (hw _ (List.mem_of_getElem? (i := 11) rfl))) (mvT hZ (hw _ (List.mem_of_getElem? (i := 12) rfl))) (notFace_of_selects (args := #[]) (mvT hZ (hw _ (List.mem_of_getElem? (i := 14) rfl)))) (mvT hZ (hw _ (List.mem_of_getElem? (i := 14) rfl))) (mvT hZ (hw _ (List.mem_of_getElem? (i := 13) rfl))) (by decide) (backOf (W := 0) (rm2 l Z a0 hw [] a1 p1 n5_34 T34.heap n0 Z36 Fc34_0 Fc34_1) hZ (hw _ (List.mem_of_getElem? (i := 15) rfl)) (hw _ (List.mem_of_getElem? (i := 2) rfl)) (by decide) (by decide)) q37a q37c (g := (mkF m 62 #[.val (.long p1), .second, .val (.long p2), .second, .val (.int p3), .val (.ref a1), .val (.int o7), .val (.long o33), .second] [(.ref a1)])) rfl (by rw [hml]; rfl) (Steps.refl _) (argsL := []) (rest := []) (lenOf pd_2 rfl) rfl (by show 2 * 0 + _ ≤ _; exact Nat.le_of_eq rfl) (hb hby at_62) (fun _ _ => ⟨rfl, rfl, (by decide : 1 + 0 ≤ _), (by decide : 2 + 0 ≤ _)⟩)
      dsimp only [Pt.U, Pt.locs, Pt.cells, Pt.slots] at X37 l37 y37 z37 st37 hQ37
      subst l37 y37 z37
      obtain ⟨o37, rfl, p37, N37, e37⟩ := hQ37
      have ro37 := rng32 o37
      have N37a := Fr.app N34a N37
      refine own_via st37 ?_
      show own_Go p e below (Q0 Z p1 p2 p3 h0 n0) (own_Fr s room_1.cells room_1.slots) (T37.setTop (mkF m 65 #[.val (.long p1), .second, .val (.long p2), .second, .val (.int p3), .val (.ref a1), .val (.int o7), .val (.long o33), .second] [(.int o37)]))
      have b38 : o37.toInt = 0 := by omega
      refine own_ifNo (pc' := 68) X37 hx (own_z (own_no_ne rfl (by decide) b38)) (hb hby at_65) rfl ?_
      refine own_aload (pc' := 70) X37 hx rfl rfl (hb hby at_68) rfl ?_
      obtain ⟨cq39, kq39, q39a, q39b, q39c⟩ := isOf hZ e37 Ec34_a1
      obtain ⟨_, _, ⟨T39, L39, k39, n39⟩, -, X39, ⟨Lc39, hQ39, l39, y39, z39⟩, st39⟩ := X37.virtualBack hx (y := (⟨"com/example/sigillum/sigillum/ld/Work", "steps", "()J"⟩ : MethodName)) (z := (⟨"com/example/sigillum/sigillum/ld/Work", "steps", "()J"⟩ : MethodName)) hown (mvT hZ (hw _ (List.mem_of_getElem? (i := 28) rfl))) (mvT hZ (hw _ (List.mem_of_getElem? (i := 29) rfl))) (notFace_of_selects (args := #[]) (mvT hZ (hw _ (List.mem_of_getElem? (i := 31) rfl)))) (mvT hZ (hw _ (List.mem_of_getElem? (i := 31) rfl))) (mvT hZ (hw _ (List.mem_of_getElem? (i := 30) rfl))) (by decide) (backOf (W := 0) (rm3 l Z a0 hw [] a1 n5_34 T34.heap n0 Z36 Fc34_1) hZ (hw _ (List.mem_of_getElem? (i := 32) rfl)) (hw _ (List.mem_of_getElem? (i := 2) rfl)) (by decide) (by decide)) q39a q39c (g := (mkF m 70 #[.val (.long p1), .second, .val (.long p2), .second, .val (.int p3), .val (.ref a1), .val (.int o7), .val (.long o33), .second] [(.ref a1)])) rfl (by rw [hml]; rfl) (Steps.refl _) (argsL := []) (rest := []) (lenOf pd_3 rfl) rfl (by show 2 * 0 + _ ≤ _; exact Nat.le_of_eq rfl) (hb hby at_70) (fun _ _ => ⟨rfl, e37, (by decide : 1 + 0 ≤ _), (by decide : 2 + 0 ≤ _)⟩)
      dsimp only [Pt.U, Pt.locs, Pt.cells, Pt.slots] at X39 l39 y39 z39 st39 hQ39
      subst l39 y39 z39
      obtain ⟨o39, rfl, p39, N39, e39⟩ := hQ39
      have ro39 := rng64 o39
      have N39a := Fr.app N37a N39
      refine own_via st39 ?_
      show own_Go p e below (Q0 Z p1 p2 p3 h0 n0) (own_Fr s room_1.cells room_1.slots) (T39.setTop (mkF m 73 #[.val (.long p1), .second, .val (.long p2), .second, .val (.int p3), .val (.ref a1), .val (.int o7), .val (.long o33), .second] [(.long o39)]))
      refine own_lload (pc' := 75) X39 hx rfl (hb hby at_73) rfl ?_
      refine own_lcmp (pc' := 76) X39 hx rfl (hb hby at_75) rfl ?_
      have b40 : o39.toInt = o33.toInt := by omega
      refine own_ifNo (pc' := 79) X39 hx (own_lno_ne rfl rfl b40) (hb hby at_76) rfl ?_
      refine own_iconst (pc' := 80) X39 hx (1 : Int32) (by decide) (hb hby at_79) rfl ?_
      refine own_goto (pc' := 84) X39 hx (hb hby at_80) (by decide) (by decide) ?_
      refine own_ret X39 hx Bd.returns Bd.notSynchronized (Or.inl ⟨rfl, by simp, _, rfl⟩) (hb hby at_84) rfl (by decide) (by decide) ?_
      show Q0 Z p1 p2 p3 h0 n0 _ T39.heap _
      rw [e39]
      exact ⟨rfl, N39a⟩
    · refine own_ifNo (pc' := 42) X7 hx (own_z (own_no_eq rfl (by decide) b32)) (hb hby at_39) rfl ?_
      refine own_lloadN (pc' := 43) X7 hx rfl (hb hby at_42) rfl ?_
      refine own_goto (pc' := 51) X7 hx (hb hby at_43) (by decide) (by decide) ?_
      refine own_lstore (pc' := 53) X7 hx #[.val (.long p1), .second, .val (.long p2), .second, .val (.int p3), .val (.ref a1), .val (.int o7), .val (.long p1), .second] rfl (hb hby at_51) rfl ?_
      refine own_aload (pc' := 55) X7 hx rfl rfl (hb hby at_53) rfl ?_
      refine own_lload (pc' := 57) X7 hx rfl (hb hby at_55) rfl ?_
      have kq42 : (0 : Int64).toInt = 0 := by decide
      obtain ⟨cq41, kq41, q41a, q41b, q41c⟩ := isOf hZ e7 Ec5_a1
      obtain ⟨_, _, ⟨T41, L41, k41, n41⟩, -, X41, ⟨Lc41, hQ41, l41, y41, z41⟩, st41⟩ := X7.virtualBack hx (y := (⟨"com/example/sigillum/sigillum/ld/Work", "spend", "(J)V"⟩ : MethodName)) (z := (⟨"com/example/sigillum/sigillum/ld/Work", "spend", "(J)V"⟩ : MethodName)) hown (mvT hZ (hw _ (List.mem_of_getElem? (i := 22) rfl))) (mvT hZ (hw _ (List.mem_of_getElem? (i := 23) rfl))) (notFace_of_selects (args := #[]) (mvT hZ (hw _ (List.mem_of_getElem? (i := 25) rfl)))) (mvT hZ (hw _ (List.mem_of_getElem? (i := 25) rfl))) (mvT hZ (hw _ (List.mem_of_getElem? (i := 24) rfl))) (by decide) (backOf (W := 0) (rm4 l Z a0 hw [] a1 p1 p1 (0 : Int64) T5.heap n0 Z6 Ec5_a1 Fc5_0 Fc5_1 fr1 (by omega)) hZ (hw _ (List.mem_of_getElem? (i := 26) rfl)) (hw _ (List.mem_of_getElem? (i := 2) rfl)) (by decide) (by decide)) q41a q41c (g := (mkF m 57 #[.val (.long p1), .second, .val (.long p2), .second, .val (.int p3), .val (.ref a1), .val (.int o7), .val (.long p1), .second] [(.long p1), (.ref a1)])) rfl (by rw [hml]; rfl) (Steps.refl _) (argsL := [(.long p1)]) (rest := []) (lenOf pd_1 rfl) rfl (by show 2 * 0 + _ ≤ _; exact Nat.le_of_eq rfl) (hb hby at_57) (fun _ _ => ⟨rfl, e7, (by decide : 1 + 0 ≤ _), (by decide : 2 + 0 ≤ _)⟩)
      dsimp only [Pt.U, Pt.locs, Pt.cells, Pt.slots] at X41 l41 y41 z41 st41 hQ41
      subst l41 y41 z41
      obtain ⟨n5_41, rfl, p41, N41, Kc41, Ec41_a1, Fc41_0, Fc41_1⟩ := hQ41
      have Z43 : n0 ≤ T41.heap.size := Nat.le_trans Z6 Kc41.1
      have rn5_41 := rng64 n5_41
      have N41a := Fr.app N7a N41
      refine own_via st41 ?_
      show own_Go p e below (Q0 Z p1 p2 p3 h0 n0) (own_Fr s room_1.cells room_1.slots) (T41.setTop (mkF m 60 #[.val (.long p1), .second, .val (.long p2), .second, .val (.int p3), .val (.ref a1), .val (.int o7), .val (.long p1), .second] []))
      refine own_aload (pc' := 62) X41 hx rfl rfl (hb hby at_60) rfl ?_
      obtain ⟨cq44, kq44, q44a, q44b, q44c⟩ := isOf hZ rfl Ec41_a1
      obtain ⟨_, _, ⟨T44, L44, k44, n44⟩, -, X44, ⟨Lc44, hQ44, l44, y44, z44⟩, st44⟩ := X41.virtualBack hx (y := (⟨"com/example/sigillum/sigillum/ld/Work", "exceeded", "()Z"⟩ : MethodName)) (z := (⟨"com/example/sigillum/sigillum/ld/Work", "exceeded", "()Z"⟩ : MethodName)) hown (mvT hZ (hw _ (List.mem_of_getElem? (i := 11) rfl))) (mvT hZ (hw _ (List.mem_of_getElem? (i := 12) rfl))) (notFace_of_selects (args := #[]) (mvT hZ (hw _ (List.mem_of_getElem? (i := 14) rfl)))) (mvT hZ (hw _ (List.mem_of_getElem? (i := 14) rfl))) (mvT hZ (hw _ (List.mem_of_getElem? (i := 13) rfl))) (by decide) (backOf (W := 0) (rm2 l Z a0 hw [] a1 p1 n5_41 T41.heap n0 Z43 Fc41_0 Fc41_1) hZ (hw _ (List.mem_of_getElem? (i := 15) rfl)) (hw _ (List.mem_of_getElem? (i := 2) rfl)) (by decide) (by decide)) q44a q44c (g := (mkF m 62 #[.val (.long p1), .second, .val (.long p2), .second, .val (.int p3), .val (.ref a1), .val (.int o7), .val (.long p1), .second] [(.ref a1)])) rfl (by rw [hml]; rfl) (Steps.refl _) (argsL := []) (rest := []) (lenOf pd_2 rfl) rfl (by show 2 * 0 + _ ≤ _; exact Nat.le_of_eq rfl) (hb hby at_62) (fun _ _ => ⟨rfl, rfl, (by decide : 1 + 0 ≤ _), (by decide : 2 + 0 ≤ _)⟩)
      dsimp only [Pt.U, Pt.locs, Pt.cells, Pt.slots] at X44 l44 y44 z44 st44 hQ44
      subst l44 y44 z44
      obtain ⟨o44, rfl, p44, N44, e44⟩ := hQ44
      have ro44 := rng32 o44
      have N44a := Fr.app N41a N44
      refine own_via st44 ?_
      show own_Go p e below (Q0 Z p1 p2 p3 h0 n0) (own_Fr s room_1.cells room_1.slots) (T44.setTop (mkF m 65 #[.val (.long p1), .second, .val (.long p2), .second, .val (.int p3), .val (.ref a1), .val (.int o7), .val (.long p1), .second] [(.int o44)]))
      have b45 : o44.toInt = 0 := by omega
      refine own_ifNo (pc' := 68) X44 hx (own_z (own_no_ne rfl (by decide) b45)) (hb hby at_65) rfl ?_
      refine own_aload (pc' := 70) X44 hx rfl rfl (hb hby at_68) rfl ?_
      obtain ⟨cq46, kq46, q46a, q46b, q46c⟩ := isOf hZ e44 Ec41_a1
      obtain ⟨_, _, ⟨T46, L46, k46, n46⟩, -, X46, ⟨Lc46, hQ46, l46, y46, z46⟩, st46⟩ := X44.virtualBack hx (y := (⟨"com/example/sigillum/sigillum/ld/Work", "steps", "()J"⟩ : MethodName)) (z := (⟨"com/example/sigillum/sigillum/ld/Work", "steps", "()J"⟩ : MethodName)) hown (mvT hZ (hw _ (List.mem_of_getElem? (i := 28) rfl))) (mvT hZ (hw _ (List.mem_of_getElem? (i := 29) rfl))) (notFace_of_selects (args := #[]) (mvT hZ (hw _ (List.mem_of_getElem? (i := 31) rfl)))) (mvT hZ (hw _ (List.mem_of_getElem? (i := 31) rfl))) (mvT hZ (hw _ (List.mem_of_getElem? (i := 30) rfl))) (by decide) (backOf (W := 0) (rm3 l Z a0 hw [] a1 n5_41 T41.heap n0 Z43 Fc41_1) hZ (hw _ (List.mem_of_getElem? (i := 32) rfl)) (hw _ (List.mem_of_getElem? (i := 2) rfl)) (by decide) (by decide)) q46a q46c (g := (mkF m 70 #[.val (.long p1), .second, .val (.long p2), .second, .val (.int p3), .val (.ref a1), .val (.int o7), .val (.long p1), .second] [(.ref a1)])) rfl (by rw [hml]; rfl) (Steps.refl _) (argsL := []) (rest := []) (lenOf pd_3 rfl) rfl (by show 2 * 0 + _ ≤ _; exact Nat.le_of_eq rfl) (hb hby at_70) (fun _ _ => ⟨rfl, e44, (by decide : 1 + 0 ≤ _), (by decide : 2 + 0 ≤ _)⟩)
      dsimp only [Pt.U, Pt.locs, Pt.cells, Pt.slots] at X46 l46 y46 z46 st46 hQ46
      subst l46 y46 z46
      obtain ⟨o46, rfl, p46, N46, e46⟩ := hQ46
      have ro46 := rng64 o46
      have N46a := Fr.app N44a N46
      refine own_via st46 ?_
      show own_Go p e below (Q0 Z p1 p2 p3 h0 n0) (own_Fr s room_1.cells room_1.slots) (T46.setTop (mkF m 73 #[.val (.long p1), .second, .val (.long p2), .second, .val (.int p3), .val (.ref a1), .val (.int o7), .val (.long p1), .second] [(.long o46)]))
      refine own_lload (pc' := 75) X46 hx rfl (hb hby at_73) rfl ?_
      refine own_lcmp (pc' := 76) X46 hx rfl (hb hby at_75) rfl ?_
      have b47 : o46.toInt = p1.toInt := by omega
      refine own_ifNo (pc' := 79) X46 hx (own_lno_ne rfl rfl b47) (hb hby at_76) rfl ?_
      refine own_iconst (pc' := 80) X46 hx (1 : Int32) (by decide) (hb hby at_79) rfl ?_
      refine own_goto (pc' := 84) X46 hx (hb hby at_80) (by decide) (by decide) ?_
      refine own_ret X46 hx Bd.returns Bd.notSynchronized (Or.inl ⟨rfl, by simp, _, rfl⟩) (hb hby at_84) rfl (by decide) (by decide) ?_
      show Q0 Z p1 p2 p3 h0 n0 _ T46.heap _
      rw [e46]
      exact ⟨rfl, N46a⟩
set_option maxRecDepth 65536 in
set_option maxHeartbeats 40000000 in
theorem comes_1 {Post : Tables → Env → Array Value → State → Outcome → State → Prop} (hpost : ∀ tb e args s v u, (limb_1_1.after args s (.returned v) u = true ∧ limb_1_2.after args s (.returned v) u = true ∧ True) → FrameEnd s (.returned v) u (Jvm.fieldLocs frame_1_writes args s ++ Jvm.arrayLocs frame_1_arrays args s ++ Jvm.staticLocs frame_1_statics s) 16 128 → Post tb e args s (.returned v) u) :
    ArmFor flags0 classFile x code maxLocals ret World_1 tables_1 room_1 Calls_1 rest_1 Pre_1 Post := by
  intro l hfl _ _ p e ha hc hk s m args below hf hA hF happ hP
  obtain ⟨hcalls, hrest, hpre⟩ := hP
  obtain ⟨-, -, -, hnamed, -, -, -, hat⟩ := (Spec.applies_iff hf).mp happ
  obtain ⟨hg, hn⟩ := and_e (Cond.before_iff.mp (show (Jvm.Cond.and given_1 narrow_1).before args s = true from hpre))
  obtain ⟨g0, gr0⟩ := and_e hg
  obtain ⟨g1, gr1⟩ := and_e gr0
  obtain ⟨g2, gr2⟩ := and_e gr1
  obtain ⟨w0, w1, w2, rfl⟩ : ∃ w0 w1 w2 : Value, args = #[w0, w1, w2] := by
    have hs : args.size = 3 := by simpa [Cond.value, given_1] using g0
    obtain ⟨L⟩ := args
    match L, hs with
    | [w0, w1, w2], _ => exact ⟨w0, w1, w2, rfl⟩
  have hw := fun d (hd : d ∈ tables_1) => atoms_spec (ws := Jvm.Cond.code x code maxLocals ret :: tables_1) hat d (List.mem_cons_of_mem _ hd)
  obtain ⟨i0, ev0⟩ := isL_v g1
  obtain rfl : w0 = (.long i0) := Option.some.inj ev0
  obtain ⟨i1, ev1⟩ := isL_v g2
  obtain rfl : w1 = (.long i1) := Option.some.inj ev1
  obtain ⟨i2, ev2⟩ := is_v gr2
  obtain rfl : w2 = (.int i2) := Option.some.inj ev2
  obtain ⟨n, o, h1, h2, h3, _, L, rfl, ⟨rfl, N⟩, hq⟩ := rm0 l s _ hw tables_1 i0 i1 i2  s.heap s.heap.size (Nat.le_refl _)  p e ha hc hk s m _ below hf ((Spec.applies_iff_loose hf).mp happ).1 ⟨rfl, State.Warmed39.refl s, rfl⟩ trivial
  refine ⟨n, _, h1, h2, h3, hpost _ _ _ _ _ _ ⟨Cond.after_iff.mpr rfl, Cond.after_iff.mpr (eq_i res_at (Term.int_eval (1)) rfl), trivial⟩ ⟨hq.1, hq.2.1, (hq.2.2.sift fun y hy => Or.inr (N y hy)).mono (by decide) (by decide)⟩⟩
theorem main_1_1 : Claimed_1_1 := comes_1 fun _ _ _ _ _ _ h hF => ⟨h.1, hF⟩
theorem main_1_2 : Claimed_1_2 := comes_1 fun _ _ _ _ _ _ h hF => ⟨h.2.1, hF⟩
end Jvm.Pilot.@@N@@
namespace Jvm.Pilot.@@N@@
open Jvm Jvm.ClassFile Sem Op Lib Jvm.Free Jvm.Stand Jvm.Pilot.@@N@@.Jvm.D
/-! MADE BY PROGRAM (witnessworld.py) out of the Statement's table words and the real class files: 10 classes; the members and pool entries that the words name. The judged class is class 1, her method 1. -/
namespace start1
open Jvm.ClassFile
def u (s : String) : CpInfo := .utf8 (stringToUtf16 s)
/-- a pool by its gaps: so many unusable entries, then the entry; so many at the end -/
def gap : Nat → List CpInfo → List CpInfo
  | 0, r => r
  | n + 1, r => .unusable :: gap n r
def poolList (es : List (Nat × CpInfo)) (last : Nat) : List CpInfo := es.foldr (fun e r => gap e.1 (e.2 :: r)) (gap last [])
def pool (es : List (Nat × CpInfo)) (last : Nat) : Array CpInfo := ⟨poolList es last⟩
def fileOf (pool : Array CpInfo) (this : Nat) (attrs : Array Attribute := #[]) (ms : Array MethodInfo := #[]) (fl : Nat := 33) (sup : Nat := 0) (ifs : Array Nat := #[]) (fds : Array FieldInfo := #[]) : ClassFile where
  minorVersion := 0
  majorVersion := 65
  constantPool := pool
  accessFlags := fl
  thisClass := this
  superClass := sup
  interfaces := ifs
  fields := fds
  methods := ms
  attributes := attrs
def plain (name : String) (sup : Option ClassId) : Class where
  name := name
  kind := .ordinary
  loader := none
  accessFlags := 33
  super := sup
  interfaces := #[]
  cf := none
  fields := #[]
  methods := #[]
  instanceTypes := #[]
  staticTypes := #[]
  resolved := #[]
  callSites := []
  init := .initialized
  statics := none
  mirror := none

def pool0 : Array CpInfo := pool [(5, u "<init>"), (0, u "()V"), (1, .class_ 10), (1, u "java/lang/Object")] 113

def k0c0 : Code := { maxStack := 0, maxLocals := 1, code := object_method_1_code, exceptionTable := #[], attributes := #[] }
def k0m0 : Method := { name := "<init>", desc := "()V", sig := { parameters := [], returnType := none }, accessFlags := 1, code := some k0c0 }
/-- java/lang/Object -/
def k0 : Class := { plain "java/lang/Object" none with
  accessFlags := 33
  interfaces := #[]
  cf := some (fileOf pool0 8 #[] #[{ accessFlags := 1, nameIndex := 5, descriptorIndex := 6, attributes := #[] }] 33 0 #[] #[])
  fields := #[]
  methods := #[k0m0]
  instanceTypes := #[]
  staticTypes := #[]
  resolved := Array.replicate 124 none
  statics := none }

def pool1 : Array CpInfo := pool [(2, .class_ 4), (1, u "java/lang/Object"), (0, u "<init>"), (0, u "()V"), (0, .class_ 8), (0, u "com/example/sigillum/sigillum/ld/Work"), (0, .methodref 7 10), (0, .nameAndType 5 11), (0, u "(J)V"), (0, .methodref 7 13), (0, .nameAndType 14 15), (0, u "exceeded"), (0, u "()Z"), (0, .methodref 17 18), (0, .class_ 19), (0, .nameAndType 20 21), (0, u "java/lang/Math"), (0, u "min"), (0, u "(JJ)J"), (0, .methodref 7 23), (0, .nameAndType 24 11), (0, u "spend"), (0, .methodref 7 26), (0, .nameAndType 27 28), (0, u "steps"), (0, u "()J"), (0, .class_ 30), (0, u "com/example/sigillum/sigillum/ld/WorkExceededPinLaw"), (2, u "law"), (0, u "(JJI)Z")] 6

def k1m0 : Method := { name := "<init>", desc := "()V", sig := { parameters := [], returnType := none }, accessFlags := 1, code := none }
def k1c1 : Code := { maxStack := 5, maxLocals := 9, code := code, exceptionTable := #[], attributes := #[] }
def k1m1 : Method := { name := "law", desc := "(JJI)Z", sig := { parameters := [.long, .long, .int], returnType := some .boolean }, accessFlags := 9, code := some k1c1 }
/-- com/example/sigillum/sigillum/ld/WorkExceededPinLaw -/
def k1 : Class := { plain "com/example/sigillum/sigillum/ld/WorkExceededPinLaw" (some 0) with
  accessFlags := 49
  interfaces := #[]
  cf := some (fileOf pool1 29 #[] #[{ accessFlags := 1, nameIndex := 5, descriptorIndex := 6, attributes := #[] }, { accessFlags := 9, nameIndex := 33, descriptorIndex := 34, attributes := #[] }] 49 2 #[] #[])
  fields := #[]
  methods := #[k1m0, k1m1]
  instanceTypes := #[]
  staticTypes := #[]
  resolved := Array.replicate 41 none
  statics := none }

def pool2 : Array CpInfo := pool [(1, .methodref 2 3), (0, .class_ 4), (0, .nameAndType 5 6), (0, u "java/lang/Object"), (0, u "<init>"), (0, u "()V"), (0, .fieldref 8 9), (0, .class_ 10), (0, .nameAndType 11 12), (0, u "com/example/sigillum/sigillum/ld/Work"), (0, u "limit"), (0, u "J"), (0, .fieldref 8 14), (0, .nameAndType 15 12), (0, u "steps"), (0, .methodref 8 17), (0, .nameAndType 18 19), (0, u "exceeded"), (0, u "()Z"), (13, u "(J)V"), (2, u "spend"), (2, u "()J")] 17

def k2c0 : Code := { maxStack := 3, maxLocals := 3, code := prog_25_method_1_code, exceptionTable := #[], attributes := #[] }
def k2m0 : Method := { name := "<init>", desc := "(J)V", sig := { parameters := [.long], returnType := none }, accessFlags := 0, code := some k2c0 }
def k2c1 : Code := { maxStack := 5, maxLocals := 3, code := prog_25_method_2_code, exceptionTable := #[], attributes := #[] }
def k2m1 : Method := { name := "spend", desc := "(J)V", sig := { parameters := [.long], returnType := none }, accessFlags := 0, code := some k2c1 }
def k2c2 : Code := { maxStack := 2, maxLocals := 1, code := prog_25_method_3_code, exceptionTable := #[], attributes := #[] }
def k2m2 : Method := { name := "steps", desc := "()J", sig := { parameters := [], returnType := some .long }, accessFlags := 0, code := some k2c2 }
def k2c3 : Code := { maxStack := 4, maxLocals := 1, code := prog_25_method_4_code, exceptionTable := #[], attributes := #[] }
def k2m3 : Method := { name := "exceeded", desc := "()Z", sig := { parameters := [], returnType := some .boolean }, accessFlags := 0, code := some k2c3 }
/-- com/example/sigillum/sigillum/ld/Work -/
def k2 : Class := { plain "com/example/sigillum/sigillum/ld/Work" (some 0) with
  accessFlags := 48
  interfaces := #[]
  cf := some (fileOf pool2 8 #[] #[{ accessFlags := 0, nameIndex := 5, descriptorIndex := 33, attributes := #[] }, { accessFlags := 0, nameIndex := 36, descriptorIndex := 33, attributes := #[] }, { accessFlags := 0, nameIndex := 15, descriptorIndex := 39, attributes := #[] }, { accessFlags := 0, nameIndex := 18, descriptorIndex := 19, attributes := #[] }] 48 2 #[] #[{ accessFlags := 18, nameIndex := 11, descriptorIndex := 12, attributes := #[] }, { accessFlags := 2, nameIndex := 15, descriptorIndex := 12, attributes := #[] }])
  fields := #[{ name := "limit", type := .long, accessFlags := 18, slot := 0, constantValue := 0 }, { name := "steps", type := .long, accessFlags := 2, slot := 1, constantValue := 0 }]
  methods := #[k2m0, k2m1, k2m2, k2m3]
  instanceTypes := #[.long, .long]
  staticTypes := #[]
  resolved := Array.replicate 57 none
  statics := none }

def pool3 : Array CpInfo := pool [(1, .class_ 2), (0, u "java/lang/Math"), (1, .class_ 6), (1, u "java/lang/Object"), (0, u "<init>"), (0, u "()V"), (89, .class_ 100), (1, u "java/lang/Math$RandomNumberGeneratorHolder"), (20, u "(JJ)J"), (50, u "negativeZeroFloatBits"), (0, u "J"), (2, u "negativeZeroDoubleBits"), (24, u "min"), (43, u "$assertionsDisabled"), (0, u "Z"), (91, u "twoToTheDoubleScaleDown"), (0, u "D"), (4, u "twoToTheDoubleScaleUp"), (9, u "E"), (3, u "PI"), (2, u "TAU"), (2, u "DEGREES_TO_RADIANS"), (0, u "RADIANS_TO_DEGREES")] 94

def k3m0 : Method := { name := "<init>", desc := "()V", sig := { parameters := [], returnType := none }, accessFlags := 2, code := none }
def k3c1 : Code := { maxStack := 4, maxLocals := 4, code := jdk_29_method_70_code, exceptionTable := #[], attributes := #[] }
def k3m1 : Method := { name := "min", desc := "(JJ)J", sig := { parameters := [.long, .long], returnType := some .long }, accessFlags := 9, code := some k3c1 }
/-- java/lang/Math -/
def k3 : Class := { plain "java/lang/Math" (some 0) with
  accessFlags := 49
  interfaces := #[]
  cf := some (fileOf pool3 1 #[.nestMembers #[98]] #[{ accessFlags := 2, nameIndex := 7, descriptorIndex := 8, attributes := #[] }, { accessFlags := 9, nameIndex := 201, descriptorIndex := 121, attributes := #[] }] 49 4 #[] #[{ accessFlags := 25, nameIndex := 354, descriptorIndex := 339, attributes := #[] }, { accessFlags := 25, nameIndex := 358, descriptorIndex := 339, attributes := #[] }, { accessFlags := 25, nameIndex := 361, descriptorIndex := 339, attributes := #[] }, { accessFlags := 26, nameIndex := 364, descriptorIndex := 339, attributes := #[] }, { accessFlags := 26, nameIndex := 365, descriptorIndex := 339, attributes := #[] }, { accessFlags := 26, nameIndex := 172, descriptorIndex := 173, attributes := #[] }, { accessFlags := 26, nameIndex := 176, descriptorIndex := 173, attributes := #[] }, { accessFlags := 8, nameIndex := 344, descriptorIndex := 339, attributes := #[] }, { accessFlags := 8, nameIndex := 338, descriptorIndex := 339, attributes := #[] }, { accessFlags := 4120, nameIndex := 245, descriptorIndex := 246, attributes := #[] }])
  fields := #[{ name := "E", type := .double, accessFlags := 25, slot := 0, constantValue := 0 }, { name := "PI", type := .double, accessFlags := 25, slot := 1, constantValue := 0 }, { name := "TAU", type := .double, accessFlags := 25, slot := 2, constantValue := 0 }, { name := "DEGREES_TO_RADIANS", type := .double, accessFlags := 26, slot := 3, constantValue := 0 }, { name := "RADIANS_TO_DEGREES", type := .double, accessFlags := 26, slot := 4, constantValue := 0 }, { name := "negativeZeroFloatBits", type := .long, accessFlags := 26, slot := 5, constantValue := 0 }, { name := "negativeZeroDoubleBits", type := .long, accessFlags := 26, slot := 6, constantValue := 0 }, { name := "twoToTheDoubleScaleUp", type := .double, accessFlags := 8, slot := 7, constantValue := 0 }, { name := "twoToTheDoubleScaleDown", type := .double, accessFlags := 8, slot := 8, constantValue := 0 }, { name := "$assertionsDisabled", type := .boolean, accessFlags := 4120, slot := 9, constantValue := 0 }]
  methods := #[k3m0, k3m1]
  instanceTypes := #[]
  staticTypes := #[.double, .double, .double, .double, .double, .long, .long, .double, .double, .boolean]
  resolved := Array.replicate 460 none
  statics := none }

def pool4 : Array CpInfo := pool [(1, u "java/lang/Cloneable"), (0, .class_ 1), (0, u "java/lang/Object"), (0, .class_ 3)] 3

/-- java/lang/Cloneable -/
def k4 : Class := { plain "java/lang/Cloneable" (some 0) with
  accessFlags := 1537
  interfaces := #[]
  cf := some (fileOf pool4 2 #[] #[] 1537 4 #[] #[])
  fields := #[]
  methods := #[]
  instanceTypes := #[]
  staticTypes := #[]
  resolved := Array.replicate 8 none
  statics := none }

def pool5 : Array CpInfo := pool [(1, u "java/io/Serializable"), (0, .class_ 1), (0, u "java/lang/Object"), (0, .class_ 3)] 3

/-- java/io/Serializable -/
def k5 : Class := { plain "java/io/Serializable" (some 0) with
  accessFlags := 1537
  interfaces := #[]
  cf := some (fileOf pool5 2 #[] #[] 1537 4 #[] #[])
  fields := #[]
  methods := #[]
  instanceTypes := #[]
  staticTypes := #[]
  resolved := Array.replicate 8 none
  statics := none }

/-- the primitive byte -/
def k6 : Class := { plain "byte" none with kind := .primitive 'B', accessFlags := 0x411 }
/-- [B -/
def k7 : Class := { plain "[B" (some 0) with kind := .array 6 .byte, interfaces := #[4, 5], accessFlags := 1041 }

/-- the primitive int -/
def k8 : Class := { plain "int" none with kind := .primitive 'I', accessFlags := 0x411 }
/-- [I -/
def k9 : Class := { plain "[I" (some 0) with kind := .array 8 .int, interfaces := #[4, 5], accessFlags := 1041 }

def heap : Heap := #[]
def classes : Array Class := #[k0, k1, k2, k3, k4, k5, k6, k7, k8, k9]
def interned : List (Array UInt16 × Addr) := []
def slotsUsed : Nat := 0
def theMethod : MethodId := ⟨1, 1⟩
def args0 : Array Value := #[.long 5, .long 3, .int 2]
def aboutOver (below : List Frame) : State where
  vm := { classes := classes, interned := interned.toArray }
  heap := heap
  slotsUsed := slotsUsed
  threads := #[{ frames := .invoking theMethod args0 :: below }]
def below0 : List Frame := [.native { method := ⟨0, 0⟩, args := #[] }]
def about1 : State := aboutOver below0
def p0 : Program := .bare "" "" ""
def e0 : Env := launch0.env 0 0 0
theorem w_frames : about1.frames = Frame.invoking theMethod args0 :: below0 := rfl
set_option maxRecDepth 65536 in
theorem w_args : argsFit about1.vm theMethod args0 = true := by decide +kernel
set_option maxRecDepth 65536 in
theorem w_heap : heapFits about1 = true := by decide +kernel
set_option maxRecDepth 65536 in
theorem w_runnable : about1.curStatus? = some .runnable := by decide +kernel
set_option maxRecDepth 65536 in
theorem w_alone : about1.alone = true := by decide +kernel
set_option maxRecDepth 65536 in
theorem w_named : about1.methodNamed? x = some theMethod := by decide +kernel
set_option maxRecDepth 65536 in
theorem w_hears : about1.hears theMethod below0 = true := by decide +kernel
set_option maxRecDepth 65536 in
theorem w_ripe : about1.ripe theMethod args0 below0 = true := by decide +kernel
theorem w_running : about1.status = .running := rfl
set_option maxRecDepth 65536 in
theorem w_room : about1.hasRoom e0.platform room_1 = true :=
  launch0.hasRoom_least _ room_1 (by decide +kernel) (by decide +kernel) (by decide +kernel) (by decide +kernel) (by decide +kernel) (by decide +kernel)
theorem allAtoms_all (ts : List Jvm.Cond) (a : Array Jvm.Value) (st : Jvm.State) : (allAtoms ts).before a st = ts.all (fun c => c.before a st) := by
  induction ts with
  | nil => rfl
  | cons c t ih =>
    show (Jvm.Cond.and c (allAtoms t)).before a st = _
    rw [Jvm.Cond.before_and, ih, List.all_cons]
def words1 : List Jvm.Cond := Jvm.Cond.code x code maxLocals ret :: tables_1
/-- a 'code' word, met by the world's own term for the bytes: nothing is compared byte by byte -/
theorem code_word {y : MethodName} {bytes : ByteArray} {mx : Nat} {rt : Option FieldType} {a : Array Value} {s : State} {m : MethodId} {meth : Method} {c : Code} (h1 : s.methodNamed? y = some m) (h2 : s.vm.method? m = some meth) (h3 : meth.code = some c) (h4 : c.code = bytes)
    (h5 : (c.maxLocals == mx && c.exceptionTable.isEmpty && decide (c.maxStack ≤ mostOperands) && decide (meth.sig.returnType = rt) && !meth.locks && decide (parseMethodDescriptor y.desc = some meth.sig)) = true) : (Jvm.Cond.code y bytes mx rt).before a s = true := by
  simp only [Bool.and_eq_true, beq_iff_eq, Bool.not_eq_true', decide_eq_true_eq] at h5
  obtain ⟨⟨⟨⟨⟨g1, g2⟩, g3⟩, g4⟩, g5⟩, g6⟩ := h5
  simp [Cond.before, Cond.holds, Cond.value, h1, h2, h3, h4, g1, g2, g3, g4, g5, g6]
def isCode : Jvm.Cond → Bool
  | .code _ _ _ _ => true
  | _ => false
theorem all_split {L : List Jvm.Cond} {P : Jvm.Cond → Bool} (h1 : L.all (fun c => isCode c || P c) = true) (h2 : ∀ c ∈ L.filter isCode, P c = true) : L.all P = true := by
  refine List.all_eq_true.mpr fun c hc => ?_
  have h := List.all_eq_true.mp h1 c hc
  rcases Bool.eq_false_or_eq_true (isCode c) with hi | hi
  · exact h2 c (List.mem_filter.mpr ⟨hc, hi⟩)
  · simpa [hi] using h
set_option maxRecDepth 65536 in
theorem w_c0 : (Jvm.Cond.code x code maxLocals ret).before args0 about1 = true := code_word (m := ⟨1, 1⟩) (meth := k1m1) (c := k1c1) (by decide +kernel) rfl rfl rfl (by decide +kernel)
set_option maxRecDepth 65536 in
theorem w_c1 : (Jvm.Cond.code ({ cls := "com/example/sigillum/sigillum/ld/Work", name := "<init>", desc := "(J)V" } : Jvm.MethodName) prog_25_method_1_code (3 : Nat) (Option.none : Option Jvm.ClassFile.FieldType)).before args0 about1 = true := code_word (m := ⟨2, 0⟩) (meth := k2m0) (c := k2c0) (by decide +kernel) rfl rfl rfl (by decide +kernel)
set_option maxRecDepth 65536 in
theorem w_c2 : (Jvm.Cond.code ({ cls := "java/lang/Object", name := "<init>", desc := "()V" } : Jvm.MethodName) object_method_1_code (1 : Nat) (Option.none : Option Jvm.ClassFile.FieldType)).before args0 about1 = true := code_word (m := ⟨0, 0⟩) (meth := k0m0) (c := k0c0) (by decide +kernel) rfl rfl rfl (by decide +kernel)
set_option maxRecDepth 65536 in
theorem w_c3 : (Jvm.Cond.code ({ cls := "com/example/sigillum/sigillum/ld/Work", name := "exceeded", desc := "()Z" } : Jvm.MethodName) prog_25_method_4_code (1 : Nat) (Option.some Jvm.ClassFile.FieldType.boolean)).before args0 about1 = true := code_word (m := ⟨2, 3⟩) (meth := k2m3) (c := k2c3) (by decide +kernel) rfl rfl rfl (by decide +kernel)
set_option maxRecDepth 65536 in
theorem w_c4 : (Jvm.Cond.code ({ cls := "java/lang/Math", name := "min", desc := "(JJ)J" } : Jvm.MethodName) jdk_29_method_70_code (4 : Nat) (Option.some Jvm.ClassFile.FieldType.long)).before args0 about1 = true := code_word (m := ⟨3, 1⟩) (meth := k3m1) (c := k3c1) (by decide +kernel) rfl rfl rfl (by decide +kernel)
set_option maxRecDepth 65536 in
theorem w_c5 : (Jvm.Cond.code ({ cls := "com/example/sigillum/sigillum/ld/Work", name := "spend", desc := "(J)V" } : Jvm.MethodName) prog_25_method_2_code (3 : Nat) (Option.none : Option Jvm.ClassFile.FieldType)).before args0 about1 = true := code_word (m := ⟨2, 1⟩) (meth := k2m1) (c := k2c1) (by decide +kernel) rfl rfl rfl (by decide +kernel)
set_option maxRecDepth 65536 in
theorem w_c6 : (Jvm.Cond.code ({ cls := "com/example/sigillum/sigillum/ld/Work", name := "steps", desc := "()J" } : Jvm.MethodName) prog_25_method_3_code (1 : Nat) (Option.some Jvm.ClassFile.FieldType.long)).before args0 about1 = true := code_word (m := ⟨2, 2⟩) (meth := k2m2) (c := k2c2) (by decide +kernel) rfl rfl rfl (by decide +kernel)
def codes1 : List Jvm.Cond := [Jvm.Cond.code x code maxLocals ret, Jvm.Cond.code ({ cls := "com/example/sigillum/sigillum/ld/Work", name := "<init>", desc := "(J)V" } : Jvm.MethodName) prog_25_method_1_code (3 : Nat) (Option.none : Option Jvm.ClassFile.FieldType), Jvm.Cond.code ({ cls := "java/lang/Object", name := "<init>", desc := "()V" } : Jvm.MethodName) object_method_1_code (1 : Nat) (Option.none : Option Jvm.ClassFile.FieldType), Jvm.Cond.code ({ cls := "com/example/sigillum/sigillum/ld/Work", name := "exceeded", desc := "()Z" } : Jvm.MethodName) prog_25_method_4_code (1 : Nat) (Option.some Jvm.ClassFile.FieldType.boolean), Jvm.Cond.code ({ cls := "java/lang/Math", name := "min", desc := "(JJ)J" } : Jvm.MethodName) jdk_29_method_70_code (4 : Nat) (Option.some Jvm.ClassFile.FieldType.long), Jvm.Cond.code ({ cls := "com/example/sigillum/sigillum/ld/Work", name := "spend", desc := "(J)V" } : Jvm.MethodName) prog_25_method_2_code (3 : Nat) (Option.none : Option Jvm.ClassFile.FieldType), Jvm.Cond.code ({ cls := "com/example/sigillum/sigillum/ld/Work", name := "steps", desc := "()J" } : Jvm.MethodName) prog_25_method_3_code (1 : Nat) (Option.some Jvm.ClassFile.FieldType.long)]
set_option maxRecDepth 65536 in
theorem codes_eq : words1.filter isCode = codes1 := rfl
theorem w_codes : ∀ c ∈ words1.filter isCode, c.before args0 about1 = true := by
  rw [codes_eq]
  intro c hc
  simp only [codes1, List.mem_cons, List.not_mem_nil, or_false] at hc
  rcases hc with rfl | rfl | rfl | rfl | rfl | rfl | rfl
  · exact w_c0
  · exact w_c1
  · exact w_c2
  · exact w_c3
  · exact w_c4
  · exact w_c5
  · exact w_c6
set_option maxRecDepth 65536 in
theorem w_t1 : (words1.take 24).all (fun c => isCode c || c.before args0 about1) = true := by decide +kernel
set_option maxRecDepth 65536 in
theorem w_t2 : (words1.drop 24).all (fun c => isCode c || c.before args0 about1) = true := by decide +kernel
theorem w_tables : (allAtoms (Jvm.Cond.code x code maxLocals ret :: tables_1)).before args0 about1 = true := by
  rw [allAtoms_all]
  show words1.all (fun c => c.before args0 about1) = true
  refine all_split ?_ w_codes
  rw [← List.take_append_drop 24 words1, List.all_append, w_t1, w_t2]
  rfl
set_option maxRecDepth 65536 in
theorem w_case : (Jvm.Cond.and given_1 narrow_1).before args0 about1 = true := by decide +kernel
theorem w_applies : (headSpec (Jvm.Cond.code x code maxLocals ret :: tables_1) room_1).applies x e0.platform about1 = true :=
  (Spec.applies_iff w_frames).mpr ⟨w_running, w_runnable, w_alone, w_named, w_hears, w_ripe, w_room, w_tables⟩
theorem atStart : AtStart classFile x code maxLocals ret World_1 tables_1 room_1 Calls_1 rest_1 Pre_1 launch0 p0 e0 about1 theMethod args0 below0 :=
  ⟨lists_1, trivial, launch0.admits_env _ _ _, launch0.least_env, fairChoices_fair.cas, fairChoices_fair.clock, w_frames, w_args, w_heap, w_applies, trivial, trivial, w_case⟩
end start1
theorem witness_1 : WitnessClaimed_1 := ⟨start1.p0, start1.e0, start1.about1, start1.theMethod, start1.args0, start1.below0, start1.atStart⟩
end Jvm.Pilot.@@N@@
