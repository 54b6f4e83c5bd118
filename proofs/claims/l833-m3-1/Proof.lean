import JvmDerived
import JvmDerived.Pilot.@@N@@Statement
import JvmDerived.Pilot.@@N@@Code
set_option linter.unusedVariables false
set_option linter.unusedSimpArgs false
namespace Jvm.Pilot.@@N@@
open Jvm Jvm.ClassFile Sem Op Lib Jvm.Free Jvm.Stand Jvm.LawKit Jvm.RoadKit Bundle Jvm.Pilot.@@N@@.Jvm.D
section OwnKit
variable {p : Program} {l : Launch} {e : Env} {R : Room} {s : State} {m : MethodId} {args : Array Value} {below : List Frame} {meth : Method} {c : Code} {T : State} {locs : List Loc} {cells slots : Nat}
/-- from U the walk comes to its end, and there Q holds -/
def own_Go (p : Program) (e : Env) (below : List Frame) (Q : Option Value → Heap → List Loc → Prop) (F : List Loc → Outcome → State → Prop) (U : State) : Prop :=
  ∃ t o, Steps p.tables e below U t ∧ t.status = .running ∧ Ended t below o ∧ ∃ v L, o = .returned v ∧ Q v t.heap L ∧ F L o t
def own_Fr (s : State) (C S : Nat) (L : List Loc) (o : Outcome) (t : State) : Prop := FrameEnd s o t L C S
def own_FrW (s : State) (C S : Nat) (L : List Loc) (o : Outcome) (t : State) : Prop := ReturnedEndW s o t L C S
variable {Q : Option Value → Heap → List Loc → Prop} {F : List Loc → Outcome → State → Prop} {C S : Nat}
theorem own_by {U U' : State} (k : ∀ t, Steps p.tables e below U' t → Steps p.tables e below U t) (h : own_Go p e below Q F U') : own_Go p e below Q F U := by
  obtain ⟨t, o, h1, h2⟩ := h
  exact ⟨t, o, k t h1, h2⟩
theorem own_via {U U' : State} (k : Steps p.tables e below U U') (h : own_Go p e below Q F U') : own_Go p e below Q F U := own_by (fun _ q => k.trans q) h
theorem own_ret (X : Stand p l e R s m args below meth c T locs cells slots) (hx : p.tables.exec = Jvm.exec) {pc : Nat} {Ls : Array Slot} {w : Value} {t : FieldType} {i : Instr} {rest : List Value} (hret : meth.sig.returnType = some t) (hlocks : meth.locks = false)
    (hi : (i = .ireturn ∧ (t = .int ∨ t = .boolean ∨ t = .byte ∨ t = .char ∨ t = .short) ∧ ∃ z, w = .int z) ∨ (i = .lreturn ∧ t = .long ∧ ∃ z, w = .long z) ∨ (i = .dreturn ∧ t = .double ∧ ∃ z, w = .double z) ∨ (i = .freturn ∧ t = .float ∧ ∃ z, w = .float z) ∨ (i = .areturn ∧ t.isReference = true ∧ w.isRef = true))
    (hd : decode c.code pc = .ok (i, 1)) (hn : narrow t w = w) (hc : cells ≤ C) (hs : slots ≤ S) (hQ : Q (some w) T.heap locs) : own_Go p e below Q (own_Fr s C S) (T.setTop (mkF m pc Ls (w :: rest))) := by
  obtain ⟨fs, hr, hrun, hended, hW, hsame⟩ := X.leave (v := some w) (fun h => by rw [hret] at h; cases h) hlocks
  exact ⟨_, _, retOut X hx hret hn hi hd hr, hrun, hended, _, _, rfl, hQ, ⟨_, rfl⟩, hW, hsame.mono hc hs⟩
theorem own_ret0 (X : Stand p l e R s m args below meth c T locs cells slots) (hx : p.tables.exec = Jvm.exec) {pc : Nat} {Ls : Array Slot} {st : List Value} (hret : meth.sig.returnType = none) (hlocks : meth.locks = false)
    (hd : decode c.code pc = .ok (.return_, 1)) (hst : st = []) (hc : cells ≤ C) (hs : slots ≤ S) (hQ : Q none T.heap locs) : own_Go p e below Q (own_Fr s C S) (T.setTop (mkF m pc Ls st)) := by
  subst hst
  obtain ⟨fs, hr, hrun, hended, hW, hsame⟩ := X.leave (v := none) (fun _ => rfl) hlocks
  exact ⟨_, _, X.returnOut hx hret hd hr, hrun, hended, _, _, rfl, hQ, ⟨_, rfl⟩, hW, hsame.mono hc hs⟩
theorem own_retW {s : State} {vm₁ : Vm} {nn : Nat} (X : Stand p l e R (s.setVm vm₁) m args below meth c T locs cells slots) (hx : p.tables.exec = Jvm.exec) {pc : Nat} {Ls : Array Slot} {w : Value} {t : FieldType} {i : Instr} {rest : List Value} (hret : meth.sig.returnType = some t) (hlocks : meth.locks = false) (hS : s.Since vm₁ nn) (hk : nn ≤ T.heap.size)
    (hi : (i = .ireturn ∧ (t = .int ∨ t = .boolean ∨ t = .byte ∨ t = .char ∨ t = .short) ∧ ∃ z, w = .int z) ∨ (i = .lreturn ∧ t = .long ∧ ∃ z, w = .long z) ∨ (i = .dreturn ∧ t = .double ∧ ∃ z, w = .double z) ∨ (i = .freturn ∧ t = .float ∧ ∃ z, w = .float z) ∨ (i = .areturn ∧ t.isReference = true ∧ w.isRef = true))
    (hd : decode c.code pc = .ok (i, 1)) (hn : narrow t w = w) (hc : cells ≤ C) (hs : slots ≤ S) (hQ : Q (some w) T.heap locs) : own_Go p e below Q (own_FrW s C S) (T.setTop (mkF m pc Ls (w :: rest))) := by
  obtain ⟨fs, hr, hrun, hended, hW⟩ := X.leaveW hS hk (v := some w) (fun h => by rw [hret] at h; cases h) hlocks
  exact ⟨_, _, retOut X hx hret hn hi hd hr, hrun, hended, _, _, rfl, hQ, hW.1, hW.2.1, hW.2.2.1, hW.2.2.2.mono hc hs⟩
theorem own_nz {z : Int32} (h : z.toInt = 0 ∨ z.toInt = 1) : narrow .boolean (.int z) = .int z := by
  rcases h with h | h
  · obtain rfl : z = 0 := Int32.toInt_inj.mp h
    rfl
  · obtain rfl : z = 1 := Int32.toInt_inj.mp h
    rfl
theorem own_nb {z : Int32} (h : -128 ≤ z.toInt ∧ z.toInt < 128) : nar .byte z = z := by
  have q := c_i2b z
  exact Int32.toInt_inj.mp (by show z.toInt8.toInt32.toInt = z.toInt; omega)
theorem own_fb {z : Int32} (h : -128 ≤ z.toInt ∧ z.toInt < 128) : fits .byte (.int z) = true := by
  have q := fits_nar_byte z
  rw [show z.toInt8.toInt32 = z from own_nb h] at q
  exact q
theorem own_b01 {z : Int32} (h : z.toInt = 0 ∨ z.toInt = 1) : z = 0 ∨ z = 1 := h.imp (fun q => Int32.toInt_inj.mp q) (fun q => Int32.toInt_inj.mp q)
theorem own_nbool {z : Int32} (h : z.toInt = 0 ∨ z.toInt = 1) : nar .boolean z = z := by rcases own_b01 h with rfl | rfl <;> decide
theorem own_fbool {z : Int32} (h : z.toInt = 0 ∨ z.toInt = 1) : fits .boolean (.int z) = true := by rcases own_b01 h with rfl | rfl <;> decide
theorem own_lt {x y : Int32} : x.toInt < y.toInt ↔ x < y := Int32.lt_iff_toInt_lt.symm
theorem own_yes_lt {x y : Int32} {a b : Int} (ha : x.toInt = a) (hb : y.toInt = b) (h : a < b) : if_icmp.holds .lt x y = true := by subst ha hb; exact (tlt (own_lt.mp h)).1
theorem own_no_lt {x y : Int32} {a b : Int} (ha : x.toInt = a) (hb : y.toInt = b) (h : ¬ a < b) : if_icmp.holds .lt x y = false := by subst ha hb; exact (flt (fun q => h (own_lt.mpr q))).1
theorem own_yes_ge {x y : Int32} {a b : Int} (ha : x.toInt = a) (hb : y.toInt = b) (h : ¬ a < b) : if_icmp.holds .ge x y = true := by subst ha hb; exact (flt (fun q => h (own_lt.mpr q))).2.1
theorem own_no_ge {x y : Int32} {a b : Int} (ha : x.toInt = a) (hb : y.toInt = b) (h : a < b) : if_icmp.holds .ge x y = false := by subst ha hb; exact (tlt (own_lt.mp h)).2.1
theorem own_yes_gt {x y : Int32} {a b : Int} (ha : x.toInt = a) (hb : y.toInt = b) (h : b < a) : if_icmp.holds .gt x y = true := by subst ha hb; exact (tlt (own_lt.mp h)).2.2.1
theorem own_no_gt {x y : Int32} {a b : Int} (ha : x.toInt = a) (hb : y.toInt = b) (h : ¬ b < a) : if_icmp.holds .gt x y = false := by subst ha hb; exact (flt (fun q => h (own_lt.mpr q))).2.2.1
theorem own_yes_le {x y : Int32} {a b : Int} (ha : x.toInt = a) (hb : y.toInt = b) (h : ¬ b < a) : if_icmp.holds .le x y = true := by subst ha hb; exact (flt (fun q => h (own_lt.mpr q))).2.2.2
theorem own_no_le {x y : Int32} {a b : Int} (ha : x.toInt = a) (hb : y.toInt = b) (h : b < a) : if_icmp.holds .le x y = false := by subst ha hb; exact (tlt (own_lt.mp h)).2.2.2
theorem own_yes_eq {x y : Int32} {a b : Int} (ha : x.toInt = a) (hb : y.toInt = b) (h : a = b) : if_icmp.holds .eq x y = true := by subst ha hb; exact (teq (Int32.toInt_inj.mp h)).1
theorem own_no_eq {x y : Int32} {a b : Int} (ha : x.toInt = a) (hb : y.toInt = b) (h : ¬ a = b) : if_icmp.holds .eq x y = false := by subst ha hb; exact (feq (fun q => h (congrArg Int32.toInt q))).1
theorem own_yes_ne {x y : Int32} {a b : Int} (ha : x.toInt = a) (hb : y.toInt = b) (h : ¬ a = b) : if_icmp.holds .ne x y = true := by subst ha hb; exact (feq (fun q => h (congrArg Int32.toInt q))).2
theorem own_no_ne {x y : Int32} {a b : Int} (ha : x.toInt = a) (hb : y.toInt = b) (h : a = b) : if_icmp.holds .ne x y = false := by subst ha hb; exact (teq (Int32.toInt_inj.mp h)).2
theorem own_z {cd : ClassFile.Cond} {x : Int32} {b : Bool} (h : if_icmp.holds cd x 0 = b) : ifCond.holds cd x = b := (if0 cd x).trans h
theorem own_lcm {x y : Int64} {a b : Int} (ha : x.toInt = a) (hb : y.toInt = b) : (a < b ∧ (lcmpW x y).toInt = -1) ∨ (a = b ∧ (lcmpW x y).toInt = 0) ∨ (b < a ∧ (lcmpW x y).toInt = 1) := by
  subst ha hb
  obtain ⟨h1, h2, h3⟩ := c_lcmp x y
  omega
theorem own_ne0 {x : Int32} {a : Int} (ha : x.toInt = a) (h : ¬ a = 0) : x ≠ 0 := fun q => h (by rw [← ha, q]; rfl)
theorem own_iloadN (X : Stand p l e R s m args below meth c T locs cells slots) (hx : p.tables.exec = Jvm.exec) {pc pc' : Nat} {Ls : Array Slot} {st : List Value} {k : Fin 4} {v : Int32} (hl : Ls[k.val]? = some (.val (.int v))) (hd : decode c.code pc = .ok (.iload_n k, 1)) (hp : pc + 1 = pc') (h : own_Go p e below Q F (T.setTop (mkF m pc' Ls (.int v :: st)))) : own_Go p e below Q F (T.setTop (mkF m pc Ls st)) := by
  subst hp
  exact own_by (fun _ q => XS.iloadN X.here hx rfl hd hl q) h
theorem own_iload (X : Stand p l e R s m args below meth c T locs cells slots) (hx : p.tables.exec = Jvm.exec) {pc pc' : Nat} {Ls : Array Slot} {st : List Value} {k : Nat} {v : Int32} (hl : Ls[k]? = some (.val (.int v))) (hd : decode c.code pc = .ok (.iload k, 2)) (hp : pc + 2 = pc') (h : own_Go p e below Q F (T.setTop (mkF m pc' Ls (.int v :: st)))) : own_Go p e below Q F (T.setTop (mkF m pc Ls st)) := by
  subst hp
  exact own_by (fun _ q => XS.iload X.here hx rfl hd hl q) h
theorem own_lloadN (X : Stand p l e R s m args below meth c T locs cells slots) (hx : p.tables.exec = Jvm.exec) {pc pc' : Nat} {Ls : Array Slot} {st : List Value} {k : Fin 4} {v : Int64} (hl : Ls[k.val]? = some (.val (.long v))) (hd : decode c.code pc = .ok (.lload_n k, 1)) (hp : pc + 1 = pc') (h : own_Go p e below Q F (T.setTop (mkF m pc' Ls (.long v :: st)))) : own_Go p e below Q F (T.setTop (mkF m pc Ls st)) := by
  subst hp
  exact own_by (fun _ q => XS.lloadN X.here hx rfl hd hl q) h
theorem own_lload (X : Stand p l e R s m args below meth c T locs cells slots) (hx : p.tables.exec = Jvm.exec) {pc pc' : Nat} {Ls : Array Slot} {st : List Value} {k : Nat} {v : Int64} (hl : Ls[k]? = some (.val (.long v))) (hd : decode c.code pc = .ok (.lload k, 2)) (hp : pc + 2 = pc') (h : own_Go p e below Q F (T.setTop (mkF m pc' Ls (.long v :: st)))) : own_Go p e below Q F (T.setTop (mkF m pc Ls st)) := by
  subst hp
  exact own_by (fun _ q => XS.lload X.here hx rfl hd hl q) h
theorem own_aloadN (X : Stand p l e R s m args below meth c T locs cells slots) (hx : p.tables.exec = Jvm.exec) {pc pc' : Nat} {Ls : Array Slot} {st : List Value} {k : Fin 4} {v : Value} (hl : Ls[k.val]? = some (.val v)) (hv : v.isRef = true) (hd : decode c.code pc = .ok (.aload_n k, 1)) (hp : pc + 1 = pc') (h : own_Go p e below Q F (T.setTop (mkF m pc' Ls (v :: st)))) : own_Go p e below Q F (T.setTop (mkF m pc Ls st)) := by
  subst hp
  exact own_by (fun _ q => XS.aloadN X.here hx rfl hd hl hv q) h
theorem own_aload (X : Stand p l e R s m args below meth c T locs cells slots) (hx : p.tables.exec = Jvm.exec) {pc pc' : Nat} {Ls : Array Slot} {st : List Value} {k : Nat} {v : Value} (hl : Ls[k]? = some (.val v)) (hv : v.isRef = true) (hd : decode c.code pc = .ok (.aload k, 2)) (hp : pc + 2 = pc') (h : own_Go p e below Q F (T.setTop (mkF m pc' Ls (v :: st)))) : own_Go p e below Q F (T.setTop (mkF m pc Ls st)) := by
  subst hp
  exact own_by (fun _ q => XS.aload X.here hx rfl hd hl hv q) h
theorem own_iconst (X : Stand p l e R s m args below meth c T locs cells slots) (hx : p.tables.exec = Jvm.exec) {pc pc' : Nat} {Ls : Array Slot} {st : List Value} {i : Int} (z : Int32) (hz : Int32.ofInt i = z) (hd : decode c.code pc = .ok (.iconst i, 1)) (hp : pc + 1 = pc') (h : own_Go p e below Q F (T.setTop (mkF m pc' Ls (.int z :: st)))) : own_Go p e below Q F (T.setTop (mkF m pc Ls st)) := by
  subst hp hz
  exact own_by (fun _ q => XS.iconst X.here hx rfl hd q) h
theorem own_bipush (X : Stand p l e R s m args below meth c T locs cells slots) (hx : p.tables.exec = Jvm.exec) {pc pc' : Nat} {Ls : Array Slot} {st : List Value} {i : Int} (z : Int32) (hz : (Int8.ofInt i).toInt32 = z) (hd : decode c.code pc = .ok (.bipush i, 2)) (hp : pc + 2 = pc') (h : own_Go p e below Q F (T.setTop (mkF m pc' Ls (.int z :: st)))) : own_Go p e below Q F (T.setTop (mkF m pc Ls st)) := by
  subst hp hz
  exact own_by (fun _ q => XS.bipush X.here hx rfl hd q) h
theorem own_sipush (X : Stand p l e R s m args below meth c T locs cells slots) (hx : p.tables.exec = Jvm.exec) {pc pc' : Nat} {Ls : Array Slot} {st : List Value} {i : Int} (z : Int32) (hz : (Int16.ofInt i).toInt32 = z) (hd : decode c.code pc = .ok (.sipush i, 3)) (hp : pc + 3 = pc') (h : own_Go p e below Q F (T.setTop (mkF m pc' Ls (.int z :: st)))) : own_Go p e below Q F (T.setTop (mkF m pc Ls st)) := by
  subst hp hz
  exact own_by (fun _ q => XS.sipush X.here hx rfl hd q) h
theorem own_lconst (X : Stand p l e R s m args below meth c T locs cells slots) (hx : p.tables.exec = Jvm.exec) {pc pc' : Nat} {Ls : Array Slot} {st : List Value} {k : Fin 2} (z : Int64) (hz : Int64.ofNat k = z) (hd : decode c.code pc = .ok (.lconst k, 1)) (hp : pc + 1 = pc') (h : own_Go p e below Q F (T.setTop (mkF m pc' Ls (.long z :: st)))) : own_Go p e below Q F (T.setTop (mkF m pc Ls st)) := by
  subst hp hz
  exact own_by (fun _ q => XS.lconst X.here hx rfl hd q) h
theorem own_aconstNull (X : Stand p l e R s m args below meth c T locs cells slots) (hx : p.tables.exec = Jvm.exec) {pc pc' : Nat} {Ls : Array Slot} {st : List Value}  (hd : decode c.code pc = .ok (.aconst_null, 1)) (hp : pc + 1 = pc') (h : own_Go p e below Q F (T.setTop (mkF m pc' Ls (.null :: st)))) : own_Go p e below Q F (T.setTop (mkF m pc Ls st)) := by
  subst hp
  exact own_by (fun _ q => XS.aconstNull X.here hx rfl hd q) h
theorem own_iadd (X : Stand p l e R s m args below meth c T locs cells slots) (hx : p.tables.exec = Jvm.exec) {pc pc' : Nat} {Ls : Array Slot} {st : List Value} {x y z : Int32} (hz : x + y = z) (hd : decode c.code pc = .ok (.iadd, 1)) (hp : pc + 1 = pc') (h : own_Go p e below Q F (T.setTop (mkF m pc' Ls (.int z :: st)))) : own_Go p e below Q F (T.setTop (mkF m pc Ls (.int y :: .int x :: st))) := by
  subst hp hz
  exact own_by (fun _ q => XS.iadd X.here hx rfl hd rfl q) h
theorem own_isub (X : Stand p l e R s m args below meth c T locs cells slots) (hx : p.tables.exec = Jvm.exec) {pc pc' : Nat} {Ls : Array Slot} {st : List Value} {x y z : Int32} (hz : x - y = z) (hd : decode c.code pc = .ok (.isub, 1)) (hp : pc + 1 = pc') (h : own_Go p e below Q F (T.setTop (mkF m pc' Ls (.int z :: st)))) : own_Go p e below Q F (T.setTop (mkF m pc Ls (.int y :: .int x :: st))) := by
  subst hp hz
  exact own_by (fun _ q => XS.isub X.here hx rfl hd rfl q) h
theorem own_imul (X : Stand p l e R s m args below meth c T locs cells slots) (hx : p.tables.exec = Jvm.exec) {pc pc' : Nat} {Ls : Array Slot} {st : List Value} {x y z : Int32} (hz : x * y = z) (hd : decode c.code pc = .ok (.imul, 1)) (hp : pc + 1 = pc') (h : own_Go p e below Q F (T.setTop (mkF m pc' Ls (.int z :: st)))) : own_Go p e below Q F (T.setTop (mkF m pc Ls (.int y :: .int x :: st))) := by
  subst hp hz
  exact own_by (fun _ q => XS.imul X.here hx rfl hd rfl q) h
theorem own_iand (X : Stand p l e R s m args below meth c T locs cells slots) (hx : p.tables.exec = Jvm.exec) {pc pc' : Nat} {Ls : Array Slot} {st : List Value} {x y z : Int32} (hz : x &&& y = z) (hd : decode c.code pc = .ok (.iand, 1)) (hp : pc + 1 = pc') (h : own_Go p e below Q F (T.setTop (mkF m pc' Ls (.int z :: st)))) : own_Go p e below Q F (T.setTop (mkF m pc Ls (.int y :: .int x :: st))) := by
  subst hp hz
  exact own_by (fun _ q => XS.iand X.here hx rfl hd rfl q) h
theorem own_ior (X : Stand p l e R s m args below meth c T locs cells slots) (hx : p.tables.exec = Jvm.exec) {pc pc' : Nat} {Ls : Array Slot} {st : List Value} {x y z : Int32} (hz : x ||| y = z) (hd : decode c.code pc = .ok (.ior, 1)) (hp : pc + 1 = pc') (h : own_Go p e below Q F (T.setTop (mkF m pc' Ls (.int z :: st)))) : own_Go p e below Q F (T.setTop (mkF m pc Ls (.int y :: .int x :: st))) := by
  subst hp hz
  exact own_by (fun _ q => XS.ior X.here hx rfl hd rfl q) h
theorem own_ixor (X : Stand p l e R s m args below meth c T locs cells slots) (hx : p.tables.exec = Jvm.exec) {pc pc' : Nat} {Ls : Array Slot} {st : List Value} {x y z : Int32} (hz : x ^^^ y = z) (hd : decode c.code pc = .ok (.ixor, 1)) (hp : pc + 1 = pc') (h : own_Go p e below Q F (T.setTop (mkF m pc' Ls (.int z :: st)))) : own_Go p e below Q F (T.setTop (mkF m pc Ls (.int y :: .int x :: st))) := by
  subst hp hz
  exact own_by (fun _ q => XS.ixor X.here hx rfl hd rfl q) h
theorem own_ishl (X : Stand p l e R s m args below meth c T locs cells slots) (hx : p.tables.exec = Jvm.exec) {pc pc' : Nat} {Ls : Array Slot} {st : List Value} {x y z : Int32} (hz : x <<< (y &&& 31) = z) (hd : decode c.code pc = .ok (.ishl, 1)) (hp : pc + 1 = pc') (h : own_Go p e below Q F (T.setTop (mkF m pc' Ls (.int z :: st)))) : own_Go p e below Q F (T.setTop (mkF m pc Ls (.int y :: .int x :: st))) := by
  subst hp hz
  exact own_by (fun _ q => XS.ishl X.here hx rfl hd rfl q) h
theorem own_ishr (X : Stand p l e R s m args below meth c T locs cells slots) (hx : p.tables.exec = Jvm.exec) {pc pc' : Nat} {Ls : Array Slot} {st : List Value} {x y z : Int32} (hz : x >>> (y &&& 31) = z) (hd : decode c.code pc = .ok (.ishr, 1)) (hp : pc + 1 = pc') (h : own_Go p e below Q F (T.setTop (mkF m pc' Ls (.int z :: st)))) : own_Go p e below Q F (T.setTop (mkF m pc Ls (.int y :: .int x :: st))) := by
  subst hp hz
  exact own_by (fun _ q => XS.ishr X.here hx rfl hd rfl q) h
theorem own_iushr (X : Stand p l e R s m args below meth c T locs cells slots) (hx : p.tables.exec = Jvm.exec) {pc pc' : Nat} {Ls : Array Slot} {st : List Value} {x y z : Int32} (hz : (x.toUInt32 >>> (y &&& 31).toUInt32).toInt32 = z) (hd : decode c.code pc = .ok (.iushr, 1)) (hp : pc + 1 = pc') (h : own_Go p e below Q F (T.setTop (mkF m pc' Ls (.int z :: st)))) : own_Go p e below Q F (T.setTop (mkF m pc Ls (.int y :: .int x :: st))) := by
  subst hp hz
  exact own_by (fun _ q => XS.iushr X.here hx rfl hd rfl q) h
theorem own_idiv (X : Stand p l e R s m args below meth c T locs cells slots) (hx : p.tables.exec = Jvm.exec) {pc pc' : Nat} {Ls : Array Slot} {st : List Value} {x y z : Int32} (hy : y ≠ 0) (hz : x / y = z) (hd : decode c.code pc = .ok (.idiv, 1)) (hp : pc + 1 = pc') (h : own_Go p e below Q F (T.setTop (mkF m pc' Ls (.int z :: st)))) : own_Go p e below Q F (T.setTop (mkF m pc Ls (.int y :: .int x :: st))) := by
  subst hp hz
  exact own_by (fun _ q => XS.idiv X.here hx rfl hd rfl hy q) h
theorem own_irem (X : Stand p l e R s m args below meth c T locs cells slots) (hx : p.tables.exec = Jvm.exec) {pc pc' : Nat} {Ls : Array Slot} {st : List Value} {x y z : Int32} (hy : y ≠ 0) (hz : x % y = z) (hd : decode c.code pc = .ok (.irem, 1)) (hp : pc + 1 = pc') (h : own_Go p e below Q F (T.setTop (mkF m pc' Ls (.int z :: st)))) : own_Go p e below Q F (T.setTop (mkF m pc Ls (.int y :: .int x :: st))) := by
  subst hp hz
  exact own_by (fun _ q => iremM X hx rfl hd rfl hy q) h
theorem own_ladd (X : Stand p l e R s m args below meth c T locs cells slots) (hx : p.tables.exec = Jvm.exec) {pc pc' : Nat} {Ls : Array Slot} {st : List Value} {x y z : Int64} (hz : x + y = z) (hd : decode c.code pc = .ok (.ladd, 1)) (hp : pc + 1 = pc') (h : own_Go p e below Q F (T.setTop (mkF m pc' Ls (.long z :: st)))) : own_Go p e below Q F (T.setTop (mkF m pc Ls (.long y :: .long x :: st))) := by
  subst hp hz
  exact own_by (fun _ q => XS.ladd X.here hx rfl hd rfl q) h
theorem own_lsub (X : Stand p l e R s m args below meth c T locs cells slots) (hx : p.tables.exec = Jvm.exec) {pc pc' : Nat} {Ls : Array Slot} {st : List Value} {x y z : Int64} (hz : x - y = z) (hd : decode c.code pc = .ok (.lsub, 1)) (hp : pc + 1 = pc') (h : own_Go p e below Q F (T.setTop (mkF m pc' Ls (.long z :: st)))) : own_Go p e below Q F (T.setTop (mkF m pc Ls (.long y :: .long x :: st))) := by
  subst hp hz
  exact own_by (fun _ q => XS.lsub X.here hx rfl hd rfl q) h
theorem own_lmul (X : Stand p l e R s m args below meth c T locs cells slots) (hx : p.tables.exec = Jvm.exec) {pc pc' : Nat} {Ls : Array Slot} {st : List Value} {x y z : Int64} (hz : x * y = z) (hd : decode c.code pc = .ok (.lmul, 1)) (hp : pc + 1 = pc') (h : own_Go p e below Q F (T.setTop (mkF m pc' Ls (.long z :: st)))) : own_Go p e below Q F (T.setTop (mkF m pc Ls (.long y :: .long x :: st))) := by
  subst hp hz
  exact own_by (fun _ q => XS.lmul X.here hx rfl hd rfl q) h
theorem own_land (X : Stand p l e R s m args below meth c T locs cells slots) (hx : p.tables.exec = Jvm.exec) {pc pc' : Nat} {Ls : Array Slot} {st : List Value} {x y z : Int64} (hz : x &&& y = z) (hd : decode c.code pc = .ok (.land, 1)) (hp : pc + 1 = pc') (h : own_Go p e below Q F (T.setTop (mkF m pc' Ls (.long z :: st)))) : own_Go p e below Q F (T.setTop (mkF m pc Ls (.long y :: .long x :: st))) := by
  subst hp hz
  exact own_by (fun _ q => XS.land X.here hx rfl hd rfl q) h
theorem own_lor (X : Stand p l e R s m args below meth c T locs cells slots) (hx : p.tables.exec = Jvm.exec) {pc pc' : Nat} {Ls : Array Slot} {st : List Value} {x y z : Int64} (hz : x ||| y = z) (hd : decode c.code pc = .ok (.lor, 1)) (hp : pc + 1 = pc') (h : own_Go p e below Q F (T.setTop (mkF m pc' Ls (.long z :: st)))) : own_Go p e below Q F (T.setTop (mkF m pc Ls (.long y :: .long x :: st))) := by
  subst hp hz
  exact own_by (fun _ q => XS.lor X.here hx rfl hd rfl q) h
theorem own_lcmp (X : Stand p l e R s m args below meth c T locs cells slots) (hx : p.tables.exec = Jvm.exec) {pc pc' : Nat} {Ls : Array Slot} {st : List Value} {x y : Int64} {z : Int32} (hz : lcmpW x y = z) (hd : decode c.code pc = .ok (.lcmp, 1)) (hp : pc + 1 = pc') (h : own_Go p e below Q F (T.setTop (mkF m pc' Ls (.int z :: st)))) : own_Go p e below Q F (T.setTop (mkF m pc Ls (.long y :: .long x :: st))) := by
  subst hp hz
  exact own_by (fun _ q => XS.lcmp X.here hx rfl hd rfl q) h
theorem own_ineg (X : Stand p l e R s m args below meth c T locs cells slots) (hx : p.tables.exec = Jvm.exec) {pc pc' : Nat} {Ls : Array Slot} {st : List Value} {x z : Int32} (hz : -x = z) (hd : decode c.code pc = .ok (.ineg, 1)) (hp : pc + 1 = pc') (h : own_Go p e below Q F (T.setTop (mkF m pc' Ls (.int z :: st)))) : own_Go p e below Q F (T.setTop (mkF m pc Ls (.int x :: st))) := by
  subst hp hz
  exact own_by (fun _ q => XS.ineg X.here hx rfl hd rfl q) h
theorem own_i2l (X : Stand p l e R s m args below meth c T locs cells slots) (hx : p.tables.exec = Jvm.exec) {pc pc' : Nat} {Ls : Array Slot} {st : List Value} {x : Int32} {z : Int64} (hz : x.toInt64 = z) (hd : decode c.code pc = .ok (.i2l, 1)) (hp : pc + 1 = pc') (h : own_Go p e below Q F (T.setTop (mkF m pc' Ls (.long z :: st)))) : own_Go p e below Q F (T.setTop (mkF m pc Ls (.int x :: st))) := by
  subst hp hz
  exact own_by (fun _ q => XS.i2l X.here hx rfl hd rfl q) h
theorem own_l2i (X : Stand p l e R s m args below meth c T locs cells slots) (hx : p.tables.exec = Jvm.exec) {pc pc' : Nat} {Ls : Array Slot} {st : List Value} {x : Int64} {z : Int32} (hz : x.toInt32 = z) (hd : decode c.code pc = .ok (.l2i, 1)) (hp : pc + 1 = pc') (h : own_Go p e below Q F (T.setTop (mkF m pc' Ls (.int z :: st)))) : own_Go p e below Q F (T.setTop (mkF m pc Ls (.long x :: st))) := by
  subst hp hz
  exact own_by (fun _ q => XS.l2i X.here hx rfl hd rfl q) h
theorem own_i2b (X : Stand p l e R s m args below meth c T locs cells slots) (hx : p.tables.exec = Jvm.exec) {pc pc' : Nat} {Ls : Array Slot} {st : List Value} {x z : Int32} (hz : x.toInt8.toInt32 = z) (hd : decode c.code pc = .ok (.i2b, 1)) (hp : pc + 1 = pc') (h : own_Go p e below Q F (T.setTop (mkF m pc' Ls (.int z :: st)))) : own_Go p e below Q F (T.setTop (mkF m pc Ls (.int x :: st))) := by
  subst hp hz
  exact own_by (fun _ q => XS.i2b X.here hx rfl hd rfl q) h
theorem own_i2c (X : Stand p l e R s m args below meth c T locs cells slots) (hx : p.tables.exec = Jvm.exec) {pc pc' : Nat} {Ls : Array Slot} {st : List Value} {x z : Int32} (hz : x.toUInt32.toUInt16.toUInt32.toInt32 = z) (hd : decode c.code pc = .ok (.i2c, 1)) (hp : pc + 1 = pc') (h : own_Go p e below Q F (T.setTop (mkF m pc' Ls (.int z :: st)))) : own_Go p e below Q F (T.setTop (mkF m pc Ls (.int x :: st))) := by
  subst hp hz
  exact own_by (fun _ q => XS.i2c X.here hx rfl hd rfl q) h
theorem own_i2s (X : Stand p l e R s m args below meth c T locs cells slots) (hx : p.tables.exec = Jvm.exec) {pc pc' : Nat} {Ls : Array Slot} {st : List Value} {x z : Int32} (hz : x.toInt16.toInt32 = z) (hd : decode c.code pc = .ok (.i2s, 1)) (hp : pc + 1 = pc') (h : own_Go p e below Q F (T.setTop (mkF m pc' Ls (.int z :: st)))) : own_Go p e below Q F (T.setTop (mkF m pc Ls (.int x :: st))) := by
  subst hp hz
  exact own_by (fun _ q => XS.i2s X.here hx rfl hd rfl q) h
theorem own_dup (X : Stand p l e R s m args below meth c T locs cells slots) (hx : p.tables.exec = Jvm.exec) {pc pc' : Nat} {Ls : Array Slot} {st : List Value} {x : Value} (hc : x.category = 1) (hd : decode c.code pc = .ok (.dup, 1)) (hp : pc + 1 = pc') (h : own_Go p e below Q F (T.setTop (mkF m pc' Ls (x :: x :: st)))) : own_Go p e below Q F (T.setTop (mkF m pc Ls (x :: st))) := by
  subst hp
  exact own_by (fun _ q => XS.dup X.here hx rfl hd rfl hc q) h
theorem own_dupX1 (X : Stand p l e R s m args below meth c T locs cells slots) (hx : p.tables.exec = Jvm.exec) {pc pc' : Nat} {Ls : Array Slot} {st : List Value} {x y : Value} (hc : x.category = 1) (hc2 : y.category = 1) (hd : decode c.code pc = .ok (.dup_x1, 1)) (hp : pc + 1 = pc') (h : own_Go p e below Q F (T.setTop (mkF m pc' Ls (x :: y :: x :: st)))) : own_Go p e below Q F (T.setTop (mkF m pc Ls (x :: y :: st))) := by
  subst hp
  exact own_by (fun _ q => XS.dupX1 X.here hx rfl hd rfl hc hc2 q) h
theorem own_pop (X : Stand p l e R s m args below meth c T locs cells slots) (hx : p.tables.exec = Jvm.exec) {pc pc' : Nat} {Ls : Array Slot} {st : List Value} {x : Value} (hc : x.category = 1) (hd : decode c.code pc = .ok (.pop, 1)) (hp : pc + 1 = pc') (h : own_Go p e below Q F (T.setTop (mkF m pc' Ls st))) : own_Go p e below Q F (T.setTop (mkF m pc Ls (x :: st))) := by
  subst hp
  exact own_by (fun _ q => XS.pop X.here hx rfl hd rfl hc q) h
theorem own_istoreN (X : Stand p l e R s m args below meth c T locs cells slots) (hx : p.tables.exec = Jvm.exec) {pc pc' : Nat} {Ls : Array Slot} {st : List Value} {k : Fin 4} {x : Int32} (L' : Array Slot) (hl : storeLocals Ls k.val (.int x) = some L') (hd : decode c.code pc = .ok (.istore_n k, 1)) (hp : pc + 1 = pc') (h : own_Go p e below Q F (T.setTop (mkF m pc' L' st))) : own_Go p e below Q F (T.setTop (mkF m pc Ls (.int x :: st))) := by
  subst hp
  exact own_by (fun _ q => XS.istoreN X.here hx rfl hd rfl hl q) h
theorem own_istore (X : Stand p l e R s m args below meth c T locs cells slots) (hx : p.tables.exec = Jvm.exec) {pc pc' : Nat} {Ls : Array Slot} {st : List Value} {k : Nat} {x : Int32} (L' : Array Slot) (hl : storeLocals Ls k (.int x) = some L') (hd : decode c.code pc = .ok (.istore k, 2)) (hp : pc + 2 = pc') (h : own_Go p e below Q F (T.setTop (mkF m pc' L' st))) : own_Go p e below Q F (T.setTop (mkF m pc Ls (.int x :: st))) := by
  subst hp
  exact own_by (fun _ q => XS.istore X.here hx rfl hd rfl hl q) h
theorem own_lstoreN (X : Stand p l e R s m args below meth c T locs cells slots) (hx : p.tables.exec = Jvm.exec) {pc pc' : Nat} {Ls : Array Slot} {st : List Value} {k : Fin 4} {x : Int64} (L' : Array Slot) (hl : storeLocals Ls k.val (.long x) = some L') (hd : decode c.code pc = .ok (.lstore_n k, 1)) (hp : pc + 1 = pc') (h : own_Go p e below Q F (T.setTop (mkF m pc' L' st))) : own_Go p e below Q F (T.setTop (mkF m pc Ls (.long x :: st))) := by
  subst hp
  exact own_by (fun _ q => XS.lstoreN X.here hx rfl hd rfl hl q) h
theorem own_lstore (X : Stand p l e R s m args below meth c T locs cells slots) (hx : p.tables.exec = Jvm.exec) {pc pc' : Nat} {Ls : Array Slot} {st : List Value} {k : Nat} {x : Int64} (L' : Array Slot) (hl : storeLocals Ls k (.long x) = some L') (hd : decode c.code pc = .ok (.lstore k, 2)) (hp : pc + 2 = pc') (h : own_Go p e below Q F (T.setTop (mkF m pc' L' st))) : own_Go p e below Q F (T.setTop (mkF m pc Ls (.long x :: st))) := by
  subst hp
  exact own_by (fun _ q => XS.lstore X.here hx rfl hd rfl hl q) h
theorem own_astoreN (X : Stand p l e R s m args below meth c T locs cells slots) (hx : p.tables.exec = Jvm.exec) {pc pc' : Nat} {Ls : Array Slot} {st : List Value} {k : Fin 4} {x : Value} (L' : Array Slot) (hv : x.isRef = true) (hl : storeLocals Ls k.val x = some L') (hd : decode c.code pc = .ok (.astore_n k, 1)) (hp : pc + 1 = pc') (h : own_Go p e below Q F (T.setTop (mkF m pc' L' st))) : own_Go p e below Q F (T.setTop (mkF m pc Ls (x :: st))) := by
  subst hp
  exact own_by (fun _ q => XS.astoreN X.here hx rfl hd rfl hv hl q) h
theorem own_astore (X : Stand p l e R s m args below meth c T locs cells slots) (hx : p.tables.exec = Jvm.exec) {pc pc' : Nat} {Ls : Array Slot} {st : List Value} {k : Nat} {x : Value} (L' : Array Slot) (hv : x.isRef = true) (hl : storeLocals Ls k x = some L') (hd : decode c.code pc = .ok (.astore k, 2)) (hp : pc + 2 = pc') (h : own_Go p e below Q F (T.setTop (mkF m pc' L' st))) : own_Go p e below Q F (T.setTop (mkF m pc Ls (x :: st))) := by
  subst hp
  exact own_by (fun _ q => XS.astore X.here hx rfl hd rfl hv hl q) h
theorem own_iinc (X : Stand p l e R s m args below meth c T locs cells slots) (hx : p.tables.exec = Jvm.exec) {pc pc' : Nat} {Ls : Array Slot} {st : List Value} {k : Nat} {cst : Int} {x z : Int32} (L' : Array Slot) (hv : Ls[k]? = some (.val (.int x))) (hz : x + Int32.ofInt cst = z) (hl : storeLocals Ls k (.int z) = some L') (hd : decode c.code pc = .ok (.iinc k cst, 3)) (hp : pc + 3 = pc') (h : own_Go p e below Q F (T.setTop (mkF m pc' L' st))) : own_Go p e below Q F (T.setTop (mkF m pc Ls st)) := by
  subst hp hz
  exact own_by (fun _ q => XS.iinc X.here hx rfl hd hv hl q) h
theorem own_goto (X : Stand p l e R s m args below meth c T locs cells slots) (hx : p.tables.exec = Jvm.exec) {pc pc' : Nat} {Ls : Array Slot} {st : List Value} {o : Int}  (hd : decode c.code pc = .ok (.goto o, 3))  (ho : 0 ≤ (pc : Int) + o) (hp : ((pc : Int) + o).toNat = pc') (h : own_Go p e below Q F (T.setTop (mkF m pc' Ls st))) : own_Go p e below Q F (T.setTop (mkF m pc Ls st)) := by
  exact own_by (fun _ q => XS.goto X.here hx rfl rfl hd ho hp q) h
theorem own_ifYes (X : Stand p l e R s m args below meth c T locs cells slots) (hx : p.tables.exec = Jvm.exec) {pc pc' : Nat} {Ls : Array Slot} {st : List Value} {o : Int} {cd : ClassFile.Cond} {x : Int32} (hd : decode c.code pc = .ok (.ifCond cd o, 3)) (hc : ifCond.holds cd x = true) (ho : 0 ≤ (pc : Int) + o) (hp : ((pc : Int) + o).toNat = pc') (h : own_Go p e below Q F (T.setTop (mkF m pc' Ls st))) : own_Go p e below Q F (T.setTop (mkF m pc Ls (.int x :: st))) := by
  exact own_by (fun _ q => XS.ifYes X.here hx rfl rfl hd rfl hc ho hp q) h
theorem own_icmpYes (X : Stand p l e R s m args below meth c T locs cells slots) (hx : p.tables.exec = Jvm.exec) {pc pc' : Nat} {Ls : Array Slot} {st : List Value} {o : Int} {cd : ClassFile.Cond} {x y : Int32} (hd : decode c.code pc = .ok (.if_icmp cd o, 3)) (hc : if_icmp.holds cd x y = true) (ho : 0 ≤ (pc : Int) + o) (hp : ((pc : Int) + o).toNat = pc') (h : own_Go p e below Q F (T.setTop (mkF m pc' Ls st))) : own_Go p e below Q F (T.setTop (mkF m pc Ls (.int y :: .int x :: st))) := by
  exact own_by (fun _ q => XS.icmpYes X.here hx rfl rfl hd rfl hc ho hp q) h
theorem own_ifnullYes (X : Stand p l e R s m args below meth c T locs cells slots) (hx : p.tables.exec = Jvm.exec) {pc pc' : Nat} {Ls : Array Slot} {st : List Value} {o : Int}  (hd : decode c.code pc = .ok (.ifnull o, 3))  (ho : 0 ≤ (pc : Int) + o) (hp : ((pc : Int) + o).toNat = pc') (h : own_Go p e below Q F (T.setTop (mkF m pc' Ls st))) : own_Go p e below Q F (T.setTop (mkF m pc Ls (.null :: st))) := by
  exact own_by (fun _ q => XS.ifnullYes X.here hx rfl rfl hd rfl ho hp q) h
theorem own_ifnonnullYes (X : Stand p l e R s m args below meth c T locs cells slots) (hx : p.tables.exec = Jvm.exec) {pc pc' : Nat} {Ls : Array Slot} {st : List Value} {o : Int} {b : Addr} (hd : decode c.code pc = .ok (.ifnonnull o, 3))  (ho : 0 ≤ (pc : Int) + o) (hp : ((pc : Int) + o).toNat = pc') (h : own_Go p e below Q F (T.setTop (mkF m pc' Ls st))) : own_Go p e below Q F (T.setTop (mkF m pc Ls (.ref b :: st))) := by
  exact own_by (fun _ q => XS.ifnonnullYes X.here hx rfl rfl hd rfl ho hp q) h
theorem own_acmpYes (X : Stand p l e R s m args below meth c T locs cells slots) (hx : p.tables.exec = Jvm.exec) {pc pc' : Nat} {Ls : Array Slot} {st : List Value} {o : Int} {cd : ClassFile.ACond} {a b : Addr} (hd : decode c.code pc = .ok (.if_acmp cd o, 3)) (hc : if_acmp.holds cd (some a) (some b) = true) (ho : 0 ≤ (pc : Int) + o) (hp : ((pc : Int) + o).toNat = pc') (h : own_Go p e below Q F (T.setTop (mkF m pc' Ls st))) : own_Go p e below Q F (T.setTop (mkF m pc Ls (.ref b :: .ref a :: st))) := by
  exact own_by (fun _ q => XS.acmpYes X.here hx rfl rfl hd rfl hc ho hp q) h
theorem own_ifNo (X : Stand p l e R s m args below meth c T locs cells slots) (hx : p.tables.exec = Jvm.exec) {pc pc' : Nat} {Ls : Array Slot} {st : List Value} {cd : ClassFile.Cond} {x : Int32} {o : Int} (hc : ifCond.holds cd x = false) (hd : decode c.code pc = .ok (.ifCond cd o, 3)) (hp : pc + 3 = pc') (h : own_Go p e below Q F (T.setTop (mkF m pc' Ls st))) : own_Go p e below Q F (T.setTop (mkF m pc Ls (.int x :: st))) := by
  subst hp
  exact own_by (fun _ q => XS.ifNo X.here hx rfl hd rfl hc q) h
theorem own_icmpNo (X : Stand p l e R s m args below meth c T locs cells slots) (hx : p.tables.exec = Jvm.exec) {pc pc' : Nat} {Ls : Array Slot} {st : List Value} {cd : ClassFile.Cond} {x y : Int32} {o : Int} (hc : if_icmp.holds cd x y = false) (hd : decode c.code pc = .ok (.if_icmp cd o, 3)) (hp : pc + 3 = pc') (h : own_Go p e below Q F (T.setTop (mkF m pc' Ls st))) : own_Go p e below Q F (T.setTop (mkF m pc Ls (.int y :: .int x :: st))) := by
  subst hp
  exact own_by (fun _ q => XS.icmpNo X.here hx rfl hd rfl hc q) h
theorem own_ifnullNo (X : Stand p l e R s m args below meth c T locs cells slots) (hx : p.tables.exec = Jvm.exec) {pc pc' : Nat} {Ls : Array Slot} {st : List Value} {b : Addr} {o : Int}  (hd : decode c.code pc = .ok (.ifnull o, 3)) (hp : pc + 3 = pc') (h : own_Go p e below Q F (T.setTop (mkF m pc' Ls st))) : own_Go p e below Q F (T.setTop (mkF m pc Ls (.ref b :: st))) := by
  subst hp
  exact own_by (fun _ q => XS.ifnullNo X.here hx rfl hd rfl q) h
theorem own_ifnonnullNo (X : Stand p l e R s m args below meth c T locs cells slots) (hx : p.tables.exec = Jvm.exec) {pc pc' : Nat} {Ls : Array Slot} {st : List Value} {o : Int}  (hd : decode c.code pc = .ok (.ifnonnull o, 3)) (hp : pc + 3 = pc') (h : own_Go p e below Q F (T.setTop (mkF m pc' Ls st))) : own_Go p e below Q F (T.setTop (mkF m pc Ls (.null :: st))) := by
  subst hp
  exact own_by (fun _ q => XS.ifnonnullNo X.here hx rfl hd rfl q) h
theorem own_acmpNo (X : Stand p l e R s m args below meth c T locs cells slots) (hx : p.tables.exec = Jvm.exec) {pc pc' : Nat} {Ls : Array Slot} {st : List Value} {cd : ClassFile.ACond} {a b : Addr} {o : Int} (hc : if_acmp.holds cd (some a) (some b) = false) (hd : decode c.code pc = .ok (.if_acmp cd o, 3)) (hp : pc + 3 = pc') (h : own_Go p e below Q F (T.setTop (mkF m pc' Ls st))) : own_Go p e below Q F (T.setTop (mkF m pc Ls (.ref b :: .ref a :: st))) := by
  subst hp
  exact own_by (fun _ q => XS.acmpNo X.here hx rfl hd rfl hc q) h
theorem own_ldcInt (X : Stand p l e R s m args below meth c T locs cells slots) (hx : p.tables.exec = Jvm.exec) {pc pc' : Nat} {Ls : Array Slot} {st : List Value} {Z : State} {a0 : Array Value} {own : String} {index : Nat} {v : Int32} (hZ : Z.Warmed39 s.vm) (hown : s.vm.findClass own = some m.cls) (w : (Jvm.Cond.constant own index v).before a0 Z = true) (hd : decode c.code pc = .ok (.ldc index, 2)) (hp : pc + 2 = pc') (h : own_Go p e below Q F (T.setTop (mkF m pc' Ls (.int v :: st)))) : own_Go p e below Q F (T.setTop (mkF m pc Ls st)) := by
  subst hp
  exact own_by (fun _ q => X.ldcInt hx hown (mv hZ w) (g := mkF m pc Ls st) rfl hd _ q) h
theorem own_ldc2Long (X : Stand p l e R s m args below meth c T locs cells slots) (hx : p.tables.exec = Jvm.exec) {pc pc' : Nat} {Ls : Array Slot} {st : List Value} {Z : State} {a0 : Array Value} {own : String} {index : Nat} {v : Int64} (hZ : Z.Warmed39 s.vm) (hown : s.vm.findClass own = some m.cls) (w : (Jvm.Cond.constantLong own index v).before a0 Z = true) (hd : decode c.code pc = .ok (.ldc2_w index, 3)) (hp : pc + 3 = pc') (h : own_Go p e below Q F (T.setTop (mkF m pc' Ls (.long v :: st)))) : own_Go p e below Q F (T.setTop (mkF m pc Ls st)) := by
  subst hp
  exact own_by (fun _ q => X.ldc2Long hx hown (mv hZ w) (g := mkF m pc Ls st) rfl hd _ q) h
theorem own_lyes_lt {x y : Int64} {a b : Int} (ha : x.toInt = a) (hb : y.toInt = b) (h : a < b) : ifCond.holds .lt (lcmpW x y) = true := by
  have q := own_lcm ha hb
  have r :  (lcmpW x y).toInt < 0 := by omega
  exact own_z (own_yes_lt rfl rfl r)
theorem own_lno_lt {x y : Int64} {a b : Int} (ha : x.toInt = a) (hb : y.toInt = b) (h : ¬ a < b) : ifCond.holds .lt (lcmpW x y) = false := by
  have q := own_lcm ha hb
  have r : ¬ (lcmpW x y).toInt < 0 := by omega
  exact own_z (own_no_lt rfl rfl r)
theorem own_lyes_ge {x y : Int64} {a b : Int} (ha : x.toInt = a) (hb : y.toInt = b) (h : ¬ a < b) : ifCond.holds .ge (lcmpW x y) = true := by
  have q := own_lcm ha hb
  have r : ¬ (lcmpW x y).toInt < 0 := by omega
  exact own_z (own_yes_ge rfl rfl r)
theorem own_lno_ge {x y : Int64} {a b : Int} (ha : x.toInt = a) (hb : y.toInt = b) (h : a < b) : ifCond.holds .ge (lcmpW x y) = false := by
  have q := own_lcm ha hb
  have r :  (lcmpW x y).toInt < 0 := by omega
  exact own_z (own_no_ge rfl rfl r)
theorem own_lyes_gt {x y : Int64} {a b : Int} (ha : x.toInt = a) (hb : y.toInt = b) (h : b < a) : ifCond.holds .gt (lcmpW x y) = true := by
  have q := own_lcm ha hb
  have r :  0 < (lcmpW x y).toInt := by omega
  exact own_z (own_yes_gt rfl rfl r)
theorem own_lno_gt {x y : Int64} {a b : Int} (ha : x.toInt = a) (hb : y.toInt = b) (h : ¬ b < a) : ifCond.holds .gt (lcmpW x y) = false := by
  have q := own_lcm ha hb
  have r : ¬ 0 < (lcmpW x y).toInt := by omega
  exact own_z (own_no_gt rfl rfl r)
theorem own_lyes_le {x y : Int64} {a b : Int} (ha : x.toInt = a) (hb : y.toInt = b) (h : ¬ b < a) : ifCond.holds .le (lcmpW x y) = true := by
  have q := own_lcm ha hb
  have r : ¬ 0 < (lcmpW x y).toInt := by omega
  exact own_z (own_yes_le rfl rfl r)
theorem own_lno_le {x y : Int64} {a b : Int} (ha : x.toInt = a) (hb : y.toInt = b) (h : b < a) : ifCond.holds .le (lcmpW x y) = false := by
  have q := own_lcm ha hb
  have r :  0 < (lcmpW x y).toInt := by omega
  exact own_z (own_no_le rfl rfl r)
theorem own_lyes_eq {x y : Int64} {a b : Int} (ha : x.toInt = a) (hb : y.toInt = b) (h : a = b) : ifCond.holds .eq (lcmpW x y) = true := by
  have q := own_lcm ha hb
  have r :  (lcmpW x y).toInt = 0 := by omega
  exact own_z (own_yes_eq rfl rfl r)
theorem own_lno_eq {x y : Int64} {a b : Int} (ha : x.toInt = a) (hb : y.toInt = b) (h : ¬ a = b) : ifCond.holds .eq (lcmpW x y) = false := by
  have q := own_lcm ha hb
  have r : ¬ (lcmpW x y).toInt = 0 := by omega
  exact own_z (own_no_eq rfl rfl r)
theorem own_lyes_ne {x y : Int64} {a b : Int} (ha : x.toInt = a) (hb : y.toInt = b) (h : ¬ a = b) : ifCond.holds .ne (lcmpW x y) = true := by
  have q := own_lcm ha hb
  have r : ¬ (lcmpW x y).toInt = 0 := by omega
  exact own_z (own_yes_ne rfl rfl r)
theorem own_lno_ne {x y : Int64} {a b : Int} (ha : x.toInt = a) (hb : y.toInt = b) (h : a = b) : ifCond.holds .ne (lcmpW x y) = false := by
  have q := own_lcm ha hb
  have r :  (lcmpW x y).toInt = 0 := by omega
  exact own_z (own_no_ne rfl rfl r)
theorem own_tswIn (X : Stand p l e R s m args below meth c T locs cells slots) (hx : p.tables.exec = Jvm.exec) {pc pc' : Nat} {Ls : Array Slot} {st : List Value} {dflt low high : Int} {offs : Array Int} {len : Nat} (o : Int) {i : Int32} (hd : decode c.code pc = .ok (.tableswitch dflt low high offs, len)) (hin : ¬ (i.toInt < low ∨ i.toInt > high)) (hoff : offs[(i.toInt - low).toNat]? = some o) (ho : 0 ≤ (pc : Int) + o) (hp : ((pc : Int) + o).toNat = pc') (h : own_Go p e below Q F (T.setTop (mkF m pc' Ls st))) : own_Go p e below Q F (T.setTop (mkF m pc Ls (.int i :: st))) := by
  exact own_by (fun _ q => XS.tswIn X.here hx rfl rfl hd rfl hin hoff ho hp q) h
theorem own_tswOut (X : Stand p l e R s m args below meth c T locs cells slots) (hx : p.tables.exec = Jvm.exec) {pc pc' : Nat} {Ls : Array Slot} {st : List Value} {dflt low high : Int} {offs : Array Int} {len : Nat} {i : Int32} (hd : decode c.code pc = .ok (.tableswitch dflt low high offs, len)) (hout : i.toInt < low ∨ i.toInt > high) (ho : 0 ≤ (pc : Int) + dflt) (hp : ((pc : Int) + dflt).toNat = pc') (h : own_Go p e below Q F (T.setTop (mkF m pc' Ls st))) : own_Go p e below Q F (T.setTop (mkF m pc Ls (.int i :: st))) := by
  exact own_by (fun _ q => XS.tswOut X.here hx rfl rfl hd rfl hout ho hp q) h
end OwnKit
theorem own_hm_key : ∀ n : Fin 256, ((Int32.ofInt (n.1 : Int)) &&& 192).toInt = (n.1 : Int) / 64 * 64 ∧ ((Int32.ofInt (n.1 : Int)) &&& 224).toInt = (n.1 : Int) / 32 * 32 ∧ ((Int32.ofInt (n.1 : Int)) &&& 240).toInt = (n.1 : Int) / 16 * 16 ∧ ((Int32.ofInt (n.1 : Int)) &&& 248).toInt = (n.1 : Int) / 8 * 8 := by decide +kernel
theorem own_hs_key : ∀ n : Fin 256, ((Int32.ofInt ((n.1 : Int) - 128)) &&& 192).toInt = (((n.1 : Int) - 128) % 256) / 64 * 64 := by decide +kernel
theorem own_hm {z : Int32} (h : 0 ≤ z.toInt ∧ z.toInt < 256) : (z &&& 192).toInt = z.toInt / 64 * 64 ∧ (z &&& 224).toInt = z.toInt / 32 * 32 ∧ (z &&& 240).toInt = z.toInt / 16 * 16 ∧ (z &&& 248).toInt = z.toInt / 8 * 8 := by
  have k := own_hm_key ⟨z.toInt.toNat, by omega⟩
  have q : ((z.toInt.toNat : Nat) : Int) = z.toInt := by omega
  simp only [q, Int32.ofInt_toInt] at k
  exact k
theorem own_hs {z : Int32} (h : -128 ≤ z.toInt ∧ z.toInt < 128) : (z &&& 192).toInt = (z.toInt % 256) / 64 * 64 := by
  have k := own_hs_key ⟨(z.toInt + 128).toNat, by omega⟩
  have q : (((z.toInt + 128).toNat : Nat) : Int) - 128 = z.toInt := by omega
  simp only [q, Int32.ofInt_toInt] at k
  exact k
abbrev own_D2 (a b v : Int) : Prop := 194 ≤ a ∧ a ≤ 223 ∧ 2 ≤ v ∧ 128 ≤ b ∧ b ≤ 191
abbrev own_D3 (a b d v : Int) : Prop := 224 ≤ a ∧ a ≤ 239 ∧ 3 ≤ v ∧ 128 ≤ b ∧ b ≤ 191 ∧ (a = 224 → 160 ≤ b) ∧ (a = 237 → b ≤ 159) ∧ 128 ≤ d ∧ d ≤ 191
abbrev own_D4 (a b d f v : Int) : Prop := 240 ≤ a ∧ a ≤ 244 ∧ 4 ≤ v ∧ 128 ≤ b ∧ b ≤ 191 ∧ (a = 240 → 144 ≤ b) ∧ (a = 244 → b ≤ 143) ∧ 128 ≤ d ∧ d ≤ 191 ∧ 128 ≤ f ∧ f ≤ 191
/-- the length of the valid character that begins with these bytes where v bytes are left, or 0 -/
def own_L (a b d f v : Int) : Int := if a < 128 then 1 else if own_D2 a b v then 2 else if own_D3 a b d v then 3 else if own_D4 a b d f v then 4 else 0
theorem own_L_1 {a b d f v : Int} (h : a < 128) : own_L a b d f v = 1 := by unfold own_L; rw [if_pos h]
theorem own_L_2 {a b d f v : Int} (h : own_D2 a b v) : own_L a b d f v = 2 := by
  unfold own_L; rw [if_neg (by have q := h.1; omega), if_pos h]
theorem own_L_3 {a b d f v : Int} (h : own_D3 a b d v) : own_L a b d f v = 3 := by
  unfold own_L; rw [if_neg (by have q := h.1; omega), if_neg (fun w => by have q := h.1; have q2 := w.2.1; omega), if_pos h]
theorem own_L_4 {a b d f v : Int} (h : own_D4 a b d f v) : own_L a b d f v = 4 := by
  unfold own_L; rw [if_neg (by have q := h.1; omega), if_neg (fun w => by have q := h.1; have q2 := w.2.1; omega), if_neg (fun w => by have q := h.1; have q2 := w.2.1; omega), if_pos h]
theorem own_L_0 {a b d f v : Int} (h1 : ¬ a < 128) (h2 : ¬ own_D2 a b v) (h3 : ¬ own_D3 a b d v) (h4 : ¬ own_D4 a b d f v) : own_L a b d f v = 0 := by
  unfold own_L; rw [if_neg h1, if_neg h2, if_neg h3, if_neg h4]
theorem own_L_c {a b d f v : Int} (hv : 1 ≤ v) : own_L a b d f v = 0 ∨ (own_L a b d f v = 1 ∧ a < 128) ∨ (own_L a b d f v = 2 ∧ 194 ≤ a ∧ a ≤ 223 ∧ 2 ≤ v) ∨ (own_L a b d f v = 3 ∧ 224 ≤ a ∧ a ≤ 239 ∧ 3 ≤ v) ∨ (own_L a b d f v = 4 ∧ 240 ≤ a ∧ a ≤ 244 ∧ 4 ≤ v) := by
  unfold own_L
  split
  · right; left; exact ⟨rfl, by assumption⟩
  · split
    · rename_i h; right; right; left; exact ⟨rfl, h.1, h.2.1, h.2.2.1⟩
    · split
      · rename_i h; right; right; right; left; exact ⟨rfl, h.1, h.2.1, h.2.2.1⟩
      · split
        · rename_i h; right; right; right; right; exact ⟨rfl, h.1, h.2.1, h.2.2.1⟩
        · left; rfl
/-- the unsigned byte at i -/
def own_U (B : Int → Int32) (i : Int) : Int := (B i).toInt % 256
def own_Lk (B : Int → Int32) (to k : Int) : Int := own_L (own_U B k) (own_U B (k + 1)) (own_U B (k + 2)) (own_U B (k + 3)) (to - k)
/-- well-formed from k up to 'to' (1) or not (0), by fuel -/
def own_W (B : Int → Int32) (to : Int) : Nat → Int → Int
  | 0, _ => 1
  | n + 1, k => if to ≤ k then 1 else if own_Lk B to k = 0 then 0 else own_W B to n (k + own_Lk B to k)
theorem own_W_end {B : Int → Int32} {to k : Int} (n : Nat) (h : to ≤ k) : own_W B to n k = 1 := by cases n with
  | zero => rfl
  | succ n => unfold own_W; rw [if_pos h]
theorem own_W_no {B : Int → Int32} {to k : Int} (n : Nat) (h : ¬ to ≤ k) (h2 : own_Lk B to k = 0) : own_W B to (n + 1) k = 0 := by unfold own_W; rw [if_neg h, if_pos h2]
theorem own_W_on {B : Int → Int32} {to k : Int} (n : Nat) (h : ¬ to ≤ k) (h2 : ¬ own_Lk B to k = 0) : own_W B to (n + 1) k = own_W B to n (k + own_Lk B to k) := by
  show (if to ≤ k then 1 else if own_Lk B to k = 0 then 0 else own_W B to n (k + own_Lk B to k)) = _
  rw [if_neg h, if_neg h2]
theorem own_Lk_pos {B : Int → Int32} {to k : Int} (h : k < to) (h2 : ¬ own_Lk B to k = 0) : 1 ≤ own_Lk B to k ∧ own_Lk B to k ≤ 4 ∧ k + own_Lk B to k ≤ to := by
  unfold own_Lk at h2 ⊢
  have q := own_L_c (a := own_U B k) (b := own_U B (k + 1)) (d := own_U B (k + 2)) (f := own_U B (k + 3)) (v := to - k) (by omega)
  omega
theorem own_W_fuel {B : Int → Int32} {to : Int} : ∀ (n : Nat) (k : Int), to - k ≤ n → own_W B to (n + 1) k = own_W B to n k
  | 0, k, h => by rw [own_W_end 1 (by omega), own_W_end 0 (by omega)]
  | n + 1, k, h => by
    by_cases h1 : to ≤ k
    · rw [own_W_end _ h1, own_W_end _ h1]
    · by_cases h2 : own_Lk B to k = 0
      · rw [own_W_no _ h1 h2, own_W_no _ h1 h2]
      · have p := own_Lk_pos (B := B) (to := to) (k := k) (by omega) h2
        rw [own_W_on _ h1 h2, own_W_on _ h1 h2]
        exact own_W_fuel n _ (by omega)
/-- what 'next' answers -/
def own_N (B : Int → Int32) (to k : Int) (G : Int → Int32) (r : Int) : Prop := (k = to ∧ r = 1) ∨ (to < k ∧ r = 0) ∨ (k < to ∧ own_Lk B to k = 0 ∧ r = 0) ∨ (k < to ∧ ¬ own_Lk B to k = 0 ∧ r = (G (k + own_Lk B to k)).toInt)
def own_sel6 (a b c d e f : Int32) (i : Int) : Int32 := if i = 0 then a else if i = 1 then b else if i = 2 then c else if i = 3 then d else if i = 4 then e else f
def own_sel7 (a b c d e f g : Int32) (i : Int) : Int32 := if i = 0 then a else if i = 1 then b else if i = 2 then c else if i = 3 then d else if i = 4 then e else if i = 5 then f else g
theorem own_sel6_r {a b c d e f : Int32} {P : Int32 → Prop} (ha : P a) (hb : P b) (hc : P c) (hd : P d) (he : P e) (hf : P f) (i : Int) : P (own_sel6 a b c d e f i) := by
  unfold own_sel6
  repeat' split
  all_goals assumption
theorem own_sel7_r {a b c d e f g : Int32} {P : Int32 → Prop} (ha : P a) (hb : P b) (hc : P c) (hd : P d) (he : P e) (hf : P f) (hg : P g) (i : Int) : P (own_sel7 a b c d e f g i) := by
  unfold own_sel7
  repeat' split
  all_goals assumption
theorem own_step {B : Int → Int32} {to k : Int} {G : Int → Int32} {r : Int} (h0 : 0 ≤ k) (h6 : to ≤ 6) (hk : k ≤ to) (hN : own_N B to k G r) (hG : ∀ j, k < j → j ≤ to → (G j).toInt = own_W B to 6 j) : r = own_W B to 6 k := by
  rcases hN with ⟨e, q⟩ | ⟨e, q⟩ | ⟨e, z, q⟩ | ⟨e, z, q⟩
  · rw [q, own_W_end 6 (by omega)]
  · omega
  · rw [q, own_W_no 5 (by omega) z]
  · have p := own_Lk_pos e z
    rw [q, own_W_on 5 (by omega) z, hG _ (by omega) (by omega), own_W_fuel 5 _ (by omega)]
theorem own_final {B : Int → Int32} {to fr : Int} {g0 g1 g2 g3 g4 g5 g6 : Int32} (hf : 0 ≤ fr ∧ fr ≤ to ∧ to ≤ 6)
    (h6 : own_N B to 6 (own_sel7 0 0 0 0 0 0 0) g6.toInt) (h5 : own_N B to 5 (own_sel7 0 0 0 0 0 0 g6) g5.toInt) (h4 : own_N B to 4 (own_sel7 0 0 0 0 0 g5 g6) g4.toInt) (h3 : own_N B to 3 (own_sel7 0 0 0 0 g4 g5 g6) g3.toInt)
    (h2 : own_N B to 2 (own_sel7 0 0 0 g3 g4 g5 g6) g2.toInt) (h1 : own_N B to 1 (own_sel7 0 0 g2 g3 g4 g5 g6) g1.toInt) (h0 : own_N B to 0 (own_sel7 0 g1 g2 g3 g4 g5 g6) g0.toInt) : (own_sel7 g0 g1 g2 g3 g4 g5 g6 fr).toInt = own_W B to 6 fr := by
  have e6 : 6 ≤ to → g6.toInt = own_W B to 6 6 := fun q => own_step (by omega) hf.2.2 q h6 (fun j a b => by omega)
  have e5 : 5 ≤ to → g5.toInt = own_W B to 6 5 := fun q => own_step (by omega) hf.2.2 q h5 (fun j a b => by
    obtain rfl : j = 6 := by omega
    exact e6 b)
  have e4 : 4 ≤ to → g4.toInt = own_W B to 6 4 := fun q => own_step (by omega) hf.2.2 q h4 (fun j a b => by
    have c : j = 5 ∨ j = 6 := by omega
    rcases c with rfl | rfl
    · exact e5 b
    · exact e6 b)
  have e3 : 3 ≤ to → g3.toInt = own_W B to 6 3 := fun q => own_step (by omega) hf.2.2 q h3 (fun j a b => by
    have c : j = 4 ∨ j = 5 ∨ j = 6 := by omega
    rcases c with rfl | rfl | rfl
    · exact e4 b
    · exact e5 b
    · exact e6 b)
  have e2 : 2 ≤ to → g2.toInt = own_W B to 6 2 := fun q => own_step (by omega) hf.2.2 q h2 (fun j a b => by
    have c : j = 3 ∨ j = 4 ∨ j = 5 ∨ j = 6 := by omega
    rcases c with rfl | rfl | rfl | rfl
    · exact e3 b
    · exact e4 b
    · exact e5 b
    · exact e6 b)
  have e1 : 1 ≤ to → g1.toInt = own_W B to 6 1 := fun q => own_step (by omega) hf.2.2 q h1 (fun j a b => by
    have c : j = 2 ∨ j = 3 ∨ j = 4 ∨ j = 5 ∨ j = 6 := by omega
    rcases c with rfl | rfl | rfl | rfl | rfl
    · exact e2 b
    · exact e3 b
    · exact e4 b
    · exact e5 b
    · exact e6 b)
  have e0 : 0 ≤ to → g0.toInt = own_W B to 6 0 := fun q => own_step (by omega) hf.2.2 q h0 (fun j a b => by
    have c : j = 1 ∨ j = 2 ∨ j = 3 ∨ j = 4 ∨ j = 5 ∨ j = 6 := by omega
    rcases c with rfl | rfl | rfl | rfl | rfl | rfl
    · exact e1 b
    · exact e2 b
    · exact e3 b
    · exact e4 b
    · exact e5 b
    · exact e6 b)
  have c : fr = 0 ∨ fr = 1 ∨ fr = 2 ∨ fr = 3 ∨ fr = 4 ∨ fr = 5 ∨ fr = 6 := by omega
  rcases c with rfl | rfl | rfl | rfl | rfl | rfl | rfl
  · exact e0 (by omega)
  · exact e1 (by omega)
  · exact e2 (by omega)
  · exact e3 (by omega)
  · exact e4 (by omega)
  · exact e5 (by omega)
  · exact e6 (by omega)
theorem own_nat {j : Int32} {k : Int} (hj : j.toInt = k) (h : 0 ≤ k) : j.toNatClampNeg = k.toNat := by subst hj; rfl
theorem own_at6 {B : Int → Int32} {j : Int32} {k : Int} (hj : j.toInt = k) (h : 0 ≤ k ∧ k < 6) : [Value.int (B 0), .int (B 1), .int (B 2), .int (B 3), .int (B 4), .int (B 5)].getD j.toNatClampNeg (.int (0 : Int32)) = .int (B k) := by
  rw [own_nat hj h.1]
  have c : k = 0 ∨ k = 1 ∨ k = 2 ∨ k = 3 ∨ k = 4 ∨ k = 5 := by omega
  rcases c with rfl | rfl | rfl | rfl | rfl | rfl <;> rfl
theorem own_at7 {B : Int → Int32} {j : Int32} {k : Int} (hj : j.toInt = k) (h : 0 ≤ k ∧ k < 7) : [Value.int (B 0), .int (B 1), .int (B 2), .int (B 3), .int (B 4), .int (B 5), .int (B 6)].getD j.toNatClampNeg (.int (0 : Int32)) = .int (B k) := by
  rw [own_nat hj h.1]
  have c : k = 0 ∨ k = 1 ∨ k = 2 ∨ k = 3 ∨ k = 4 ∨ k = 5 ∨ k = 6 := by omega
  rcases c with rfl | rfl | rfl | rfl | rfl | rfl | rfl <;> rfl
theorem own_inb {j z : Int32} {k n : Int} (hj : j.toInt = k) (hz : z.toInt = n) (h : 0 ≤ k ∧ k < n) : ¬ j < 0 ∧ j < z := by
  subst hj hz
  refine ⟨fun q => ?_, own_lt.mp h.2⟩
  have r := own_lt.mpr q
  have e : (0 : Int32).toInt = 0 := rfl
  omega
theorem pd_0 : parseMethodDescriptor "(II)I" = some ⟨[.int, .int], some .int⟩ := by decide +kernel
theorem dm_0 : decode jdk_29_method_69_code 0 = .ok (.iload_n 0, 1) := by decide +kernel
theorem dm_1 : decode jdk_29_method_69_code 1 = .ok (.iload_n 1, 1) := by decide +kernel
theorem dm_2 : decode jdk_29_method_69_code 2 = .ok (.if_icmp .gt 7, 3) := by decide +kernel
theorem dm_5 : decode jdk_29_method_69_code 5 = .ok (.iload_n 0, 1) := by decide +kernel
theorem dm_6 : decode jdk_29_method_69_code 6 = .ok (.goto 4, 3) := by decide +kernel
theorem dm_9 : decode jdk_29_method_69_code 9 = .ok (.iload_n 1, 1) := by decide +kernel
theorem dm_10 : decode jdk_29_method_69_code 10 = .ok (.ireturn, 1) := by decide +kernel
theorem ef_m (m : MethodId) (x0 : Int32) (x1 : Int32) : entryFrame m #[(.int x0), (.int x1)] 2 = mkF m 0 #[.val (.int x0), .val (.int x1)] [] := by first | (simp [entryFrame, mkF, argsToLocals, Value.category, maxLocals]; done) | rfl
def Qm (Z : State) (u : Int32) (w : Int32) (h0 : Heap) (n0 : Nat) (v : Option Value) (h : Heap) (L : List Loc) : Prop := ∃ r : Int32, v = some (.int r) ∧ ((u.toInt ≤ w.toInt ∧ r.toInt = u.toInt) ∨ (w.toInt < u.toInt ∧ r.toInt = w.toInt)) ∧ Fr n0 L ∧ h = h0
set_option maxRecDepth 65536 in
set_option maxHeartbeats 40000000 in
theorem rmm (l : Launch) (Z : State) (a0 : Array Value) (hw : ∀ d ∈ tables_1, d.before a0 Z = true) (ws : List Jvm.Cond) (u : Int32) (w : Int32) (h0 : Heap) (n0 : Nat) (Z0 : n0 ≤ h0.size) :
    MetFree l (⟨"java/lang/Math", "min", "(II)I"⟩ : MethodName) (head1 (Jvm.Cond.code (⟨"java/lang/Math", "min", "(II)I"⟩ : MethodName) jdk_29_method_69_code 2 (some .int) :: ws) ({ frames := 0, cells := 0, slots := 0, locals := 0 } : Room)) (fun a U => a = #[(.int u), (.int w)] ∧ Z.Warmed39 U.vm ∧ U.heap = h0) (fun _ _ _ _ _ => True) (fun _ U o U' => ∃ v L, o = .returned v ∧ Qm Z u w h0 n0 v U'.heap L ∧ FrameEnd U o U' L ({ frames := 0, cells := 0, slots := 0, locals := 0 } : Room).cells ({ frames := 0, cells := 0, slots := 0, locals := 0 } : Room).slots) := by
  refine MetFree.of_bodySF (Jvm.Free.JP.mathPlain rfl (by decide +kernel)) hisR ?_
  intro p e s m args below meth c s₁ Bd hml0 hP hK
  obtain ⟨rfl, hZ, hh⟩ := hP
  have hx := Bd.exec
  have hby := Bd.bytes
  have hml : c.maxLocals = 2 := hml0
  have hown : s.vm.findClass "java/lang/Math" = some m.cls := findClass_of_methodNamed Bd.named
  have hnm := (name_of_methodNamed Bd.named Bd.method).1
  have X0 : Stand p l e ({ frames := 0, cells := 0, slots := 0, locals := 0 } : Room) s m #[(.int u), (.int w)] below meth c s₁ [] 0 0 := Stand.of_body Bd
  have e0 : s₁.heap = h0 := by rw [← hh, Bd.state]; rfl
  have N0 := Fr.nil n0
  change own_Go p e below (Qm Z u w h0 n0) (own_Fr s ({ frames := 0, cells := 0, slots := 0, locals := 0 } : Room).cells ({ frames := 0, cells := 0, slots := 0, locals := 0 } : Room).slots) (s₁.setTop (entryFrame m #[(.int u), (.int w)] 2))
  rw [ef_m m u w]
  have ru := rng32 u
  have rw := rng32 w
  refine own_iloadN (pc' := 1) X0 hx rfl (hb hby dm_0) rfl ?_
  refine own_iloadN (pc' := 2) X0 hx rfl (hb hby dm_1) rfl ?_
  by_cases b1 : w.toInt < u.toInt
  · refine own_icmpYes (pc' := 9) X0 hx (hb hby dm_2) (own_yes_gt rfl rfl b1) (by decide) (by decide) ?_
    refine own_iloadN (pc' := 10) X0 hx rfl (hb hby dm_9) rfl ?_
    refine own_ret X0 hx Bd.returns Bd.notSynchronized (Or.inl ⟨rfl, by simp, _, rfl⟩) (hb hby dm_10) rfl (by decide) (by decide) ?_
    show Qm Z u w h0 n0 _ s₁.heap _
    rw [e0]
    exact ⟨w, rfl, by omega, N0, rfl⟩
  · refine own_icmpNo (pc' := 5) X0 hx (own_no_gt rfl rfl b1) (hb hby dm_2) rfl ?_
    refine own_iloadN (pc' := 6) X0 hx rfl (hb hby dm_5) rfl ?_
    refine own_goto (pc' := 10) X0 hx (hb hby dm_6) (by decide) (by decide) ?_
    refine own_ret X0 hx Bd.returns Bd.notSynchronized (Or.inl ⟨rfl, by simp, _, rfl⟩) (hb hby dm_10) rfl (by decide) (by decide) ?_
    show Qm Z u w h0 n0 _ s₁.heap _
    rw [e0]
    exact ⟨u, rfl, by omega, N0, rfl⟩
theorem dM_0 : decode jdk_29_method_65_code 0 = .ok (.iload_n 0, 1) := by decide +kernel
theorem dM_1 : decode jdk_29_method_65_code 1 = .ok (.iload_n 1, 1) := by decide +kernel
theorem dM_2 : decode jdk_29_method_65_code 2 = .ok (.if_icmp .lt 7, 3) := by decide +kernel
theorem dM_5 : decode jdk_29_method_65_code 5 = .ok (.iload_n 0, 1) := by decide +kernel
theorem dM_6 : decode jdk_29_method_65_code 6 = .ok (.goto 4, 3) := by decide +kernel
theorem dM_9 : decode jdk_29_method_65_code 9 = .ok (.iload_n 1, 1) := by decide +kernel
theorem dM_10 : decode jdk_29_method_65_code 10 = .ok (.ireturn, 1) := by decide +kernel
theorem ef_M (m : MethodId) (x0 : Int32) (x1 : Int32) : entryFrame m #[(.int x0), (.int x1)] 2 = mkF m 0 #[.val (.int x0), .val (.int x1)] [] := by first | (simp [entryFrame, mkF, argsToLocals, Value.category, maxLocals]; done) | rfl
def QM (Z : State) (u : Int32) (w : Int32) (h0 : Heap) (n0 : Nat) (v : Option Value) (h : Heap) (L : List Loc) : Prop := ∃ r : Int32, v = some (.int r) ∧ ((u.toInt ≤ w.toInt ∧ r.toInt = w.toInt) ∨ (w.toInt < u.toInt ∧ r.toInt = u.toInt)) ∧ Fr n0 L ∧ h = h0
set_option maxRecDepth 65536 in
set_option maxHeartbeats 40000000 in
theorem rmM (l : Launch) (Z : State) (a0 : Array Value) (hw : ∀ d ∈ tables_1, d.before a0 Z = true) (ws : List Jvm.Cond) (u : Int32) (w : Int32) (h0 : Heap) (n0 : Nat) (Z0 : n0 ≤ h0.size) :
    MetFree l (⟨"java/lang/Math", "max", "(II)I"⟩ : MethodName) (head1 (Jvm.Cond.code (⟨"java/lang/Math", "max", "(II)I"⟩ : MethodName) jdk_29_method_65_code 2 (some .int) :: ws) ({ frames := 0, cells := 0, slots := 0, locals := 0 } : Room)) (fun a U => a = #[(.int u), (.int w)] ∧ Z.Warmed39 U.vm ∧ U.heap = h0) (fun _ _ _ _ _ => True) (fun _ U o U' => ∃ v L, o = .returned v ∧ QM Z u w h0 n0 v U'.heap L ∧ FrameEnd U o U' L ({ frames := 0, cells := 0, slots := 0, locals := 0 } : Room).cells ({ frames := 0, cells := 0, slots := 0, locals := 0 } : Room).slots) := by
  refine MetFree.of_bodySF (Jvm.Free.JP.mathPlain rfl (by decide +kernel)) hisR ?_
  intro p e s m args below meth c s₁ Bd hml0 hP hK
  obtain ⟨rfl, hZ, hh⟩ := hP
  have hx := Bd.exec
  have hby := Bd.bytes
  have hml : c.maxLocals = 2 := hml0
  have hown : s.vm.findClass "java/lang/Math" = some m.cls := findClass_of_methodNamed Bd.named
  have hnm := (name_of_methodNamed Bd.named Bd.method).1
  have X0 : Stand p l e ({ frames := 0, cells := 0, slots := 0, locals := 0 } : Room) s m #[(.int u), (.int w)] below meth c s₁ [] 0 0 := Stand.of_body Bd
  have e0 : s₁.heap = h0 := by rw [← hh, Bd.state]; rfl
  have N0 := Fr.nil n0
  change own_Go p e below (QM Z u w h0 n0) (own_Fr s ({ frames := 0, cells := 0, slots := 0, locals := 0 } : Room).cells ({ frames := 0, cells := 0, slots := 0, locals := 0 } : Room).slots) (s₁.setTop (entryFrame m #[(.int u), (.int w)] 2))
  rw [ef_M m u w]
  have ru := rng32 u
  have rw := rng32 w
  refine own_iloadN (pc' := 1) X0 hx rfl (hb hby dM_0) rfl ?_
  refine own_iloadN (pc' := 2) X0 hx rfl (hb hby dM_1) rfl ?_
  by_cases b1 : u.toInt < w.toInt
  · refine own_icmpYes (pc' := 9) X0 hx (hb hby dM_2) (own_yes_lt rfl rfl b1) (by decide) (by decide) ?_
    refine own_iloadN (pc' := 10) X0 hx rfl (hb hby dM_9) rfl ?_
    refine own_ret X0 hx Bd.returns Bd.notSynchronized (Or.inl ⟨rfl, by simp, _, rfl⟩) (hb hby dM_10) rfl (by decide) (by decide) ?_
    show QM Z u w h0 n0 _ s₁.heap _
    rw [e0]
    exact ⟨w, rfl, by omega, N0, rfl⟩
  · refine own_icmpNo (pc' := 5) X0 hx (own_no_lt rfl rfl b1) (hb hby dM_2) rfl ?_
    refine own_iloadN (pc' := 6) X0 hx rfl (hb hby dM_5) rfl ?_
    refine own_goto (pc' := 10) X0 hx (hb hby dM_6) (by decide) (by decide) ?_
    refine own_ret X0 hx Bd.returns Bd.notSynchronized (Or.inl ⟨rfl, by simp, _, rfl⟩) (hb hby dM_10) rfl (by decide) (by decide) ?_
    show QM Z u w h0 n0 _ s₁.heap _
    rw [e0]
    exact ⟨u, rfl, by omega, N0, rfl⟩
theorem pd_1 : parseMethodDescriptor "(I)I" = some ⟨[.int], some .int⟩ := by decide +kernel
theorem dl_0 : decode method_4_code 0 = .ok (.iload_n 0, 1) := by decide +kernel
theorem dl_1 : decode method_4_code 1 = .ok (.sipush 128, 3) := by decide +kernel
theorem dl_4 : decode method_4_code 4 = .ok (.if_icmp .ge 5, 3) := by decide +kernel
theorem dl_7 : decode method_4_code 7 = .ok (.iconst 1, 1) := by decide +kernel
theorem dl_8 : decode method_4_code 8 = .ok (.ireturn, 1) := by decide +kernel
theorem dl_9 : decode method_4_code 9 = .ok (.iload_n 0, 1) := by decide +kernel
theorem dl_10 : decode method_4_code 10 = .ok (.sipush 224, 3) := by decide +kernel
theorem dl_13 : decode method_4_code 13 = .ok (.iand, 1) := by decide +kernel
theorem dl_14 : decode method_4_code 14 = .ok (.sipush 192, 3) := by decide +kernel
theorem dl_17 : decode method_4_code 17 = .ok (.if_icmp .ne 5, 3) := by decide +kernel
theorem dl_20 : decode method_4_code 20 = .ok (.iconst 2, 1) := by decide +kernel
theorem dl_21 : decode method_4_code 21 = .ok (.ireturn, 1) := by decide +kernel
theorem dl_22 : decode method_4_code 22 = .ok (.iload_n 0, 1) := by decide +kernel
theorem dl_23 : decode method_4_code 23 = .ok (.sipush 240, 3) := by decide +kernel
theorem dl_26 : decode method_4_code 26 = .ok (.iand, 1) := by decide +kernel
theorem dl_27 : decode method_4_code 27 = .ok (.sipush 224, 3) := by decide +kernel
theorem dl_30 : decode method_4_code 30 = .ok (.if_icmp .ne 5, 3) := by decide +kernel
theorem dl_33 : decode method_4_code 33 = .ok (.iconst 3, 1) := by decide +kernel
theorem dl_34 : decode method_4_code 34 = .ok (.ireturn, 1) := by decide +kernel
theorem dl_35 : decode method_4_code 35 = .ok (.iload_n 0, 1) := by decide +kernel
theorem dl_36 : decode method_4_code 36 = .ok (.sipush 248, 3) := by decide +kernel
theorem dl_39 : decode method_4_code 39 = .ok (.iand, 1) := by decide +kernel
theorem dl_40 : decode method_4_code 40 = .ok (.sipush 240, 3) := by decide +kernel
theorem dl_43 : decode method_4_code 43 = .ok (.if_icmp .ne 5, 3) := by decide +kernel
theorem dl_46 : decode method_4_code 46 = .ok (.iconst 4, 1) := by decide +kernel
theorem dl_47 : decode method_4_code 47 = .ok (.ireturn, 1) := by decide +kernel
theorem dl_48 : decode method_4_code 48 = .ok (.iconst 0, 1) := by decide +kernel
theorem dl_49 : decode method_4_code 49 = .ok (.ireturn, 1) := by decide +kernel
theorem pn_0 : plainName "com/example/bookplate/bookplate/marc/Utf8IsWellFormedPinLaw" = true := by first | (simp [plainName, overriddenIn]; done) | decide +kernel
theorem ef_l (m : MethodId) (x0 : Int32) : entryFrame m #[(.int x0)] 1 = mkF m 0 #[.val (.int x0)] [] := by first | (simp [entryFrame, mkF, argsToLocals, Value.category, maxLocals]; done) | rfl
def Ql (Z : State) (u : Int32) (h0 : Heap) (n0 : Nat) (v : Option Value) (h : Heap) (L : List Loc) : Prop := ∃ r : Int32, v = some (.int r) ∧ ((r.toInt = 1 ∧ u.toInt < 128) ∨ (r.toInt = 2 ∧ 192 ≤ u.toInt ∧ u.toInt < 224) ∨ (r.toInt = 3 ∧ 224 ≤ u.toInt ∧ u.toInt < 240) ∨ (r.toInt = 4 ∧ 240 ≤ u.toInt ∧ u.toInt < 248) ∨ (r.toInt = 0 ∧ (128 ≤ u.toInt ∧ u.toInt < 192 ∨ 248 ≤ u.toInt))) ∧ Fr n0 L ∧ h = h0
set_option maxRecDepth 65536 in
set_option maxHeartbeats 40000000 in
theorem rml (l : Launch) (Z : State) (a0 : Array Value) (hw : ∀ d ∈ tables_1, d.before a0 Z = true) (ws : List Jvm.Cond) (u : Int32) (h0 : Heap) (n0 : Nat) (Z0 : n0 ≤ h0.size) (hu : 0 ≤ u.toInt ∧ u.toInt < 256) :
    MetFree l (⟨"com/example/bookplate/bookplate/marc/Utf8IsWellFormedPinLaw", "len", "(I)I"⟩ : MethodName) (head1 (Jvm.Cond.code (⟨"com/example/bookplate/bookplate/marc/Utf8IsWellFormedPinLaw", "len", "(I)I"⟩ : MethodName) method_4_code 1 (some .int) :: ws) ({ frames := 0, cells := 0, slots := 0, locals := 0 } : Room)) (fun a U => a = #[(.int u)] ∧ Z.Warmed39 U.vm ∧ U.heap = h0) (fun _ _ _ _ _ => True) (fun _ U o U' => ∃ v L, o = .returned v ∧ Ql Z u h0 n0 v U'.heap L ∧ FrameEnd U o U' L ({ frames := 0, cells := 0, slots := 0, locals := 0 } : Room).cells ({ frames := 0, cells := 0, slots := 0, locals := 0 } : Room).slots) := by
  refine MetFree.of_bodySF (plainFor_of_name pn_0) hisR ?_
  intro p e s m args below meth c s₁ Bd hml0 hP hK
  obtain ⟨rfl, hZ, hh⟩ := hP
  have hx := Bd.exec
  have hby := Bd.bytes
  have hml : c.maxLocals = 1 := hml0
  have hown : s.vm.findClass "com/example/bookplate/bookplate/marc/Utf8IsWellFormedPinLaw" = some m.cls := findClass_of_methodNamed Bd.named
  have hnm := (name_of_methodNamed Bd.named Bd.method).1
  have X0 : Stand p l e ({ frames := 0, cells := 0, slots := 0, locals := 0 } : Room) s m #[(.int u)] below meth c s₁ [] 0 0 := Stand.of_body Bd
  have e0 : s₁.heap = h0 := by rw [← hh, Bd.state]; rfl
  have N0 := Fr.nil n0
  change own_Go p e below (Ql Z u h0 n0) (own_Fr s ({ frames := 0, cells := 0, slots := 0, locals := 0 } : Room).cells ({ frames := 0, cells := 0, slots := 0, locals := 0 } : Room).slots) (s₁.setTop (entryFrame m #[(.int u)] 1))
  rw [ef_l m u]
  have ru := rng32 u
  refine own_iloadN (pc' := 1) X0 hx rfl (hb hby dl_0) rfl ?_
  refine own_sipush (pc' := 4) X0 hx (128 : Int32) (by decide) (hb hby dl_1) rfl ?_
  by_cases b1 : u.toInt < 128
  · refine own_icmpNo (pc' := 7) X0 hx (own_no_ge rfl (by decide) b1) (hb hby dl_4) rfl ?_
    refine own_iconst (pc' := 8) X0 hx (1 : Int32) (by decide) (hb hby dl_7) rfl ?_
    refine own_ret X0 hx Bd.returns Bd.notSynchronized (Or.inl ⟨rfl, by simp, _, rfl⟩) (hb hby dl_8) rfl (by decide) (by decide) ?_
    show Ql Z u h0 n0 _ s₁.heap _
    rw [e0]
    have kc0 : ((1 : Int32)).toInt = 1 := by decide
    exact ⟨(1 : Int32), rfl, by omega, N0, rfl⟩
  · refine own_icmpYes (pc' := 9) X0 hx (hb hby dl_4) (own_yes_ge rfl (by decide) b1) (by decide) (by decide) ?_
    refine own_iloadN (pc' := 10) X0 hx rfl (hb hby dl_9) rfl ?_
    refine own_sipush (pc' := 13) X0 hx (224 : Int32) (by decide) (hb hby dl_10) rfl ?_
    obtain ⟨v2, hv2⟩ : ∃ z, u &&& (224 : Int32) = z := ⟨_, rfl⟩
    have rv2 := rng32 v2
    have f3 : v2.toInt = u.toInt / 32 * 32 := by rw [← hv2]; exact (own_hm (by omega)).2.1
    refine own_iand (pc' := 14) X0 hx (z := v2) hv2 (hb hby dl_13) rfl ?_
    refine own_sipush (pc' := 17) X0 hx (192 : Int32) (by decide) (hb hby dl_14) rfl ?_
    by_cases b4 : v2.toInt = 192
    · refine own_icmpNo (pc' := 20) X0 hx (own_no_ne rfl (by decide) b4) (hb hby dl_17) rfl ?_
      refine own_iconst (pc' := 21) X0 hx (2 : Int32) (by decide) (hb hby dl_20) rfl ?_
      refine own_ret X0 hx Bd.returns Bd.notSynchronized (Or.inl ⟨rfl, by simp, _, rfl⟩) (hb hby dl_21) rfl (by decide) (by decide) ?_
      show Ql Z u h0 n0 _ s₁.heap _
      rw [e0]
      have kc0 : ((2 : Int32)).toInt = 2 := by decide
      exact ⟨(2 : Int32), rfl, by omega, N0, rfl⟩
    · refine own_icmpYes (pc' := 22) X0 hx (hb hby dl_17) (own_yes_ne rfl (by decide) b4) (by decide) (by decide) ?_
      refine own_iloadN (pc' := 23) X0 hx rfl (hb hby dl_22) rfl ?_
      refine own_sipush (pc' := 26) X0 hx (240 : Int32) (by decide) (hb hby dl_23) rfl ?_
      obtain ⟨v5, hv5⟩ : ∃ z, u &&& (240 : Int32) = z := ⟨_, rfl⟩
      have rv5 := rng32 v5
      have f6 : v5.toInt = u.toInt / 16 * 16 := by rw [← hv5]; exact (own_hm (by omega)).2.2.1
      refine own_iand (pc' := 27) X0 hx (z := v5) hv5 (hb hby dl_26) rfl ?_
      refine own_sipush (pc' := 30) X0 hx (224 : Int32) (by decide) (hb hby dl_27) rfl ?_
      by_cases b7 : v5.toInt = 224
      · refine own_icmpNo (pc' := 33) X0 hx (own_no_ne rfl (by decide) b7) (hb hby dl_30) rfl ?_
        refine own_iconst (pc' := 34) X0 hx (3 : Int32) (by decide) (hb hby dl_33) rfl ?_
        refine own_ret X0 hx Bd.returns Bd.notSynchronized (Or.inl ⟨rfl, by simp, _, rfl⟩) (hb hby dl_34) rfl (by decide) (by decide) ?_
        show Ql Z u h0 n0 _ s₁.heap _
        rw [e0]
        have kc0 : ((3 : Int32)).toInt = 3 := by decide
        exact ⟨(3 : Int32), rfl, by omega, N0, rfl⟩
      · refine own_icmpYes (pc' := 35) X0 hx (hb hby dl_30) (own_yes_ne rfl (by decide) b7) (by decide) (by decide) ?_
        refine own_iloadN (pc' := 36) X0 hx rfl (hb hby dl_35) rfl ?_
        refine own_sipush (pc' := 39) X0 hx (248 : Int32) (by decide) (hb hby dl_36) rfl ?_
        obtain ⟨v8, hv8⟩ : ∃ z, u &&& (248 : Int32) = z := ⟨_, rfl⟩
        have rv8 := rng32 v8
        have f9 : v8.toInt = u.toInt / 8 * 8 := by rw [← hv8]; exact (own_hm (by omega)).2.2.2
        refine own_iand (pc' := 40) X0 hx (z := v8) hv8 (hb hby dl_39) rfl ?_
        refine own_sipush (pc' := 43) X0 hx (240 : Int32) (by decide) (hb hby dl_40) rfl ?_
        by_cases b10 : v8.toInt = 240
        · refine own_icmpNo (pc' := 46) X0 hx (own_no_ne rfl (by decide) b10) (hb hby dl_43) rfl ?_
          refine own_iconst (pc' := 47) X0 hx (4 : Int32) (by decide) (hb hby dl_46) rfl ?_
          refine own_ret X0 hx Bd.returns Bd.notSynchronized (Or.inl ⟨rfl, by simp, _, rfl⟩) (hb hby dl_47) rfl (by decide) (by decide) ?_
          show Ql Z u h0 n0 _ s₁.heap _
          rw [e0]
          have kc0 : ((4 : Int32)).toInt = 4 := by decide
          exact ⟨(4 : Int32), rfl, by omega, N0, rfl⟩
        · refine own_icmpYes (pc' := 48) X0 hx (hb hby dl_43) (own_yes_ne rfl (by decide) b10) (by decide) (by decide) ?_
          refine own_iconst (pc' := 49) X0 hx (0 : Int32) (by decide) (hb hby dl_48) rfl ?_
          refine own_ret X0 hx Bd.returns Bd.notSynchronized (Or.inl ⟨rfl, by simp, _, rfl⟩) (hb hby dl_49) rfl (by decide) (by decide) ?_
          show Ql Z u h0 n0 _ s₁.heap _
          rw [e0]
          have kc0 : ((0 : Int32)).toInt = 0 := by decide
          exact ⟨(0 : Int32), rfl, by omega, N0, rfl⟩
theorem pd_2 : parseMethodDescriptor "([BII)Z" = some ⟨[(.array .byte), .int, .int], some .boolean⟩ := by decide +kernel
theorem dk_0 : decode method_5_code 0 = .ok (.aload_n 0, 1) := by decide +kernel
theorem dk_1 : decode method_5_code 1 = .ok (.iload_n 1, 1) := by decide +kernel
theorem dk_2 : decode method_5_code 2 = .ok (.baload, 1) := by decide +kernel
theorem dk_3 : decode method_5_code 3 = .ok (.sipush 255, 3) := by decide +kernel
theorem dk_6 : decode method_5_code 6 = .ok (.iand, 1) := by decide +kernel
theorem dk_7 : decode method_5_code 7 = .ok (.istore_n 3, 1) := by decide +kernel
theorem dk_8 : decode method_5_code 8 = .ok (.iload_n 3, 1) := by decide +kernel
theorem dk_9 : decode method_5_code 9 = .ok (.invokestatic 32, 3) := by decide +kernel
theorem dk_12 : decode method_5_code 12 = .ok (.istore 4, 2) := by decide +kernel
theorem dk_14 : decode method_5_code 14 = .ok (.iload 4, 2) := by decide +kernel
theorem dk_16 : decode method_5_code 16 = .ok (.ifCond .ne 5, 3) := by decide +kernel
theorem dk_19 : decode method_5_code 19 = .ok (.iconst 0, 1) := by decide +kernel
theorem dk_20 : decode method_5_code 20 = .ok (.ireturn, 1) := by decide +kernel
theorem dk_21 : decode method_5_code 21 = .ok (.iload_n 1, 1) := by decide +kernel
theorem dk_22 : decode method_5_code 22 = .ok (.iload 4, 2) := by decide +kernel
theorem dk_24 : decode method_5_code 24 = .ok (.iadd, 1) := by decide +kernel
theorem dk_25 : decode method_5_code 25 = .ok (.iload_n 2, 1) := by decide +kernel
theorem dk_26 : decode method_5_code 26 = .ok (.if_icmp .le 5, 3) := by decide +kernel
theorem dk_29 : decode method_5_code 29 = .ok (.iconst 0, 1) := by decide +kernel
theorem dk_30 : decode method_5_code 30 = .ok (.ireturn, 1) := by decide +kernel
theorem dk_31 : decode method_5_code 31 = .ok (.iload 4, 2) := by decide +kernel
theorem dk_33 : decode method_5_code 33 = .ok (.iconst 1, 1) := by decide +kernel
theorem dk_34 : decode method_5_code 34 = .ok (.if_icmp .ne 5, 3) := by decide +kernel
theorem dk_37 : decode method_5_code 37 = .ok (.iconst 1, 1) := by decide +kernel
theorem dk_38 : decode method_5_code 38 = .ok (.ireturn, 1) := by decide +kernel
theorem dk_39 : decode method_5_code 39 = .ok (.aload_n 0, 1) := by decide +kernel
theorem dk_40 : decode method_5_code 40 = .ok (.iload_n 1, 1) := by decide +kernel
theorem dk_41 : decode method_5_code 41 = .ok (.iconst 1, 1) := by decide +kernel
theorem dk_42 : decode method_5_code 42 = .ok (.iadd, 1) := by decide +kernel
theorem dk_43 : decode method_5_code 43 = .ok (.baload, 1) := by decide +kernel
theorem dk_44 : decode method_5_code 44 = .ok (.sipush 255, 3) := by decide +kernel
theorem dk_47 : decode method_5_code 47 = .ok (.iand, 1) := by decide +kernel
theorem dk_48 : decode method_5_code 48 = .ok (.istore 5, 2) := by decide +kernel
theorem dk_50 : decode method_5_code 50 = .ok (.iload 5, 2) := by decide +kernel
theorem dk_52 : decode method_5_code 52 = .ok (.sipush 192, 3) := by decide +kernel
theorem dk_55 : decode method_5_code 55 = .ok (.iand, 1) := by decide +kernel
theorem dk_56 : decode method_5_code 56 = .ok (.sipush 128, 3) := by decide +kernel
theorem dk_59 : decode method_5_code 59 = .ok (.if_icmp .eq 5, 3) := by decide +kernel
theorem dk_62 : decode method_5_code 62 = .ok (.iconst 0, 1) := by decide +kernel
theorem dk_63 : decode method_5_code 63 = .ok (.ireturn, 1) := by decide +kernel
theorem dk_64 : decode method_5_code 64 = .ok (.iload 4, 2) := by decide +kernel
theorem dk_66 : decode method_5_code 66 = .ok (.iconst 2, 1) := by decide +kernel
theorem dk_67 : decode method_5_code 67 = .ok (.if_icmp .ne 32, 3) := by decide +kernel
theorem dk_70 : decode method_5_code 70 = .ok (.iload_n 3, 1) := by decide +kernel
theorem dk_71 : decode method_5_code 71 = .ok (.bipush 31, 2) := by decide +kernel
theorem dk_73 : decode method_5_code 73 = .ok (.iand, 1) := by decide +kernel
theorem dk_74 : decode method_5_code 74 = .ok (.bipush 6, 2) := by decide +kernel
theorem dk_76 : decode method_5_code 76 = .ok (.ishl, 1) := by decide +kernel
theorem dk_77 : decode method_5_code 77 = .ok (.iload 5, 2) := by decide +kernel
theorem dk_79 : decode method_5_code 79 = .ok (.bipush 63, 2) := by decide +kernel
theorem dk_81 : decode method_5_code 81 = .ok (.iand, 1) := by decide +kernel
theorem dk_82 : decode method_5_code 82 = .ok (.ior, 1) := by decide +kernel
theorem dk_83 : decode method_5_code 83 = .ok (.istore 6, 2) := by decide +kernel
theorem dk_85 : decode method_5_code 85 = .ok (.iload 6, 2) := by decide +kernel
theorem dk_87 : decode method_5_code 87 = .ok (.sipush 128, 3) := by decide +kernel
theorem dk_90 : decode method_5_code 90 = .ok (.if_icmp .lt 7, 3) := by decide +kernel
theorem dk_93 : decode method_5_code 93 = .ok (.iconst 1, 1) := by decide +kernel
theorem dk_94 : decode method_5_code 94 = .ok (.goto 4, 3) := by decide +kernel
theorem dk_97 : decode method_5_code 97 = .ok (.iconst 0, 1) := by decide +kernel
theorem dk_98 : decode method_5_code 98 = .ok (.ireturn, 1) := by decide +kernel
theorem dk_99 : decode method_5_code 99 = .ok (.aload_n 0, 1) := by decide +kernel
theorem dk_100 : decode method_5_code 100 = .ok (.iload_n 1, 1) := by decide +kernel
theorem dk_101 : decode method_5_code 101 = .ok (.iconst 2, 1) := by decide +kernel
theorem dk_102 : decode method_5_code 102 = .ok (.iadd, 1) := by decide +kernel
theorem dk_103 : decode method_5_code 103 = .ok (.baload, 1) := by decide +kernel
theorem dk_104 : decode method_5_code 104 = .ok (.sipush 255, 3) := by decide +kernel
theorem dk_107 : decode method_5_code 107 = .ok (.iand, 1) := by decide +kernel
theorem dk_108 : decode method_5_code 108 = .ok (.istore 6, 2) := by decide +kernel
theorem dk_110 : decode method_5_code 110 = .ok (.iload 6, 2) := by decide +kernel
theorem dk_112 : decode method_5_code 112 = .ok (.sipush 192, 3) := by decide +kernel
theorem dk_115 : decode method_5_code 115 = .ok (.iand, 1) := by decide +kernel
theorem dk_116 : decode method_5_code 116 = .ok (.sipush 128, 3) := by decide +kernel
theorem dk_119 : decode method_5_code 119 = .ok (.if_icmp .eq 5, 3) := by decide +kernel
theorem dk_122 : decode method_5_code 122 = .ok (.iconst 0, 1) := by decide +kernel
theorem dk_123 : decode method_5_code 123 = .ok (.ireturn, 1) := by decide +kernel
theorem dk_124 : decode method_5_code 124 = .ok (.iload 4, 2) := by decide +kernel
theorem dk_126 : decode method_5_code 126 = .ok (.iconst 3, 1) := by decide +kernel
theorem dk_127 : decode method_5_code 127 = .ok (.if_icmp .ne 55, 3) := by decide +kernel
theorem dk_130 : decode method_5_code 130 = .ok (.iload_n 3, 1) := by decide +kernel
theorem dk_131 : decode method_5_code 131 = .ok (.bipush 15, 2) := by decide +kernel
theorem dk_133 : decode method_5_code 133 = .ok (.iand, 1) := by decide +kernel
theorem dk_134 : decode method_5_code 134 = .ok (.bipush 12, 2) := by decide +kernel
theorem dk_136 : decode method_5_code 136 = .ok (.ishl, 1) := by decide +kernel
theorem dk_137 : decode method_5_code 137 = .ok (.iload 5, 2) := by decide +kernel
theorem dk_139 : decode method_5_code 139 = .ok (.bipush 63, 2) := by decide +kernel
theorem dk_141 : decode method_5_code 141 = .ok (.iand, 1) := by decide +kernel
theorem dk_142 : decode method_5_code 142 = .ok (.bipush 6, 2) := by decide +kernel
theorem dk_144 : decode method_5_code 144 = .ok (.ishl, 1) := by decide +kernel
theorem dk_145 : decode method_5_code 145 = .ok (.ior, 1) := by decide +kernel
theorem dk_146 : decode method_5_code 146 = .ok (.iload 6, 2) := by decide +kernel
theorem dk_148 : decode method_5_code 148 = .ok (.bipush 63, 2) := by decide +kernel
theorem dk_150 : decode method_5_code 150 = .ok (.iand, 1) := by decide +kernel
theorem dk_151 : decode method_5_code 151 = .ok (.ior, 1) := by decide +kernel
theorem dk_152 : decode method_5_code 152 = .ok (.istore 7, 2) := by decide +kernel
theorem dk_154 : decode method_5_code 154 = .ok (.iload 7, 2) := by decide +kernel
theorem dk_156 : decode method_5_code 156 = .ok (.sipush 2048, 3) := by decide +kernel
theorem dk_159 : decode method_5_code 159 = .ok (.if_icmp .lt 21, 3) := by decide +kernel
theorem dk_162 : decode method_5_code 162 = .ok (.iload 7, 2) := by decide +kernel
theorem dk_164 : decode method_5_code 164 = .ok (.ldc 36, 2) := by decide +kernel
theorem dk_166 : decode method_5_code 166 = .ok (.if_icmp .lt 10, 3) := by decide +kernel
theorem dk_169 : decode method_5_code 169 = .ok (.iload 7, 2) := by decide +kernel
theorem dk_171 : decode method_5_code 171 = .ok (.ldc 37, 2) := by decide +kernel
theorem dk_173 : decode method_5_code 173 = .ok (.if_icmp .le 7, 3) := by decide +kernel
theorem dk_176 : decode method_5_code 176 = .ok (.iconst 1, 1) := by decide +kernel
theorem dk_177 : decode method_5_code 177 = .ok (.goto 4, 3) := by decide +kernel
theorem dk_180 : decode method_5_code 180 = .ok (.iconst 0, 1) := by decide +kernel
theorem dk_181 : decode method_5_code 181 = .ok (.ireturn, 1) := by decide +kernel
theorem dk_182 : decode method_5_code 182 = .ok (.aload_n 0, 1) := by decide +kernel
theorem dk_183 : decode method_5_code 183 = .ok (.iload_n 1, 1) := by decide +kernel
theorem dk_184 : decode method_5_code 184 = .ok (.iconst 3, 1) := by decide +kernel
theorem dk_185 : decode method_5_code 185 = .ok (.iadd, 1) := by decide +kernel
theorem dk_186 : decode method_5_code 186 = .ok (.baload, 1) := by decide +kernel
theorem dk_187 : decode method_5_code 187 = .ok (.sipush 255, 3) := by decide +kernel
theorem dk_190 : decode method_5_code 190 = .ok (.iand, 1) := by decide +kernel
theorem dk_191 : decode method_5_code 191 = .ok (.istore 7, 2) := by decide +kernel
theorem dk_193 : decode method_5_code 193 = .ok (.iload 7, 2) := by decide +kernel
theorem dk_195 : decode method_5_code 195 = .ok (.sipush 192, 3) := by decide +kernel
theorem dk_198 : decode method_5_code 198 = .ok (.iand, 1) := by decide +kernel
theorem dk_199 : decode method_5_code 199 = .ok (.sipush 128, 3) := by decide +kernel
theorem dk_202 : decode method_5_code 202 = .ok (.if_icmp .eq 5, 3) := by decide +kernel
theorem dk_205 : decode method_5_code 205 = .ok (.iconst 0, 1) := by decide +kernel
theorem dk_206 : decode method_5_code 206 = .ok (.ireturn, 1) := by decide +kernel
theorem dk_207 : decode method_5_code 207 = .ok (.iload_n 3, 1) := by decide +kernel
theorem dk_208 : decode method_5_code 208 = .ok (.bipush 7, 2) := by decide +kernel
theorem dk_210 : decode method_5_code 210 = .ok (.iand, 1) := by decide +kernel
theorem dk_211 : decode method_5_code 211 = .ok (.bipush 18, 2) := by decide +kernel
theorem dk_213 : decode method_5_code 213 = .ok (.ishl, 1) := by decide +kernel
theorem dk_214 : decode method_5_code 214 = .ok (.iload 5, 2) := by decide +kernel
theorem dk_216 : decode method_5_code 216 = .ok (.bipush 63, 2) := by decide +kernel
theorem dk_218 : decode method_5_code 218 = .ok (.iand, 1) := by decide +kernel
theorem dk_219 : decode method_5_code 219 = .ok (.bipush 12, 2) := by decide +kernel
theorem dk_221 : decode method_5_code 221 = .ok (.ishl, 1) := by decide +kernel
theorem dk_222 : decode method_5_code 222 = .ok (.ior, 1) := by decide +kernel
theorem dk_223 : decode method_5_code 223 = .ok (.iload 6, 2) := by decide +kernel
theorem dk_225 : decode method_5_code 225 = .ok (.bipush 63, 2) := by decide +kernel
theorem dk_227 : decode method_5_code 227 = .ok (.iand, 1) := by decide +kernel
theorem dk_228 : decode method_5_code 228 = .ok (.bipush 6, 2) := by decide +kernel
theorem dk_230 : decode method_5_code 230 = .ok (.ishl, 1) := by decide +kernel
theorem dk_231 : decode method_5_code 231 = .ok (.ior, 1) := by decide +kernel
theorem dk_232 : decode method_5_code 232 = .ok (.iload 7, 2) := by decide +kernel
theorem dk_234 : decode method_5_code 234 = .ok (.bipush 63, 2) := by decide +kernel
theorem dk_236 : decode method_5_code 236 = .ok (.iand, 1) := by decide +kernel
theorem dk_237 : decode method_5_code 237 = .ok (.ior, 1) := by decide +kernel
theorem dk_238 : decode method_5_code 238 = .ok (.istore 8, 2) := by decide +kernel
theorem dk_240 : decode method_5_code 240 = .ok (.iload 8, 2) := by decide +kernel
theorem dk_242 : decode method_5_code 242 = .ok (.ldc 38, 2) := by decide +kernel
theorem dk_244 : decode method_5_code 244 = .ok (.if_icmp .lt 14, 3) := by decide +kernel
theorem dk_247 : decode method_5_code 247 = .ok (.iload 8, 2) := by decide +kernel
theorem dk_249 : decode method_5_code 249 = .ok (.ldc 39, 2) := by decide +kernel
theorem dk_251 : decode method_5_code 251 = .ok (.if_icmp .gt 7, 3) := by decide +kernel
theorem dk_254 : decode method_5_code 254 = .ok (.iconst 1, 1) := by decide +kernel
theorem dk_255 : decode method_5_code 255 = .ok (.goto 4, 3) := by decide +kernel
theorem dk_258 : decode method_5_code 258 = .ok (.iconst 0, 1) := by decide +kernel
theorem dk_259 : decode method_5_code 259 = .ok (.ireturn, 1) := by decide +kernel
theorem ef_k (m : MethodId) (x0 : Addr) (x1 : Int32) (x2 : Int32) : entryFrame m #[(.ref x0), (.int x1), (.int x2)] 9 = mkF m 0 #[.val (.ref x0), .val (.int x1), .val (.int x2), .unset, .unset, .unset, .unset, .unset, .unset] [] := by first | (simp [entryFrame, mkF, argsToLocals, Value.category, maxLocals]; done) | rfl
def Qk (Z : State) (a1 : Addr) (u : Int32) (w : Int32) (kc : ClassId) (B : Int → Int32) (h0 : Heap) (n0 : Nat) (v : Option Value) (h : Heap) (L : List Loc) : Prop := ∃ r : Int32, v = some (.int r) ∧ ((r.toInt = 1 ∧ ¬ own_Lk B w.toInt u.toInt = 0) ∨ (r.toInt = 0 ∧ own_Lk B w.toInt u.toInt = 0)) ∧ Fr n0 L ∧ h = h0
set_option maxRecDepth 65536 in
set_option maxHeartbeats 40000000 in
theorem rmk (l : Launch) (Z : State) (a0 : Array Value) (hw : ∀ d ∈ tables_1, d.before a0 Z = true) (ws : List Jvm.Cond) (a1 : Addr) (u : Int32) (w : Int32) (kc : ClassId) (B : Int → Int32) (h0 : Heap) (n0 : Nat) (Z0 : n0 ≤ h0.size) (A_a1 : Arv Z h0 a1 kc .byte (6 : Int32) [(.int (B 0)), (.int (B 1)), (.int (B 2)), (.int (B 3)), (.int (B 4)), (.int (B 5))] (.int (0 : Int32))) (hB : ∀ i, -128 ≤ (B i).toInt ∧ (B i).toInt < 128) (hk : 0 ≤ u.toInt ∧ u.toInt < w.toInt ∧ w.toInt ≤ 6) :
    MetFree l (⟨"com/example/bookplate/bookplate/marc/Utf8IsWellFormedPinLaw", "charOk", "([BII)Z"⟩ : MethodName) (head1 (Jvm.Cond.code (⟨"com/example/bookplate/bookplate/marc/Utf8IsWellFormedPinLaw", "charOk", "([BII)Z"⟩ : MethodName) method_5_code 9 (some .boolean) :: ws) ({ frames := 1, cells := 0, slots := 0, locals := 16 } : Room)) (fun a U => a = #[(.ref a1), (.int u), (.int w)] ∧ Z.Warmed39 U.vm ∧ U.heap = h0) (fun _ _ _ _ _ => True) (fun _ U o U' => ∃ v L, o = .returned v ∧ Qk Z a1 u w kc B h0 n0 v U'.heap L ∧ FrameEnd U o U' L ({ frames := 1, cells := 0, slots := 0, locals := 16 } : Room).cells ({ frames := 1, cells := 0, slots := 0, locals := 16 } : Room).slots) := by
  refine MetFree.of_bodySF (plainFor_of_name pn_0) hisR ?_
  intro p e s m args below meth c s₁ Bd hml0 hP hK
  obtain ⟨rfl, hZ, hh⟩ := hP
  have hx := Bd.exec
  have hby := Bd.bytes
  have hml : c.maxLocals = 9 := hml0
  have hown : s.vm.findClass "com/example/bookplate/bookplate/marc/Utf8IsWellFormedPinLaw" = some m.cls := findClass_of_methodNamed Bd.named
  have hnm := (name_of_methodNamed Bd.named Bd.method).1
  have X0 : Stand p l e ({ frames := 1, cells := 0, slots := 0, locals := 16 } : Room) s m #[(.ref a1), (.int u), (.int w)] below meth c s₁ [] 0 0 := Stand.of_body Bd
  have e0 : s₁.heap = h0 := by rw [← hh, Bd.state]; rfl
  have N0 := Fr.nil n0
  change own_Go p e below (Qk Z a1 u w kc B h0 n0) (own_Fr s ({ frames := 1, cells := 0, slots := 0, locals := 16 } : Room).cells ({ frames := 1, cells := 0, slots := 0, locals := 16 } : Room).slots) (s₁.setTop (entryFrame m #[(.ref a1), (.int u), (.int w)] 9))
  rw [ef_k m a1 u w]
  have ru := rng32 u
  have rw := rng32 w
  refine own_aloadN (pc' := 1) X0 hx rfl rfl (hb hby dk_0) rfl ?_
  refine own_iloadN (pc' := 2) X0 hx rfl (hb hby dk_1) rfl ?_
  obtain ⟨c1, B1, q1, s1, u1, H1, G1⟩ := id A_a1
  obtain ⟨v1, hv1⟩ : ∃ z, B (u.toInt) = z := ⟨_, rfl⟩
  have rv1 := hB (u.toInt)
  rw [hv1] at rv1
  have ci1 : u.toInt = u.toInt := by omega
  have i1 := inb_of s1 (j := u) (own_inb (n := 6) ci1 (by decide) (by omega))
  refine own_by (X0.baloadBytes hx (j := u) (v := (.int v1)) (by rw [e0]; exact B1.1) (State.isArrayOf_alike hZ.alike B1.2.1) B1.2.2 i1 (H1.at i1 (by rw [own_at6 ci1 (by omega), hv1])) (g := (mkF m 2 #[.val (.ref a1), .val (.int u), .val (.int w), .unset, .unset, .unset, .unset, .unset, .unset] [(.int u), (.ref a1)])) rfl rfl (hb hby dk_2)) ?_
  show own_Go p e below (Qk Z a1 u w kc B h0 n0) (own_Fr s ({ frames := 1, cells := 0, slots := 0, locals := 16 } : Room).cells ({ frames := 1, cells := 0, slots := 0, locals := 16 } : Room).slots) (s₁.setTop (mkF m 3 #[.val (.ref a1), .val (.int u), .val (.int w), .unset, .unset, .unset, .unset, .unset, .unset] [(.int v1)]))
  refine own_sipush (pc' := 6) X0 hx (255 : Int32) (by decide) (hb hby dk_3) rfl ?_
  obtain ⟨v2, hv2⟩ : ∃ z, v1 &&& (255 : Int32) = z := ⟨_, rfl⟩
  have f3 : v2.toInt = v1.toInt % 256 := by rw [← hv2]; exact c_mask v1 (255 : Int32) 8 (by decide) (by decide)
  refine own_iand (pc' := 7) X0 hx (z := v2) hv2 (hb hby dk_6) rfl ?_
  refine own_istoreN (pc' := 8) X0 hx #[.val (.ref a1), .val (.int u), .val (.int w), .val (.int v2), .unset, .unset, .unset, .unset, .unset] rfl (hb hby dk_7) rfl ?_
  refine own_iloadN (pc' := 9) X0 hx rfl (hb hby dk_8) rfl ?_
  obtain ⟨_, _, ⟨T4, L4, k4, n4⟩, -, X4, ⟨Lc4, hQ4, l4, y4, z4⟩, st4⟩ := Jvm.LawKit.callS X0 hx (y := (⟨"com/example/bookplate/bookplate/marc/Utf8IsWellFormedPinLaw", "len", "(I)I"⟩ : MethodName)) hown (mvT hZ (hw _ (List.mem_of_getElem? (i := 17) rfl))) (mvT hZ (hw _ (List.mem_of_getElem? (i := 18) rfl))) (mvT hZ (hw _ (List.mem_of_getElem? (i := 12) rfl))) (mvT hZ (hw _ (List.mem_of_getElem? (i := 19) rfl))) (by decide) (backOf (W := 0) (rml l Z a0 hw [] v2 h0 n0 Z0 (by omega)) hZ (hw _ (List.mem_of_getElem? (i := 19) rfl)) (hw _ (List.mem_of_getElem? (i := 12) rfl)) (by decide) (by decide)) (g := (mkF m 9 #[.val (.ref a1), .val (.int u), .val (.int w), .val (.int v2), .unset, .unset, .unset, .unset, .unset] [(.int v2)])) rfl (by rw [hml]; rfl) (argsL := [(.int v2)]) (rest := []) (lenOf pd_1 rfl) rfl (by show 2 * 0 + _ ≤ _; exact Nat.le_of_eq rfl) (hb hby dk_9) (fun _ _ => ⟨rfl, e0, (by decide : 0 + 0 ≤ _), (by decide : 0 + 0 ≤ _)⟩)
  dsimp only [Pt.U, Pt.locs, Pt.cells, Pt.slots] at X4 l4 y4 z4 st4 hQ4
  subst y4 z4
  obtain ⟨r_4, rfl, pp4, N4, e4⟩ := hQ4
  have rr_4 := rng32 r_4
  have N4a : Fr n0 L4 := by rw [l4]; exact Fr.app N0 N4
  refine own_by st4 ?_
  show own_Go p e below (Qk Z a1 u w kc B h0 n0) (own_Fr s ({ frames := 1, cells := 0, slots := 0, locals := 16 } : Room).cells ({ frames := 1, cells := 0, slots := 0, locals := 16 } : Room).slots) (T4.setTop (mkF m 12 #[.val (.ref a1), .val (.int u), .val (.int w), .val (.int v2), .unset, .unset, .unset, .unset, .unset] [(.int r_4)]))
  rcases pp4 with ⟨hr4, pp4⟩ | ⟨hr4, pp4⟩ | ⟨hr4, pp4⟩ | ⟨hr4, pp4⟩ | ⟨hr4, pp4⟩
  · obtain rfl : r_4 = (1 : Int32) := Int32.toInt_inj.mp hr4
    refine own_istore (pc' := 14) X4 hx #[.val (.ref a1), .val (.int u), .val (.int w), .val (.int v2), .val (.int (1 : Int32)), .unset, .unset, .unset, .unset] rfl (hb hby dk_12) rfl ?_
    refine own_iload (pc' := 16) X4 hx rfl (hb hby dk_14) rfl ?_
    refine own_ifYes (pc' := 21) X4 hx (hb hby dk_16) (by decide) (by decide) (by decide) ?_
    refine own_iloadN (pc' := 22) X4 hx rfl (hb hby dk_21) rfl ?_
    refine own_iload (pc' := 24) X4 hx rfl (hb hby dk_22) rfl ?_
    obtain ⟨v5, hv5⟩ : ∃ z, u + (1 : Int32) = z := ⟨_, rfl⟩
    have f6 : (v5.toInt - (u.toInt + 1)) % 4294967296 = 0 := by rw [← hv5]; exact c_iadd u (1 : Int32)
    have rv5 := rng32 v5
    replace f6 : v5.toInt = u.toInt + 1 := by omega
    refine own_iadd (pc' := 25) X4 hx (z := v5) hv5 (hb hby dk_24) rfl ?_
    refine own_iloadN (pc' := 26) X4 hx rfl (hb hby dk_25) rfl ?_
    have b7 : ¬ w.toInt < v5.toInt := by omega
    refine own_icmpYes (pc' := 31) X4 hx (hb hby dk_26) (own_yes_le rfl rfl b7) (by decide) (by decide) ?_
    refine own_iload (pc' := 33) X4 hx rfl (hb hby dk_31) rfl ?_
    refine own_iconst (pc' := 34) X4 hx (1 : Int32) (by decide) (hb hby dk_33) rfl ?_
    refine own_icmpNo (pc' := 37) X4 hx (by decide) (hb hby dk_34) rfl ?_
    refine own_iconst (pc' := 38) X4 hx (1 : Int32) (by decide) (hb hby dk_37) rfl ?_
    refine own_ret X4 hx Bd.returns Bd.notSynchronized (Or.inl ⟨rfl, by simp, _, rfl⟩) (hb hby dk_38) rfl (by decide) (by decide) ?_
    show Qk Z a1 u w kc B h0 n0 _ T4.heap _
    rw [e4]
    have kc0 : ((1 : Int32)).toInt = 1 := by decide
    subst hv1
    have hL : own_Lk B w.toInt u.toInt = 1 := own_L_1 (by unfold own_U; omega)
    exact ⟨(1 : Int32), rfl, by omega, N4a, rfl⟩
  · obtain rfl : r_4 = (2 : Int32) := Int32.toInt_inj.mp hr4
    refine own_istore (pc' := 14) X4 hx #[.val (.ref a1), .val (.int u), .val (.int w), .val (.int v2), .val (.int (2 : Int32)), .unset, .unset, .unset, .unset] rfl (hb hby dk_12) rfl ?_
    refine own_iload (pc' := 16) X4 hx rfl (hb hby dk_14) rfl ?_
    refine own_ifYes (pc' := 21) X4 hx (hb hby dk_16) (by decide) (by decide) (by decide) ?_
    refine own_iloadN (pc' := 22) X4 hx rfl (hb hby dk_21) rfl ?_
    refine own_iload (pc' := 24) X4 hx rfl (hb hby dk_22) rfl ?_
    obtain ⟨v8, hv8⟩ : ∃ z, u + (2 : Int32) = z := ⟨_, rfl⟩
    have f9 : (v8.toInt - (u.toInt + 2)) % 4294967296 = 0 := by rw [← hv8]; exact c_iadd u (2 : Int32)
    have rv8 := rng32 v8
    replace f9 : v8.toInt = u.toInt + 2 := by omega
    refine own_iadd (pc' := 25) X4 hx (z := v8) hv8 (hb hby dk_24) rfl ?_
    refine own_iloadN (pc' := 26) X4 hx rfl (hb hby dk_25) rfl ?_
    by_cases b10 : w.toInt < v8.toInt
    · refine own_icmpNo (pc' := 29) X4 hx (own_no_le rfl rfl b10) (hb hby dk_26) rfl ?_
      refine own_iconst (pc' := 30) X4 hx (0 : Int32) (by decide) (hb hby dk_29) rfl ?_
      refine own_ret X4 hx Bd.returns Bd.notSynchronized (Or.inl ⟨rfl, by simp, _, rfl⟩) (hb hby dk_30) rfl (by decide) (by decide) ?_
      show Qk Z a1 u w kc B h0 n0 _ T4.heap _
      rw [e4]
      have kc0 : ((0 : Int32)).toInt = 0 := by decide
      subst hv1
      have hL : own_Lk B w.toInt u.toInt = 0 := own_L_0 (by unfold own_U; omega) (by unfold own_D2 own_U; omega) (by unfold own_D3 own_U; omega) (by unfold own_D4 own_U; omega)
      exact ⟨(0 : Int32), rfl, by omega, N4a, rfl⟩
    · refine own_icmpYes (pc' := 31) X4 hx (hb hby dk_26) (own_yes_le rfl rfl b10) (by decide) (by decide) ?_
      refine own_iload (pc' := 33) X4 hx rfl (hb hby dk_31) rfl ?_
      refine own_iconst (pc' := 34) X4 hx (1 : Int32) (by decide) (hb hby dk_33) rfl ?_
      refine own_icmpYes (pc' := 39) X4 hx (hb hby dk_34) (by decide) (by decide) (by decide) ?_
      refine own_aloadN (pc' := 40) X4 hx rfl rfl (hb hby dk_39) rfl ?_
      refine own_iloadN (pc' := 41) X4 hx rfl (hb hby dk_40) rfl ?_
      refine own_iconst (pc' := 42) X4 hx (1 : Int32) (by decide) (hb hby dk_41) rfl ?_
      obtain ⟨v11, hv11⟩ : ∃ z, u + (1 : Int32) = z := ⟨_, rfl⟩
      have f12 : (v11.toInt - (u.toInt + 1)) % 4294967296 = 0 := by rw [← hv11]; exact c_iadd u (1 : Int32)
      have rv11 := rng32 v11
      replace f12 : v11.toInt = u.toInt + 1 := by omega
      refine own_iadd (pc' := 43) X4 hx (z := v11) hv11 (hb hby dk_42) rfl ?_
      obtain ⟨c13, B13, q13, s13, u13, H13, G13⟩ := id A_a1
      obtain ⟨v13, hv13⟩ : ∃ z, B (u.toInt + 1) = z := ⟨_, rfl⟩
      have rv13 := hB (u.toInt + 1)
      rw [hv13] at rv13
      have ci13 : v11.toInt = u.toInt + 1 := by omega
      have i13 := inb_of s13 (j := v11) (own_inb (n := 6) ci13 (by decide) (by omega))
      refine own_by (X4.baloadBytes hx (j := v11) (v := (.int v13)) (by rw [e4]; exact B13.1) (State.isArrayOf_alike hZ.alike B13.2.1) B13.2.2 i13 (H13.at i13 (by rw [own_at6 ci13 (by omega), hv13])) (g := (mkF m 43 #[.val (.ref a1), .val (.int u), .val (.int w), .val (.int v2), .val (.int (2 : Int32)), .unset, .unset, .unset, .unset] [(.int v11), (.ref a1)])) rfl rfl (hb hby dk_43)) ?_
      show own_Go p e below (Qk Z a1 u w kc B h0 n0) (own_Fr s ({ frames := 1, cells := 0, slots := 0, locals := 16 } : Room).cells ({ frames := 1, cells := 0, slots := 0, locals := 16 } : Room).slots) (T4.setTop (mkF m 44 #[.val (.ref a1), .val (.int u), .val (.int w), .val (.int v2), .val (.int (2 : Int32)), .unset, .unset, .unset, .unset] [(.int v13)]))
      refine own_sipush (pc' := 47) X4 hx (255 : Int32) (by decide) (hb hby dk_44) rfl ?_
      obtain ⟨v14, hv14⟩ : ∃ z, v13 &&& (255 : Int32) = z := ⟨_, rfl⟩
      have f15 : v14.toInt = v13.toInt % 256 := by rw [← hv14]; exact c_mask v13 (255 : Int32) 8 (by decide) (by decide)
      refine own_iand (pc' := 48) X4 hx (z := v14) hv14 (hb hby dk_47) rfl ?_
      refine own_istore (pc' := 50) X4 hx #[.val (.ref a1), .val (.int u), .val (.int w), .val (.int v2), .val (.int (2 : Int32)), .val (.int v14), .unset, .unset, .unset] rfl (hb hby dk_48) rfl ?_
      refine own_iload (pc' := 52) X4 hx rfl (hb hby dk_50) rfl ?_
      refine own_sipush (pc' := 55) X4 hx (192 : Int32) (by decide) (hb hby dk_52) rfl ?_
      obtain ⟨v16, hv16⟩ : ∃ z, v14 &&& (192 : Int32) = z := ⟨_, rfl⟩
      have rv16 := rng32 v16
      have f17 : v16.toInt = v14.toInt / 64 * 64 := by rw [← hv16]; exact (own_hm (by omega)).1
      refine own_iand (pc' := 56) X4 hx (z := v16) hv16 (hb hby dk_55) rfl ?_
      refine own_sipush (pc' := 59) X4 hx (128 : Int32) (by decide) (hb hby dk_56) rfl ?_
      by_cases b18 : v16.toInt = 128
      · refine own_icmpYes (pc' := 64) X4 hx (hb hby dk_59) (own_yes_eq rfl (by decide) b18) (by decide) (by decide) ?_
        refine own_iload (pc' := 66) X4 hx rfl (hb hby dk_64) rfl ?_
        refine own_iconst (pc' := 67) X4 hx (2 : Int32) (by decide) (hb hby dk_66) rfl ?_
        refine own_icmpNo (pc' := 70) X4 hx (by decide) (hb hby dk_67) rfl ?_
        refine own_iloadN (pc' := 71) X4 hx rfl (hb hby dk_70) rfl ?_
        refine own_bipush (pc' := 73) X4 hx (31 : Int32) (by decide) (hb hby dk_71) rfl ?_
        obtain ⟨v19, hv19⟩ : ∃ z, v2 &&& (31 : Int32) = z := ⟨_, rfl⟩
        have f20 : v19.toInt = v2.toInt % 32 := by rw [← hv19]; exact c_mask v2 (31 : Int32) 5 (by decide) (by decide)
        refine own_iand (pc' := 74) X4 hx (z := v19) hv19 (hb hby dk_73) rfl ?_
        refine own_bipush (pc' := 76) X4 hx (6 : Int32) (by decide) (hb hby dk_74) rfl ?_
        obtain ⟨v21, hv21⟩ : ∃ z, v19 <<< ((6 : Int32) &&& 31) = z := ⟨_, rfl⟩
        have f22 : (v21.toInt - v19.toInt * 64) % 4294967296 = 0 := by rw [← hv21]; exact c_ishl v19 (6 : Int32) 6 (by decide)
        have rv21 := rng32 v21
        replace f22 : v21.toInt = v19.toInt * 64 := by omega
        refine own_ishl (pc' := 77) X4 hx (z := v21) hv21 (hb hby dk_76) rfl ?_
        refine own_iload (pc' := 79) X4 hx rfl (hb hby dk_77) rfl ?_
        refine own_bipush (pc' := 81) X4 hx (63 : Int32) (by decide) (hb hby dk_79) rfl ?_
        obtain ⟨v23, hv23⟩ : ∃ z, v14 &&& (63 : Int32) = z := ⟨_, rfl⟩
        have f24 : v23.toInt = v14.toInt % 64 := by rw [← hv23]; exact c_mask v14 (63 : Int32) 6 (by decide) (by decide)
        refine own_iand (pc' := 82) X4 hx (z := v23) hv23 (hb hby dk_81) rfl ?_
        obtain ⟨v25, hv25⟩ : ∃ z, v21 ||| v23 = z := ⟨_, rfl⟩
        have f26 : (v25.toInt - (v21.toInt + v23.toInt)) % 4294967296 = 0 := by rw [← hv25]; exact c_or v21 v23 6 (by decide) 64 (by decide) (by omega) (by omega) (by omega)
        have rv25 := rng32 v25
        replace f26 : v25.toInt = v21.toInt + v23.toInt := by omega
        refine own_ior (pc' := 83) X4 hx (z := v25) hv25 (hb hby dk_82) rfl ?_
        refine own_istore (pc' := 85) X4 hx #[.val (.ref a1), .val (.int u), .val (.int w), .val (.int v2), .val (.int (2 : Int32)), .val (.int v14), .val (.int v25), .unset, .unset] rfl (hb hby dk_83) rfl ?_
        refine own_iload (pc' := 87) X4 hx rfl (hb hby dk_85) rfl ?_
        refine own_sipush (pc' := 90) X4 hx (128 : Int32) (by decide) (hb hby dk_87) rfl ?_
        by_cases b27 : v25.toInt < 128
        · refine own_icmpYes (pc' := 97) X4 hx (hb hby dk_90) (own_yes_lt rfl (by decide) b27) (by decide) (by decide) ?_
          refine own_iconst (pc' := 98) X4 hx (0 : Int32) (by decide) (hb hby dk_97) rfl ?_
          refine own_ret X4 hx Bd.returns Bd.notSynchronized (Or.inl ⟨rfl, by simp, _, rfl⟩) (hb hby dk_98) rfl (by decide) (by decide) ?_
          show Qk Z a1 u w kc B h0 n0 _ T4.heap _
          rw [e4]
          have kc0 : ((0 : Int32)).toInt = 0 := by decide
          subst hv1
          subst hv13
          have hL : own_Lk B w.toInt u.toInt = 0 := own_L_0 (by unfold own_U; omega) (by unfold own_D2 own_U; omega) (by unfold own_D3 own_U; omega) (by unfold own_D4 own_U; omega)
          exact ⟨(0 : Int32), rfl, by omega, N4a, rfl⟩
        · refine own_icmpNo (pc' := 93) X4 hx (own_no_lt rfl (by decide) b27) (hb hby dk_90) rfl ?_
          refine own_iconst (pc' := 94) X4 hx (1 : Int32) (by decide) (hb hby dk_93) rfl ?_
          refine own_goto (pc' := 98) X4 hx (hb hby dk_94) (by decide) (by decide) ?_
          refine own_ret X4 hx Bd.returns Bd.notSynchronized (Or.inl ⟨rfl, by simp, _, rfl⟩) (hb hby dk_98) rfl (by decide) (by decide) ?_
          show Qk Z a1 u w kc B h0 n0 _ T4.heap _
          rw [e4]
          have kc0 : ((1 : Int32)).toInt = 1 := by decide
          subst hv1
          subst hv13
          have hL : own_Lk B w.toInt u.toInt = 2 := own_L_2 (by unfold own_D2 own_U; omega)
          exact ⟨(1 : Int32), rfl, by omega, N4a, rfl⟩
      · refine own_icmpNo (pc' := 62) X4 hx (own_no_eq rfl (by decide) b18) (hb hby dk_59) rfl ?_
        refine own_iconst (pc' := 63) X4 hx (0 : Int32) (by decide) (hb hby dk_62) rfl ?_
        refine own_ret X4 hx Bd.returns Bd.notSynchronized (Or.inl ⟨rfl, by simp, _, rfl⟩) (hb hby dk_63) rfl (by decide) (by decide) ?_
        show Qk Z a1 u w kc B h0 n0 _ T4.heap _
        rw [e4]
        have kc0 : ((0 : Int32)).toInt = 0 := by decide
        subst hv1
        subst hv13
        have hL : own_Lk B w.toInt u.toInt = 0 := own_L_0 (by unfold own_U; omega) (by unfold own_D2 own_U; omega) (by unfold own_D3 own_U; omega) (by unfold own_D4 own_U; omega)
        exact ⟨(0 : Int32), rfl, by omega, N4a, rfl⟩
  · obtain rfl : r_4 = (3 : Int32) := Int32.toInt_inj.mp hr4
    refine own_istore (pc' := 14) X4 hx #[.val (.ref a1), .val (.int u), .val (.int w), .val (.int v2), .val (.int (3 : Int32)), .unset, .unset, .unset, .unset] rfl (hb hby dk_12) rfl ?_
    refine own_iload (pc' := 16) X4 hx rfl (hb hby dk_14) rfl ?_
    refine own_ifYes (pc' := 21) X4 hx (hb hby dk_16) (by decide) (by decide) (by decide) ?_
    refine own_iloadN (pc' := 22) X4 hx rfl (hb hby dk_21) rfl ?_
    refine own_iload (pc' := 24) X4 hx rfl (hb hby dk_22) rfl ?_
    obtain ⟨v28, hv28⟩ : ∃ z, u + (3 : Int32) = z := ⟨_, rfl⟩
    have f29 : (v28.toInt - (u.toInt + 3)) % 4294967296 = 0 := by rw [← hv28]; exact c_iadd u (3 : Int32)
    have rv28 := rng32 v28
    replace f29 : v28.toInt = u.toInt + 3 := by omega
    refine own_iadd (pc' := 25) X4 hx (z := v28) hv28 (hb hby dk_24) rfl ?_
    refine own_iloadN (pc' := 26) X4 hx rfl (hb hby dk_25) rfl ?_
    by_cases b30 : w.toInt < v28.toInt
    · refine own_icmpNo (pc' := 29) X4 hx (own_no_le rfl rfl b30) (hb hby dk_26) rfl ?_
      refine own_iconst (pc' := 30) X4 hx (0 : Int32) (by decide) (hb hby dk_29) rfl ?_
      refine own_ret X4 hx Bd.returns Bd.notSynchronized (Or.inl ⟨rfl, by simp, _, rfl⟩) (hb hby dk_30) rfl (by decide) (by decide) ?_
      show Qk Z a1 u w kc B h0 n0 _ T4.heap _
      rw [e4]
      have kc0 : ((0 : Int32)).toInt = 0 := by decide
      subst hv1
      have hL : own_Lk B w.toInt u.toInt = 0 := own_L_0 (by unfold own_U; omega) (by unfold own_D2 own_U; omega) (by unfold own_D3 own_U; omega) (by unfold own_D4 own_U; omega)
      exact ⟨(0 : Int32), rfl, by omega, N4a, rfl⟩
    · refine own_icmpYes (pc' := 31) X4 hx (hb hby dk_26) (own_yes_le rfl rfl b30) (by decide) (by decide) ?_
      refine own_iload (pc' := 33) X4 hx rfl (hb hby dk_31) rfl ?_
      refine own_iconst (pc' := 34) X4 hx (1 : Int32) (by decide) (hb hby dk_33) rfl ?_
      refine own_icmpYes (pc' := 39) X4 hx (hb hby dk_34) (by decide) (by decide) (by decide) ?_
      refine own_aloadN (pc' := 40) X4 hx rfl rfl (hb hby dk_39) rfl ?_
      refine own_iloadN (pc' := 41) X4 hx rfl (hb hby dk_40) rfl ?_
      refine own_iconst (pc' := 42) X4 hx (1 : Int32) (by decide) (hb hby dk_41) rfl ?_
      obtain ⟨v31, hv31⟩ : ∃ z, u + (1 : Int32) = z := ⟨_, rfl⟩
      have f32 : (v31.toInt - (u.toInt + 1)) % 4294967296 = 0 := by rw [← hv31]; exact c_iadd u (1 : Int32)
      have rv31 := rng32 v31
      replace f32 : v31.toInt = u.toInt + 1 := by omega
      refine own_iadd (pc' := 43) X4 hx (z := v31) hv31 (hb hby dk_42) rfl ?_
      obtain ⟨c33, B33, q33, s33, u33, H33, G33⟩ := id A_a1
      obtain ⟨v33, hv33⟩ : ∃ z, B (u.toInt + 1) = z := ⟨_, rfl⟩
      have rv33 := hB (u.toInt + 1)
      rw [hv33] at rv33
      have ci33 : v31.toInt = u.toInt + 1 := by omega
      have i33 := inb_of s33 (j := v31) (own_inb (n := 6) ci33 (by decide) (by omega))
      refine own_by (X4.baloadBytes hx (j := v31) (v := (.int v33)) (by rw [e4]; exact B33.1) (State.isArrayOf_alike hZ.alike B33.2.1) B33.2.2 i33 (H33.at i33 (by rw [own_at6 ci33 (by omega), hv33])) (g := (mkF m 43 #[.val (.ref a1), .val (.int u), .val (.int w), .val (.int v2), .val (.int (3 : Int32)), .unset, .unset, .unset, .unset] [(.int v31), (.ref a1)])) rfl rfl (hb hby dk_43)) ?_
      show own_Go p e below (Qk Z a1 u w kc B h0 n0) (own_Fr s ({ frames := 1, cells := 0, slots := 0, locals := 16 } : Room).cells ({ frames := 1, cells := 0, slots := 0, locals := 16 } : Room).slots) (T4.setTop (mkF m 44 #[.val (.ref a1), .val (.int u), .val (.int w), .val (.int v2), .val (.int (3 : Int32)), .unset, .unset, .unset, .unset] [(.int v33)]))
      refine own_sipush (pc' := 47) X4 hx (255 : Int32) (by decide) (hb hby dk_44) rfl ?_
      obtain ⟨v34, hv34⟩ : ∃ z, v33 &&& (255 : Int32) = z := ⟨_, rfl⟩
      have f35 : v34.toInt = v33.toInt % 256 := by rw [← hv34]; exact c_mask v33 (255 : Int32) 8 (by decide) (by decide)
      refine own_iand (pc' := 48) X4 hx (z := v34) hv34 (hb hby dk_47) rfl ?_
      refine own_istore (pc' := 50) X4 hx #[.val (.ref a1), .val (.int u), .val (.int w), .val (.int v2), .val (.int (3 : Int32)), .val (.int v34), .unset, .unset, .unset] rfl (hb hby dk_48) rfl ?_
      refine own_iload (pc' := 52) X4 hx rfl (hb hby dk_50) rfl ?_
      refine own_sipush (pc' := 55) X4 hx (192 : Int32) (by decide) (hb hby dk_52) rfl ?_
      obtain ⟨v36, hv36⟩ : ∃ z, v34 &&& (192 : Int32) = z := ⟨_, rfl⟩
      have rv36 := rng32 v36
      have f37 : v36.toInt = v34.toInt / 64 * 64 := by rw [← hv36]; exact (own_hm (by omega)).1
      refine own_iand (pc' := 56) X4 hx (z := v36) hv36 (hb hby dk_55) rfl ?_
      refine own_sipush (pc' := 59) X4 hx (128 : Int32) (by decide) (hb hby dk_56) rfl ?_
      by_cases b38 : v36.toInt = 128
      · refine own_icmpYes (pc' := 64) X4 hx (hb hby dk_59) (own_yes_eq rfl (by decide) b38) (by decide) (by decide) ?_
        refine own_iload (pc' := 66) X4 hx rfl (hb hby dk_64) rfl ?_
        refine own_iconst (pc' := 67) X4 hx (2 : Int32) (by decide) (hb hby dk_66) rfl ?_
        refine own_icmpYes (pc' := 99) X4 hx (hb hby dk_67) (by decide) (by decide) (by decide) ?_
        refine own_aloadN (pc' := 100) X4 hx rfl rfl (hb hby dk_99) rfl ?_
        refine own_iloadN (pc' := 101) X4 hx rfl (hb hby dk_100) rfl ?_
        refine own_iconst (pc' := 102) X4 hx (2 : Int32) (by decide) (hb hby dk_101) rfl ?_
        obtain ⟨v39, hv39⟩ : ∃ z, u + (2 : Int32) = z := ⟨_, rfl⟩
        have f40 : (v39.toInt - (u.toInt + 2)) % 4294967296 = 0 := by rw [← hv39]; exact c_iadd u (2 : Int32)
        have rv39 := rng32 v39
        replace f40 : v39.toInt = u.toInt + 2 := by omega
        refine own_iadd (pc' := 103) X4 hx (z := v39) hv39 (hb hby dk_102) rfl ?_
        obtain ⟨c41, B41, q41, s41, u41, H41, G41⟩ := id A_a1
        obtain ⟨v41, hv41⟩ : ∃ z, B (u.toInt + 2) = z := ⟨_, rfl⟩
        have rv41 := hB (u.toInt + 2)
        rw [hv41] at rv41
        have ci41 : v39.toInt = u.toInt + 2 := by omega
        have i41 := inb_of s41 (j := v39) (own_inb (n := 6) ci41 (by decide) (by omega))
        refine own_by (X4.baloadBytes hx (j := v39) (v := (.int v41)) (by rw [e4]; exact B41.1) (State.isArrayOf_alike hZ.alike B41.2.1) B41.2.2 i41 (H41.at i41 (by rw [own_at6 ci41 (by omega), hv41])) (g := (mkF m 103 #[.val (.ref a1), .val (.int u), .val (.int w), .val (.int v2), .val (.int (3 : Int32)), .val (.int v34), .unset, .unset, .unset] [(.int v39), (.ref a1)])) rfl rfl (hb hby dk_103)) ?_
        show own_Go p e below (Qk Z a1 u w kc B h0 n0) (own_Fr s ({ frames := 1, cells := 0, slots := 0, locals := 16 } : Room).cells ({ frames := 1, cells := 0, slots := 0, locals := 16 } : Room).slots) (T4.setTop (mkF m 104 #[.val (.ref a1), .val (.int u), .val (.int w), .val (.int v2), .val (.int (3 : Int32)), .val (.int v34), .unset, .unset, .unset] [(.int v41)]))
        refine own_sipush (pc' := 107) X4 hx (255 : Int32) (by decide) (hb hby dk_104) rfl ?_
        obtain ⟨v42, hv42⟩ : ∃ z, v41 &&& (255 : Int32) = z := ⟨_, rfl⟩
        have f43 : v42.toInt = v41.toInt % 256 := by rw [← hv42]; exact c_mask v41 (255 : Int32) 8 (by decide) (by decide)
        refine own_iand (pc' := 108) X4 hx (z := v42) hv42 (hb hby dk_107) rfl ?_
        refine own_istore (pc' := 110) X4 hx #[.val (.ref a1), .val (.int u), .val (.int w), .val (.int v2), .val (.int (3 : Int32)), .val (.int v34), .val (.int v42), .unset, .unset] rfl (hb hby dk_108) rfl ?_
        refine own_iload (pc' := 112) X4 hx rfl (hb hby dk_110) rfl ?_
        refine own_sipush (pc' := 115) X4 hx (192 : Int32) (by decide) (hb hby dk_112) rfl ?_
        obtain ⟨v44, hv44⟩ : ∃ z, v42 &&& (192 : Int32) = z := ⟨_, rfl⟩
        have rv44 := rng32 v44
        have f45 : v44.toInt = v42.toInt / 64 * 64 := by rw [← hv44]; exact (own_hm (by omega)).1
        refine own_iand (pc' := 116) X4 hx (z := v44) hv44 (hb hby dk_115) rfl ?_
        refine own_sipush (pc' := 119) X4 hx (128 : Int32) (by decide) (hb hby dk_116) rfl ?_
        by_cases b46 : v44.toInt = 128
        · refine own_icmpYes (pc' := 124) X4 hx (hb hby dk_119) (own_yes_eq rfl (by decide) b46) (by decide) (by decide) ?_
          refine own_iload (pc' := 126) X4 hx rfl (hb hby dk_124) rfl ?_
          refine own_iconst (pc' := 127) X4 hx (3 : Int32) (by decide) (hb hby dk_126) rfl ?_
          refine own_icmpNo (pc' := 130) X4 hx (by decide) (hb hby dk_127) rfl ?_
          refine own_iloadN (pc' := 131) X4 hx rfl (hb hby dk_130) rfl ?_
          refine own_bipush (pc' := 133) X4 hx (15 : Int32) (by decide) (hb hby dk_131) rfl ?_
          obtain ⟨v47, hv47⟩ : ∃ z, v2 &&& (15 : Int32) = z := ⟨_, rfl⟩
          have f48 : v47.toInt = v2.toInt % 16 := by rw [← hv47]; exact c_mask v2 (15 : Int32) 4 (by decide) (by decide)
          refine own_iand (pc' := 134) X4 hx (z := v47) hv47 (hb hby dk_133) rfl ?_
          refine own_bipush (pc' := 136) X4 hx (12 : Int32) (by decide) (hb hby dk_134) rfl ?_
          obtain ⟨v49, hv49⟩ : ∃ z, v47 <<< ((12 : Int32) &&& 31) = z := ⟨_, rfl⟩
          have f50 : (v49.toInt - v47.toInt * 4096) % 4294967296 = 0 := by rw [← hv49]; exact c_ishl v47 (12 : Int32) 12 (by decide)
          have rv49 := rng32 v49
          replace f50 : v49.toInt = v47.toInt * 4096 := by omega
          refine own_ishl (pc' := 137) X4 hx (z := v49) hv49 (hb hby dk_136) rfl ?_
          refine own_iload (pc' := 139) X4 hx rfl (hb hby dk_137) rfl ?_
          refine own_bipush (pc' := 141) X4 hx (63 : Int32) (by decide) (hb hby dk_139) rfl ?_
          obtain ⟨v51, hv51⟩ : ∃ z, v34 &&& (63 : Int32) = z := ⟨_, rfl⟩
          have f52 : v51.toInt = v34.toInt % 64 := by rw [← hv51]; exact c_mask v34 (63 : Int32) 6 (by decide) (by decide)
          refine own_iand (pc' := 142) X4 hx (z := v51) hv51 (hb hby dk_141) rfl ?_
          refine own_bipush (pc' := 144) X4 hx (6 : Int32) (by decide) (hb hby dk_142) rfl ?_
          obtain ⟨v53, hv53⟩ : ∃ z, v51 <<< ((6 : Int32) &&& 31) = z := ⟨_, rfl⟩
          have f54 : (v53.toInt - v51.toInt * 64) % 4294967296 = 0 := by rw [← hv53]; exact c_ishl v51 (6 : Int32) 6 (by decide)
          have rv53 := rng32 v53
          replace f54 : v53.toInt = v51.toInt * 64 := by omega
          refine own_ishl (pc' := 145) X4 hx (z := v53) hv53 (hb hby dk_144) rfl ?_
          obtain ⟨v55, hv55⟩ : ∃ z, v49 ||| v53 = z := ⟨_, rfl⟩
          have f56 : (v55.toInt - (v49.toInt + v53.toInt)) % 4294967296 = 0 := by rw [← hv55]; exact c_or v49 v53 12 (by decide) 4096 (by decide) (by omega) (by omega) (by omega)
          have rv55 := rng32 v55
          replace f56 : v55.toInt = v49.toInt + v53.toInt := by omega
          refine own_ior (pc' := 146) X4 hx (z := v55) hv55 (hb hby dk_145) rfl ?_
          refine own_iload (pc' := 148) X4 hx rfl (hb hby dk_146) rfl ?_
          refine own_bipush (pc' := 150) X4 hx (63 : Int32) (by decide) (hb hby dk_148) rfl ?_
          obtain ⟨v57, hv57⟩ : ∃ z, v42 &&& (63 : Int32) = z := ⟨_, rfl⟩
          have f58 : v57.toInt = v42.toInt % 64 := by rw [← hv57]; exact c_mask v42 (63 : Int32) 6 (by decide) (by decide)
          refine own_iand (pc' := 151) X4 hx (z := v57) hv57 (hb hby dk_150) rfl ?_
          obtain ⟨v59, hv59⟩ : ∃ z, v55 ||| v57 = z := ⟨_, rfl⟩
          have f60 : (v59.toInt - (v55.toInt + v57.toInt)) % 4294967296 = 0 := by rw [← hv59]; exact c_or v55 v57 6 (by decide) 64 (by decide) (by omega) (by omega) (by omega)
          have rv59 := rng32 v59
          replace f60 : v59.toInt = v55.toInt + v57.toInt := by omega
          refine own_ior (pc' := 152) X4 hx (z := v59) hv59 (hb hby dk_151) rfl ?_
          refine own_istore (pc' := 154) X4 hx #[.val (.ref a1), .val (.int u), .val (.int w), .val (.int v2), .val (.int (3 : Int32)), .val (.int v34), .val (.int v42), .val (.int v59), .unset] rfl (hb hby dk_152) rfl ?_
          refine own_iload (pc' := 156) X4 hx rfl (hb hby dk_154) rfl ?_
          refine own_sipush (pc' := 159) X4 hx (2048 : Int32) (by decide) (hb hby dk_156) rfl ?_
          by_cases b61 : v59.toInt < 2048
          · refine own_icmpYes (pc' := 180) X4 hx (hb hby dk_159) (own_yes_lt rfl (by decide) b61) (by decide) (by decide) ?_
            refine own_iconst (pc' := 181) X4 hx (0 : Int32) (by decide) (hb hby dk_180) rfl ?_
            refine own_ret X4 hx Bd.returns Bd.notSynchronized (Or.inl ⟨rfl, by simp, _, rfl⟩) (hb hby dk_181) rfl (by decide) (by decide) ?_
            show Qk Z a1 u w kc B h0 n0 _ T4.heap _
            rw [e4]
            have kc0 : ((0 : Int32)).toInt = 0 := by decide
            subst hv1
            subst hv33
            subst hv41
            have hL : own_Lk B w.toInt u.toInt = 0 := own_L_0 (by unfold own_U; omega) (by unfold own_D2 own_U; omega) (by unfold own_D3 own_U; omega) (by unfold own_D4 own_U; omega)
            exact ⟨(0 : Int32), rfl, by omega, N4a, rfl⟩
          · refine own_icmpNo (pc' := 162) X4 hx (own_no_lt rfl (by decide) b61) (hb hby dk_159) rfl ?_
            refine own_iload (pc' := 164) X4 hx rfl (hb hby dk_162) rfl ?_
            refine own_ldcInt (pc' := 166) X4 hx hZ hown (hw _ (List.mem_of_getElem? (i := 27) rfl)) (hb hby dk_164) rfl ?_
            by_cases b62 : v59.toInt < 55296
            · refine own_icmpYes (pc' := 176) X4 hx (hb hby dk_166) (own_yes_lt rfl (by decide) b62) (by decide) (by decide) ?_
              refine own_iconst (pc' := 177) X4 hx (1 : Int32) (by decide) (hb hby dk_176) rfl ?_
              refine own_goto (pc' := 181) X4 hx (hb hby dk_177) (by decide) (by decide) ?_
              refine own_ret X4 hx Bd.returns Bd.notSynchronized (Or.inl ⟨rfl, by simp, _, rfl⟩) (hb hby dk_181) rfl (by decide) (by decide) ?_
              show Qk Z a1 u w kc B h0 n0 _ T4.heap _
              rw [e4]
              have kc0 : ((1 : Int32)).toInt = 1 := by decide
              subst hv1
              subst hv33
              subst hv41
              have hL : own_Lk B w.toInt u.toInt = 3 := own_L_3 (by unfold own_D3 own_U; omega)
              exact ⟨(1 : Int32), rfl, by omega, N4a, rfl⟩
            · refine own_icmpNo (pc' := 169) X4 hx (own_no_lt rfl (by decide) b62) (hb hby dk_166) rfl ?_
              refine own_iload (pc' := 171) X4 hx rfl (hb hby dk_169) rfl ?_
              refine own_ldcInt (pc' := 173) X4 hx hZ hown (hw _ (List.mem_of_getElem? (i := 28) rfl)) (hb hby dk_171) rfl ?_
              by_cases b63 : 57343 < v59.toInt
              · refine own_icmpNo (pc' := 176) X4 hx (own_no_le rfl (by decide) b63) (hb hby dk_173) rfl ?_
                refine own_iconst (pc' := 177) X4 hx (1 : Int32) (by decide) (hb hby dk_176) rfl ?_
                refine own_goto (pc' := 181) X4 hx (hb hby dk_177) (by decide) (by decide) ?_
                refine own_ret X4 hx Bd.returns Bd.notSynchronized (Or.inl ⟨rfl, by simp, _, rfl⟩) (hb hby dk_181) rfl (by decide) (by decide) ?_
                show Qk Z a1 u w kc B h0 n0 _ T4.heap _
                rw [e4]
                have kc0 : ((1 : Int32)).toInt = 1 := by decide
                subst hv1
                subst hv33
                subst hv41
                have hL : own_Lk B w.toInt u.toInt = 3 := own_L_3 (by unfold own_D3 own_U; omega)
                exact ⟨(1 : Int32), rfl, by omega, N4a, rfl⟩
              · refine own_icmpYes (pc' := 180) X4 hx (hb hby dk_173) (own_yes_le rfl (by decide) b63) (by decide) (by decide) ?_
                refine own_iconst (pc' := 181) X4 hx (0 : Int32) (by decide) (hb hby dk_180) rfl ?_
                refine own_ret X4 hx Bd.returns Bd.notSynchronized (Or.inl ⟨rfl, by simp, _, rfl⟩) (hb hby dk_181) rfl (by decide) (by decide) ?_
                show Qk Z a1 u w kc B h0 n0 _ T4.heap _
                rw [e4]
                have kc0 : ((0 : Int32)).toInt = 0 := by decide
                subst hv1
                subst hv33
                subst hv41
                have hL : own_Lk B w.toInt u.toInt = 0 := own_L_0 (by unfold own_U; omega) (by unfold own_D2 own_U; omega) (by unfold own_D3 own_U; omega) (by unfold own_D4 own_U; omega)
                exact ⟨(0 : Int32), rfl, by omega, N4a, rfl⟩
        · refine own_icmpNo (pc' := 122) X4 hx (own_no_eq rfl (by decide) b46) (hb hby dk_119) rfl ?_
          refine own_iconst (pc' := 123) X4 hx (0 : Int32) (by decide) (hb hby dk_122) rfl ?_
          refine own_ret X4 hx Bd.returns Bd.notSynchronized (Or.inl ⟨rfl, by simp, _, rfl⟩) (hb hby dk_123) rfl (by decide) (by decide) ?_
          show Qk Z a1 u w kc B h0 n0 _ T4.heap _
          rw [e4]
          have kc0 : ((0 : Int32)).toInt = 0 := by decide
          subst hv1
          subst hv33
          subst hv41
          have hL : own_Lk B w.toInt u.toInt = 0 := own_L_0 (by unfold own_U; omega) (by unfold own_D2 own_U; omega) (by unfold own_D3 own_U; omega) (by unfold own_D4 own_U; omega)
          exact ⟨(0 : Int32), rfl, by omega, N4a, rfl⟩
      · refine own_icmpNo (pc' := 62) X4 hx (own_no_eq rfl (by decide) b38) (hb hby dk_59) rfl ?_
        refine own_iconst (pc' := 63) X4 hx (0 : Int32) (by decide) (hb hby dk_62) rfl ?_
        refine own_ret X4 hx Bd.returns Bd.notSynchronized (Or.inl ⟨rfl, by simp, _, rfl⟩) (hb hby dk_63) rfl (by decide) (by decide) ?_
        show Qk Z a1 u w kc B h0 n0 _ T4.heap _
        rw [e4]
        have kc0 : ((0 : Int32)).toInt = 0 := by decide
        subst hv1
        subst hv33
        have hL : own_Lk B w.toInt u.toInt = 0 := own_L_0 (by unfold own_U; omega) (by unfold own_D2 own_U; omega) (by unfold own_D3 own_U; omega) (by unfold own_D4 own_U; omega)
        exact ⟨(0 : Int32), rfl, by omega, N4a, rfl⟩
  · obtain rfl : r_4 = (4 : Int32) := Int32.toInt_inj.mp hr4
    refine own_istore (pc' := 14) X4 hx #[.val (.ref a1), .val (.int u), .val (.int w), .val (.int v2), .val (.int (4 : Int32)), .unset, .unset, .unset, .unset] rfl (hb hby dk_12) rfl ?_
    refine own_iload (pc' := 16) X4 hx rfl (hb hby dk_14) rfl ?_
    refine own_ifYes (pc' := 21) X4 hx (hb hby dk_16) (by decide) (by decide) (by decide) ?_
    refine own_iloadN (pc' := 22) X4 hx rfl (hb hby dk_21) rfl ?_
    refine own_iload (pc' := 24) X4 hx rfl (hb hby dk_22) rfl ?_
    obtain ⟨v64, hv64⟩ : ∃ z, u + (4 : Int32) = z := ⟨_, rfl⟩
    have f65 : (v64.toInt - (u.toInt + 4)) % 4294967296 = 0 := by rw [← hv64]; exact c_iadd u (4 : Int32)
    have rv64 := rng32 v64
    replace f65 : v64.toInt = u.toInt + 4 := by omega
    refine own_iadd (pc' := 25) X4 hx (z := v64) hv64 (hb hby dk_24) rfl ?_
    refine own_iloadN (pc' := 26) X4 hx rfl (hb hby dk_25) rfl ?_
    by_cases b66 : w.toInt < v64.toInt
    · refine own_icmpNo (pc' := 29) X4 hx (own_no_le rfl rfl b66) (hb hby dk_26) rfl ?_
      refine own_iconst (pc' := 30) X4 hx (0 : Int32) (by decide) (hb hby dk_29) rfl ?_
      refine own_ret X4 hx Bd.returns Bd.notSynchronized (Or.inl ⟨rfl, by simp, _, rfl⟩) (hb hby dk_30) rfl (by decide) (by decide) ?_
      show Qk Z a1 u w kc B h0 n0 _ T4.heap _
      rw [e4]
      have kc0 : ((0 : Int32)).toInt = 0 := by decide
      subst hv1
      have hL : own_Lk B w.toInt u.toInt = 0 := own_L_0 (by unfold own_U; omega) (by unfold own_D2 own_U; omega) (by unfold own_D3 own_U; omega) (by unfold own_D4 own_U; omega)
      exact ⟨(0 : Int32), rfl, by omega, N4a, rfl⟩
    · refine own_icmpYes (pc' := 31) X4 hx (hb hby dk_26) (own_yes_le rfl rfl b66) (by decide) (by decide) ?_
      refine own_iload (pc' := 33) X4 hx rfl (hb hby dk_31) rfl ?_
      refine own_iconst (pc' := 34) X4 hx (1 : Int32) (by decide) (hb hby dk_33) rfl ?_
      refine own_icmpYes (pc' := 39) X4 hx (hb hby dk_34) (by decide) (by decide) (by decide) ?_
      refine own_aloadN (pc' := 40) X4 hx rfl rfl (hb hby dk_39) rfl ?_
      refine own_iloadN (pc' := 41) X4 hx rfl (hb hby dk_40) rfl ?_
      refine own_iconst (pc' := 42) X4 hx (1 : Int32) (by decide) (hb hby dk_41) rfl ?_
      obtain ⟨v67, hv67⟩ : ∃ z, u + (1 : Int32) = z := ⟨_, rfl⟩
      have f68 : (v67.toInt - (u.toInt + 1)) % 4294967296 = 0 := by rw [← hv67]; exact c_iadd u (1 : Int32)
      have rv67 := rng32 v67
      replace f68 : v67.toInt = u.toInt + 1 := by omega
      refine own_iadd (pc' := 43) X4 hx (z := v67) hv67 (hb hby dk_42) rfl ?_
      obtain ⟨c69, B69, q69, s69, u69, H69, G69⟩ := id A_a1
      obtain ⟨v69, hv69⟩ : ∃ z, B (u.toInt + 1) = z := ⟨_, rfl⟩
      have rv69 := hB (u.toInt + 1)
      rw [hv69] at rv69
      have ci69 : v67.toInt = u.toInt + 1 := by omega
      have i69 := inb_of s69 (j := v67) (own_inb (n := 6) ci69 (by decide) (by omega))
      refine own_by (X4.baloadBytes hx (j := v67) (v := (.int v69)) (by rw [e4]; exact B69.1) (State.isArrayOf_alike hZ.alike B69.2.1) B69.2.2 i69 (H69.at i69 (by rw [own_at6 ci69 (by omega), hv69])) (g := (mkF m 43 #[.val (.ref a1), .val (.int u), .val (.int w), .val (.int v2), .val (.int (4 : Int32)), .unset, .unset, .unset, .unset] [(.int v67), (.ref a1)])) rfl rfl (hb hby dk_43)) ?_
      show own_Go p e below (Qk Z a1 u w kc B h0 n0) (own_Fr s ({ frames := 1, cells := 0, slots := 0, locals := 16 } : Room).cells ({ frames := 1, cells := 0, slots := 0, locals := 16 } : Room).slots) (T4.setTop (mkF m 44 #[.val (.ref a1), .val (.int u), .val (.int w), .val (.int v2), .val (.int (4 : Int32)), .unset, .unset, .unset, .unset] [(.int v69)]))
      refine own_sipush (pc' := 47) X4 hx (255 : Int32) (by decide) (hb hby dk_44) rfl ?_
      obtain ⟨v70, hv70⟩ : ∃ z, v69 &&& (255 : Int32) = z := ⟨_, rfl⟩
      have f71 : v70.toInt = v69.toInt % 256 := by rw [← hv70]; exact c_mask v69 (255 : Int32) 8 (by decide) (by decide)
      refine own_iand (pc' := 48) X4 hx (z := v70) hv70 (hb hby dk_47) rfl ?_
      refine own_istore (pc' := 50) X4 hx #[.val (.ref a1), .val (.int u), .val (.int w), .val (.int v2), .val (.int (4 : Int32)), .val (.int v70), .unset, .unset, .unset] rfl (hb hby dk_48) rfl ?_
      refine own_iload (pc' := 52) X4 hx rfl (hb hby dk_50) rfl ?_
      refine own_sipush (pc' := 55) X4 hx (192 : Int32) (by decide) (hb hby dk_52) rfl ?_
      obtain ⟨v72, hv72⟩ : ∃ z, v70 &&& (192 : Int32) = z := ⟨_, rfl⟩
      have rv72 := rng32 v72
      have f73 : v72.toInt = v70.toInt / 64 * 64 := by rw [← hv72]; exact (own_hm (by omega)).1
      refine own_iand (pc' := 56) X4 hx (z := v72) hv72 (hb hby dk_55) rfl ?_
      refine own_sipush (pc' := 59) X4 hx (128 : Int32) (by decide) (hb hby dk_56) rfl ?_
      by_cases b74 : v72.toInt = 128
      · refine own_icmpYes (pc' := 64) X4 hx (hb hby dk_59) (own_yes_eq rfl (by decide) b74) (by decide) (by decide) ?_
        refine own_iload (pc' := 66) X4 hx rfl (hb hby dk_64) rfl ?_
        refine own_iconst (pc' := 67) X4 hx (2 : Int32) (by decide) (hb hby dk_66) rfl ?_
        refine own_icmpYes (pc' := 99) X4 hx (hb hby dk_67) (by decide) (by decide) (by decide) ?_
        refine own_aloadN (pc' := 100) X4 hx rfl rfl (hb hby dk_99) rfl ?_
        refine own_iloadN (pc' := 101) X4 hx rfl (hb hby dk_100) rfl ?_
        refine own_iconst (pc' := 102) X4 hx (2 : Int32) (by decide) (hb hby dk_101) rfl ?_
        obtain ⟨v75, hv75⟩ : ∃ z, u + (2 : Int32) = z := ⟨_, rfl⟩
        have f76 : (v75.toInt - (u.toInt + 2)) % 4294967296 = 0 := by rw [← hv75]; exact c_iadd u (2 : Int32)
        have rv75 := rng32 v75
        replace f76 : v75.toInt = u.toInt + 2 := by omega
        refine own_iadd (pc' := 103) X4 hx (z := v75) hv75 (hb hby dk_102) rfl ?_
        obtain ⟨c77, B77, q77, s77, u77, H77, G77⟩ := id A_a1
        obtain ⟨v77, hv77⟩ : ∃ z, B (u.toInt + 2) = z := ⟨_, rfl⟩
        have rv77 := hB (u.toInt + 2)
        rw [hv77] at rv77
        have ci77 : v75.toInt = u.toInt + 2 := by omega
        have i77 := inb_of s77 (j := v75) (own_inb (n := 6) ci77 (by decide) (by omega))
        refine own_by (X4.baloadBytes hx (j := v75) (v := (.int v77)) (by rw [e4]; exact B77.1) (State.isArrayOf_alike hZ.alike B77.2.1) B77.2.2 i77 (H77.at i77 (by rw [own_at6 ci77 (by omega), hv77])) (g := (mkF m 103 #[.val (.ref a1), .val (.int u), .val (.int w), .val (.int v2), .val (.int (4 : Int32)), .val (.int v70), .unset, .unset, .unset] [(.int v75), (.ref a1)])) rfl rfl (hb hby dk_103)) ?_
        show own_Go p e below (Qk Z a1 u w kc B h0 n0) (own_Fr s ({ frames := 1, cells := 0, slots := 0, locals := 16 } : Room).cells ({ frames := 1, cells := 0, slots := 0, locals := 16 } : Room).slots) (T4.setTop (mkF m 104 #[.val (.ref a1), .val (.int u), .val (.int w), .val (.int v2), .val (.int (4 : Int32)), .val (.int v70), .unset, .unset, .unset] [(.int v77)]))
        refine own_sipush (pc' := 107) X4 hx (255 : Int32) (by decide) (hb hby dk_104) rfl ?_
        obtain ⟨v78, hv78⟩ : ∃ z, v77 &&& (255 : Int32) = z := ⟨_, rfl⟩
        have f79 : v78.toInt = v77.toInt % 256 := by rw [← hv78]; exact c_mask v77 (255 : Int32) 8 (by decide) (by decide)
        refine own_iand (pc' := 108) X4 hx (z := v78) hv78 (hb hby dk_107) rfl ?_
        refine own_istore (pc' := 110) X4 hx #[.val (.ref a1), .val (.int u), .val (.int w), .val (.int v2), .val (.int (4 : Int32)), .val (.int v70), .val (.int v78), .unset, .unset] rfl (hb hby dk_108) rfl ?_
        refine own_iload (pc' := 112) X4 hx rfl (hb hby dk_110) rfl ?_
        refine own_sipush (pc' := 115) X4 hx (192 : Int32) (by decide) (hb hby dk_112) rfl ?_
        obtain ⟨v80, hv80⟩ : ∃ z, v78 &&& (192 : Int32) = z := ⟨_, rfl⟩
        have rv80 := rng32 v80
        have f81 : v80.toInt = v78.toInt / 64 * 64 := by rw [← hv80]; exact (own_hm (by omega)).1
        refine own_iand (pc' := 116) X4 hx (z := v80) hv80 (hb hby dk_115) rfl ?_
        refine own_sipush (pc' := 119) X4 hx (128 : Int32) (by decide) (hb hby dk_116) rfl ?_
        by_cases b82 : v80.toInt = 128
        · refine own_icmpYes (pc' := 124) X4 hx (hb hby dk_119) (own_yes_eq rfl (by decide) b82) (by decide) (by decide) ?_
          refine own_iload (pc' := 126) X4 hx rfl (hb hby dk_124) rfl ?_
          refine own_iconst (pc' := 127) X4 hx (3 : Int32) (by decide) (hb hby dk_126) rfl ?_
          refine own_icmpYes (pc' := 182) X4 hx (hb hby dk_127) (by decide) (by decide) (by decide) ?_
          refine own_aloadN (pc' := 183) X4 hx rfl rfl (hb hby dk_182) rfl ?_
          refine own_iloadN (pc' := 184) X4 hx rfl (hb hby dk_183) rfl ?_
          refine own_iconst (pc' := 185) X4 hx (3 : Int32) (by decide) (hb hby dk_184) rfl ?_
          obtain ⟨v83, hv83⟩ : ∃ z, u + (3 : Int32) = z := ⟨_, rfl⟩
          have f84 : (v83.toInt - (u.toInt + 3)) % 4294967296 = 0 := by rw [← hv83]; exact c_iadd u (3 : Int32)
          have rv83 := rng32 v83
          replace f84 : v83.toInt = u.toInt + 3 := by omega
          refine own_iadd (pc' := 186) X4 hx (z := v83) hv83 (hb hby dk_185) rfl ?_
          obtain ⟨c85, B85, q85, s85, u85, H85, G85⟩ := id A_a1
          obtain ⟨v85, hv85⟩ : ∃ z, B (u.toInt + 3) = z := ⟨_, rfl⟩
          have rv85 := hB (u.toInt + 3)
          rw [hv85] at rv85
          have ci85 : v83.toInt = u.toInt + 3 := by omega
          have i85 := inb_of s85 (j := v83) (own_inb (n := 6) ci85 (by decide) (by omega))
          refine own_by (X4.baloadBytes hx (j := v83) (v := (.int v85)) (by rw [e4]; exact B85.1) (State.isArrayOf_alike hZ.alike B85.2.1) B85.2.2 i85 (H85.at i85 (by rw [own_at6 ci85 (by omega), hv85])) (g := (mkF m 186 #[.val (.ref a1), .val (.int u), .val (.int w), .val (.int v2), .val (.int (4 : Int32)), .val (.int v70), .val (.int v78), .unset, .unset] [(.int v83), (.ref a1)])) rfl rfl (hb hby dk_186)) ?_
          show own_Go p e below (Qk Z a1 u w kc B h0 n0) (own_Fr s ({ frames := 1, cells := 0, slots := 0, locals := 16 } : Room).cells ({ frames := 1, cells := 0, slots := 0, locals := 16 } : Room).slots) (T4.setTop (mkF m 187 #[.val (.ref a1), .val (.int u), .val (.int w), .val (.int v2), .val (.int (4 : Int32)), .val (.int v70), .val (.int v78), .unset, .unset] [(.int v85)]))
          refine own_sipush (pc' := 190) X4 hx (255 : Int32) (by decide) (hb hby dk_187) rfl ?_
          obtain ⟨v86, hv86⟩ : ∃ z, v85 &&& (255 : Int32) = z := ⟨_, rfl⟩
          have f87 : v86.toInt = v85.toInt % 256 := by rw [← hv86]; exact c_mask v85 (255 : Int32) 8 (by decide) (by decide)
          refine own_iand (pc' := 191) X4 hx (z := v86) hv86 (hb hby dk_190) rfl ?_
          refine own_istore (pc' := 193) X4 hx #[.val (.ref a1), .val (.int u), .val (.int w), .val (.int v2), .val (.int (4 : Int32)), .val (.int v70), .val (.int v78), .val (.int v86), .unset] rfl (hb hby dk_191) rfl ?_
          refine own_iload (pc' := 195) X4 hx rfl (hb hby dk_193) rfl ?_
          refine own_sipush (pc' := 198) X4 hx (192 : Int32) (by decide) (hb hby dk_195) rfl ?_
          obtain ⟨v88, hv88⟩ : ∃ z, v86 &&& (192 : Int32) = z := ⟨_, rfl⟩
          have rv88 := rng32 v88
          have f89 : v88.toInt = v86.toInt / 64 * 64 := by rw [← hv88]; exact (own_hm (by omega)).1
          refine own_iand (pc' := 199) X4 hx (z := v88) hv88 (hb hby dk_198) rfl ?_
          refine own_sipush (pc' := 202) X4 hx (128 : Int32) (by decide) (hb hby dk_199) rfl ?_
          by_cases b90 : v88.toInt = 128
          · refine own_icmpYes (pc' := 207) X4 hx (hb hby dk_202) (own_yes_eq rfl (by decide) b90) (by decide) (by decide) ?_
            refine own_iloadN (pc' := 208) X4 hx rfl (hb hby dk_207) rfl ?_
            refine own_bipush (pc' := 210) X4 hx (7 : Int32) (by decide) (hb hby dk_208) rfl ?_
            obtain ⟨v91, hv91⟩ : ∃ z, v2 &&& (7 : Int32) = z := ⟨_, rfl⟩
            have f92 : v91.toInt = v2.toInt % 8 := by rw [← hv91]; exact c_mask v2 (7 : Int32) 3 (by decide) (by decide)
            refine own_iand (pc' := 211) X4 hx (z := v91) hv91 (hb hby dk_210) rfl ?_
            refine own_bipush (pc' := 213) X4 hx (18 : Int32) (by decide) (hb hby dk_211) rfl ?_
            obtain ⟨v93, hv93⟩ : ∃ z, v91 <<< ((18 : Int32) &&& 31) = z := ⟨_, rfl⟩
            have f94 : (v93.toInt - v91.toInt * 262144) % 4294967296 = 0 := by rw [← hv93]; exact c_ishl v91 (18 : Int32) 18 (by decide)
            have rv93 := rng32 v93
            replace f94 : v93.toInt = v91.toInt * 262144 := by omega
            refine own_ishl (pc' := 214) X4 hx (z := v93) hv93 (hb hby dk_213) rfl ?_
            refine own_iload (pc' := 216) X4 hx rfl (hb hby dk_214) rfl ?_
            refine own_bipush (pc' := 218) X4 hx (63 : Int32) (by decide) (hb hby dk_216) rfl ?_
            obtain ⟨v95, hv95⟩ : ∃ z, v70 &&& (63 : Int32) = z := ⟨_, rfl⟩
            have f96 : v95.toInt = v70.toInt % 64 := by rw [← hv95]; exact c_mask v70 (63 : Int32) 6 (by decide) (by decide)
            refine own_iand (pc' := 219) X4 hx (z := v95) hv95 (hb hby dk_218) rfl ?_
            refine own_bipush (pc' := 221) X4 hx (12 : Int32) (by decide) (hb hby dk_219) rfl ?_
            obtain ⟨v97, hv97⟩ : ∃ z, v95 <<< ((12 : Int32) &&& 31) = z := ⟨_, rfl⟩
            have f98 : (v97.toInt - v95.toInt * 4096) % 4294967296 = 0 := by rw [← hv97]; exact c_ishl v95 (12 : Int32) 12 (by decide)
            have rv97 := rng32 v97
            replace f98 : v97.toInt = v95.toInt * 4096 := by omega
            refine own_ishl (pc' := 222) X4 hx (z := v97) hv97 (hb hby dk_221) rfl ?_
            obtain ⟨v99, hv99⟩ : ∃ z, v93 ||| v97 = z := ⟨_, rfl⟩
            have f100 : (v99.toInt - (v93.toInt + v97.toInt)) % 4294967296 = 0 := by rw [← hv99]; exact c_or v93 v97 18 (by decide) 262144 (by decide) (by omega) (by omega) (by omega)
            have rv99 := rng32 v99
            replace f100 : v99.toInt = v93.toInt + v97.toInt := by omega
            refine own_ior (pc' := 223) X4 hx (z := v99) hv99 (hb hby dk_222) rfl ?_
            refine own_iload (pc' := 225) X4 hx rfl (hb hby dk_223) rfl ?_
            refine own_bipush (pc' := 227) X4 hx (63 : Int32) (by decide) (hb hby dk_225) rfl ?_
            obtain ⟨v101, hv101⟩ : ∃ z, v78 &&& (63 : Int32) = z := ⟨_, rfl⟩
            have f102 : v101.toInt = v78.toInt % 64 := by rw [← hv101]; exact c_mask v78 (63 : Int32) 6 (by decide) (by decide)
            refine own_iand (pc' := 228) X4 hx (z := v101) hv101 (hb hby dk_227) rfl ?_
            refine own_bipush (pc' := 230) X4 hx (6 : Int32) (by decide) (hb hby dk_228) rfl ?_
            obtain ⟨v103, hv103⟩ : ∃ z, v101 <<< ((6 : Int32) &&& 31) = z := ⟨_, rfl⟩
            have f104 : (v103.toInt - v101.toInt * 64) % 4294967296 = 0 := by rw [← hv103]; exact c_ishl v101 (6 : Int32) 6 (by decide)
            have rv103 := rng32 v103
            replace f104 : v103.toInt = v101.toInt * 64 := by omega
            refine own_ishl (pc' := 231) X4 hx (z := v103) hv103 (hb hby dk_230) rfl ?_
            obtain ⟨v105, hv105⟩ : ∃ z, v99 ||| v103 = z := ⟨_, rfl⟩
            have f106 : (v105.toInt - (v99.toInt + v103.toInt)) % 4294967296 = 0 := by rw [← hv105]; exact c_or v99 v103 12 (by decide) 4096 (by decide) (by omega) (by omega) (by omega)
            have rv105 := rng32 v105
            replace f106 : v105.toInt = v99.toInt + v103.toInt := by omega
            refine own_ior (pc' := 232) X4 hx (z := v105) hv105 (hb hby dk_231) rfl ?_
            refine own_iload (pc' := 234) X4 hx rfl (hb hby dk_232) rfl ?_
            refine own_bipush (pc' := 236) X4 hx (63 : Int32) (by decide) (hb hby dk_234) rfl ?_
            obtain ⟨v107, hv107⟩ : ∃ z, v86 &&& (63 : Int32) = z := ⟨_, rfl⟩
            have f108 : v107.toInt = v86.toInt % 64 := by rw [← hv107]; exact c_mask v86 (63 : Int32) 6 (by decide) (by decide)
            refine own_iand (pc' := 237) X4 hx (z := v107) hv107 (hb hby dk_236) rfl ?_
            obtain ⟨v109, hv109⟩ : ∃ z, v105 ||| v107 = z := ⟨_, rfl⟩
            have f110 : (v109.toInt - (v105.toInt + v107.toInt)) % 4294967296 = 0 := by rw [← hv109]; exact c_or v105 v107 6 (by decide) 64 (by decide) (by omega) (by omega) (by omega)
            have rv109 := rng32 v109
            replace f110 : v109.toInt = v105.toInt + v107.toInt := by omega
            refine own_ior (pc' := 238) X4 hx (z := v109) hv109 (hb hby dk_237) rfl ?_
            refine own_istore (pc' := 240) X4 hx #[.val (.ref a1), .val (.int u), .val (.int w), .val (.int v2), .val (.int (4 : Int32)), .val (.int v70), .val (.int v78), .val (.int v86), .val (.int v109)] rfl (hb hby dk_238) rfl ?_
            refine own_iload (pc' := 242) X4 hx rfl (hb hby dk_240) rfl ?_
            refine own_ldcInt (pc' := 244) X4 hx hZ hown (hw _ (List.mem_of_getElem? (i := 29) rfl)) (hb hby dk_242) rfl ?_
            by_cases b111 : v109.toInt < 65536
            · refine own_icmpYes (pc' := 258) X4 hx (hb hby dk_244) (own_yes_lt rfl (by decide) b111) (by decide) (by decide) ?_
              refine own_iconst (pc' := 259) X4 hx (0 : Int32) (by decide) (hb hby dk_258) rfl ?_
              refine own_ret X4 hx Bd.returns Bd.notSynchronized (Or.inl ⟨rfl, by simp, _, rfl⟩) (hb hby dk_259) rfl (by decide) (by decide) ?_
              show Qk Z a1 u w kc B h0 n0 _ T4.heap _
              rw [e4]
              have kc0 : ((0 : Int32)).toInt = 0 := by decide
              subst hv1
              subst hv69
              subst hv77
              subst hv85
              have hL : own_Lk B w.toInt u.toInt = 0 := own_L_0 (by unfold own_U; omega) (by unfold own_D2 own_U; omega) (by unfold own_D3 own_U; omega) (by unfold own_D4 own_U; omega)
              exact ⟨(0 : Int32), rfl, by omega, N4a, rfl⟩
            · refine own_icmpNo (pc' := 247) X4 hx (own_no_lt rfl (by decide) b111) (hb hby dk_244) rfl ?_
              refine own_iload (pc' := 249) X4 hx rfl (hb hby dk_247) rfl ?_
              refine own_ldcInt (pc' := 251) X4 hx hZ hown (hw _ (List.mem_of_getElem? (i := 30) rfl)) (hb hby dk_249) rfl ?_
              by_cases b112 : 1114111 < v109.toInt
              · refine own_icmpYes (pc' := 258) X4 hx (hb hby dk_251) (own_yes_gt rfl (by decide) b112) (by decide) (by decide) ?_
                refine own_iconst (pc' := 259) X4 hx (0 : Int32) (by decide) (hb hby dk_258) rfl ?_
                refine own_ret X4 hx Bd.returns Bd.notSynchronized (Or.inl ⟨rfl, by simp, _, rfl⟩) (hb hby dk_259) rfl (by decide) (by decide) ?_
                show Qk Z a1 u w kc B h0 n0 _ T4.heap _
                rw [e4]
                have kc0 : ((0 : Int32)).toInt = 0 := by decide
                subst hv1
                subst hv69
                subst hv77
                subst hv85
                have hL : own_Lk B w.toInt u.toInt = 0 := own_L_0 (by unfold own_U; omega) (by unfold own_D2 own_U; omega) (by unfold own_D3 own_U; omega) (by unfold own_D4 own_U; omega)
                exact ⟨(0 : Int32), rfl, by omega, N4a, rfl⟩
              · refine own_icmpNo (pc' := 254) X4 hx (own_no_gt rfl (by decide) b112) (hb hby dk_251) rfl ?_
                refine own_iconst (pc' := 255) X4 hx (1 : Int32) (by decide) (hb hby dk_254) rfl ?_
                refine own_goto (pc' := 259) X4 hx (hb hby dk_255) (by decide) (by decide) ?_
                refine own_ret X4 hx Bd.returns Bd.notSynchronized (Or.inl ⟨rfl, by simp, _, rfl⟩) (hb hby dk_259) rfl (by decide) (by decide) ?_
                show Qk Z a1 u w kc B h0 n0 _ T4.heap _
                rw [e4]
                have kc0 : ((1 : Int32)).toInt = 1 := by decide
                subst hv1
                subst hv69
                subst hv77
                subst hv85
                have hL : own_Lk B w.toInt u.toInt = 4 := own_L_4 (by unfold own_D4 own_U; omega)
                exact ⟨(1 : Int32), rfl, by omega, N4a, rfl⟩
          · refine own_icmpNo (pc' := 205) X4 hx (own_no_eq rfl (by decide) b90) (hb hby dk_202) rfl ?_
            refine own_iconst (pc' := 206) X4 hx (0 : Int32) (by decide) (hb hby dk_205) rfl ?_
            refine own_ret X4 hx Bd.returns Bd.notSynchronized (Or.inl ⟨rfl, by simp, _, rfl⟩) (hb hby dk_206) rfl (by decide) (by decide) ?_
            show Qk Z a1 u w kc B h0 n0 _ T4.heap _
            rw [e4]
            have kc0 : ((0 : Int32)).toInt = 0 := by decide
            subst hv1
            subst hv69
            subst hv77
            subst hv85
            have hL : own_Lk B w.toInt u.toInt = 0 := own_L_0 (by unfold own_U; omega) (by unfold own_D2 own_U; omega) (by unfold own_D3 own_U; omega) (by unfold own_D4 own_U; omega)
            exact ⟨(0 : Int32), rfl, by omega, N4a, rfl⟩
        · refine own_icmpNo (pc' := 122) X4 hx (own_no_eq rfl (by decide) b82) (hb hby dk_119) rfl ?_
          refine own_iconst (pc' := 123) X4 hx (0 : Int32) (by decide) (hb hby dk_122) rfl ?_
          refine own_ret X4 hx Bd.returns Bd.notSynchronized (Or.inl ⟨rfl, by simp, _, rfl⟩) (hb hby dk_123) rfl (by decide) (by decide) ?_
          show Qk Z a1 u w kc B h0 n0 _ T4.heap _
          rw [e4]
          have kc0 : ((0 : Int32)).toInt = 0 := by decide
          subst hv1
          subst hv69
          subst hv77
          have hL : own_Lk B w.toInt u.toInt = 0 := own_L_0 (by unfold own_U; omega) (by unfold own_D2 own_U; omega) (by unfold own_D3 own_U; omega) (by unfold own_D4 own_U; omega)
          exact ⟨(0 : Int32), rfl, by omega, N4a, rfl⟩
      · refine own_icmpNo (pc' := 62) X4 hx (own_no_eq rfl (by decide) b74) (hb hby dk_59) rfl ?_
        refine own_iconst (pc' := 63) X4 hx (0 : Int32) (by decide) (hb hby dk_62) rfl ?_
        refine own_ret X4 hx Bd.returns Bd.notSynchronized (Or.inl ⟨rfl, by simp, _, rfl⟩) (hb hby dk_63) rfl (by decide) (by decide) ?_
        show Qk Z a1 u w kc B h0 n0 _ T4.heap _
        rw [e4]
        have kc0 : ((0 : Int32)).toInt = 0 := by decide
        subst hv1
        subst hv69
        have hL : own_Lk B w.toInt u.toInt = 0 := own_L_0 (by unfold own_U; omega) (by unfold own_D2 own_U; omega) (by unfold own_D3 own_U; omega) (by unfold own_D4 own_U; omega)
        exact ⟨(0 : Int32), rfl, by omega, N4a, rfl⟩
  · obtain rfl : r_4 = (0 : Int32) := Int32.toInt_inj.mp hr4
    refine own_istore (pc' := 14) X4 hx #[.val (.ref a1), .val (.int u), .val (.int w), .val (.int v2), .val (.int (0 : Int32)), .unset, .unset, .unset, .unset] rfl (hb hby dk_12) rfl ?_
    refine own_iload (pc' := 16) X4 hx rfl (hb hby dk_14) rfl ?_
    refine own_ifNo (pc' := 19) X4 hx (by decide) (hb hby dk_16) rfl ?_
    refine own_iconst (pc' := 20) X4 hx (0 : Int32) (by decide) (hb hby dk_19) rfl ?_
    refine own_ret X4 hx Bd.returns Bd.notSynchronized (Or.inl ⟨rfl, by simp, _, rfl⟩) (hb hby dk_20) rfl (by decide) (by decide) ?_
    show Qk Z a1 u w kc B h0 n0 _ T4.heap _
    rw [e4]
    have kc0 : ((0 : Int32)).toInt = 0 := by decide
    subst hv1
    have hL : own_Lk B w.toInt u.toInt = 0 := own_L_0 (by unfold own_U; omega) (by unfold own_D2 own_U; omega) (by unfold own_D3 own_U; omega) (by unfold own_D4 own_U; omega)
    exact ⟨(0 : Int32), rfl, by omega, N4a, rfl⟩
theorem pd_3 : parseMethodDescriptor "([BII[Z)Z" = some ⟨[(.array .byte), .int, .int, (.array .boolean)], some .boolean⟩ := by decide +kernel
theorem dn_0 : decode method_3_code 0 = .ok (.iload_n 1, 1) := by decide +kernel
theorem dn_1 : decode method_3_code 1 = .ok (.iload_n 2, 1) := by decide +kernel
theorem dn_2 : decode method_3_code 2 = .ok (.if_icmp .ne 5, 3) := by decide +kernel
theorem dn_5 : decode method_3_code 5 = .ok (.iconst 1, 1) := by decide +kernel
theorem dn_6 : decode method_3_code 6 = .ok (.ireturn, 1) := by decide +kernel
theorem dn_7 : decode method_3_code 7 = .ok (.iload_n 1, 1) := by decide +kernel
theorem dn_8 : decode method_3_code 8 = .ok (.iload_n 2, 1) := by decide +kernel
theorem dn_9 : decode method_3_code 9 = .ok (.if_icmp .le 5, 3) := by decide +kernel
theorem dn_12 : decode method_3_code 12 = .ok (.iconst 0, 1) := by decide +kernel
theorem dn_13 : decode method_3_code 13 = .ok (.ireturn, 1) := by decide +kernel
theorem dn_14 : decode method_3_code 14 = .ok (.aload_n 0, 1) := by decide +kernel
theorem dn_15 : decode method_3_code 15 = .ok (.iload_n 1, 1) := by decide +kernel
theorem dn_16 : decode method_3_code 16 = .ok (.iload_n 2, 1) := by decide +kernel
theorem dn_17 : decode method_3_code 17 = .ok (.invokestatic 29, 3) := by decide +kernel
theorem dn_20 : decode method_3_code 20 = .ok (.ifCond .ne 5, 3) := by decide +kernel
theorem dn_23 : decode method_3_code 23 = .ok (.iconst 0, 1) := by decide +kernel
theorem dn_24 : decode method_3_code 24 = .ok (.ireturn, 1) := by decide +kernel
theorem dn_25 : decode method_3_code 25 = .ok (.aload_n 3, 1) := by decide +kernel
theorem dn_26 : decode method_3_code 26 = .ok (.iload_n 1, 1) := by decide +kernel
theorem dn_27 : decode method_3_code 27 = .ok (.aload_n 0, 1) := by decide +kernel
theorem dn_28 : decode method_3_code 28 = .ok (.iload_n 1, 1) := by decide +kernel
theorem dn_29 : decode method_3_code 29 = .ok (.baload, 1) := by decide +kernel
theorem dn_30 : decode method_3_code 30 = .ok (.sipush 255, 3) := by decide +kernel
theorem dn_33 : decode method_3_code 33 = .ok (.iand, 1) := by decide +kernel
theorem dn_34 : decode method_3_code 34 = .ok (.invokestatic 32, 3) := by decide +kernel
theorem dn_37 : decode method_3_code 37 = .ok (.iadd, 1) := by decide +kernel
theorem dn_38 : decode method_3_code 38 = .ok (.baload, 1) := by decide +kernel
theorem dn_39 : decode method_3_code 39 = .ok (.ireturn, 1) := by decide +kernel
theorem ef_n (m : MethodId) (x0 : Addr) (x1 : Int32) (x2 : Int32) (x3 : Addr) : entryFrame m #[(.ref x0), (.int x1), (.int x2), (.ref x3)] 4 = mkF m 0 #[.val (.ref x0), .val (.int x1), .val (.int x2), .val (.ref x3)] [] := by first | (simp [entryFrame, mkF, argsToLocals, Value.category, maxLocals]; done) | rfl
def Qn (Z : State) (a1 : Addr) (u : Int32) (w : Int32) (a2 : Addr) (kc : ClassId) (kg : ClassId) (B : Int → Int32) (G : Int → Int32) (h0 : Heap) (n0 : Nat) (v : Option Value) (h : Heap) (L : List Loc) : Prop := ∃ r : Int32, v = some (.int r) ∧ ((0 ≤ r.toInt ∧ r.toInt ≤ 1) ∧ own_N B w.toInt u.toInt G r.toInt) ∧ Fr n0 L ∧ h = h0
set_option maxRecDepth 65536 in
set_option maxHeartbeats 40000000 in
theorem rmn (l : Launch) (Z : State) (a0 : Array Value) (hw : ∀ d ∈ tables_1, d.before a0 Z = true) (ws : List Jvm.Cond) (a1 : Addr) (u : Int32) (w : Int32) (a2 : Addr) (kc : ClassId) (kg : ClassId) (B : Int → Int32) (G : Int → Int32) (h0 : Heap) (n0 : Nat) (Z0 : n0 ≤ h0.size) (A_a1 : Arv Z h0 a1 kc .byte (6 : Int32) [(.int (B 0)), (.int (B 1)), (.int (B 2)), (.int (B 3)), (.int (B 4)), (.int (B 5))] (.int (0 : Int32))) (A_a2 : Arv Z h0 a2 kg .boolean (7 : Int32) [(.int (G 0)), (.int (G 1)), (.int (G 2)), (.int (G 3)), (.int (G 4)), (.int (G 5)), (.int (G 6))] (.int (0 : Int32))) (hB : ∀ i, -128 ≤ (B i).toInt ∧ (B i).toInt < 128) (hG : ∀ i, (G i).toInt = 0 ∨ (G i).toInt = 1) (hk : 0 ≤ u.toInt ∧ u.toInt ≤ 6 ∧ 0 ≤ w.toInt ∧ w.toInt ≤ 6) :
    MetFree l (⟨"com/example/bookplate/bookplate/marc/Utf8IsWellFormedPinLaw", "next", "([BII[Z)Z"⟩ : MethodName) (head1 (Jvm.Cond.code (⟨"com/example/bookplate/bookplate/marc/Utf8IsWellFormedPinLaw", "next", "([BII[Z)Z"⟩ : MethodName) method_3_code 4 (some .boolean) :: ws) ({ frames := 2, cells := 0, slots := 0, locals := 40 } : Room)) (fun a U => a = #[(.ref a1), (.int u), (.int w), (.ref a2)] ∧ Z.Warmed39 U.vm ∧ U.heap = h0) (fun _ _ _ _ _ => True) (fun _ U o U' => ∃ v L, o = .returned v ∧ Qn Z a1 u w a2 kc kg B G h0 n0 v U'.heap L ∧ FrameEnd U o U' L ({ frames := 2, cells := 0, slots := 0, locals := 40 } : Room).cells ({ frames := 2, cells := 0, slots := 0, locals := 40 } : Room).slots) := by
  refine MetFree.of_bodySF (plainFor_of_name pn_0) hisR ?_
  intro p e s m args below meth c s₁ Bd hml0 hP hK
  obtain ⟨rfl, hZ, hh⟩ := hP
  have hx := Bd.exec
  have hby := Bd.bytes
  have hml : c.maxLocals = 4 := hml0
  have hown : s.vm.findClass "com/example/bookplate/bookplate/marc/Utf8IsWellFormedPinLaw" = some m.cls := findClass_of_methodNamed Bd.named
  have hnm := (name_of_methodNamed Bd.named Bd.method).1
  have X0 : Stand p l e ({ frames := 2, cells := 0, slots := 0, locals := 40 } : Room) s m #[(.ref a1), (.int u), (.int w), (.ref a2)] below meth c s₁ [] 0 0 := Stand.of_body Bd
  have e0 : s₁.heap = h0 := by rw [← hh, Bd.state]; rfl
  have N0 := Fr.nil n0
  change own_Go p e below (Qn Z a1 u w a2 kc kg B G h0 n0) (own_Fr s ({ frames := 2, cells := 0, slots := 0, locals := 40 } : Room).cells ({ frames := 2, cells := 0, slots := 0, locals := 40 } : Room).slots) (s₁.setTop (entryFrame m #[(.ref a1), (.int u), (.int w), (.ref a2)] 4))
  rw [ef_n m a1 u w a2]
  have ru := rng32 u
  have rw := rng32 w
  refine own_iloadN (pc' := 1) X0 hx rfl (hb hby dn_0) rfl ?_
  refine own_iloadN (pc' := 2) X0 hx rfl (hb hby dn_1) rfl ?_
  by_cases b1 : u.toInt = w.toInt
  · refine own_icmpNo (pc' := 5) X0 hx (own_no_ne rfl rfl b1) (hb hby dn_2) rfl ?_
    refine own_iconst (pc' := 6) X0 hx (1 : Int32) (by decide) (hb hby dn_5) rfl ?_
    refine own_ret X0 hx Bd.returns Bd.notSynchronized (Or.inl ⟨rfl, by simp, _, rfl⟩) (hb hby dn_6) rfl (by decide) (by decide) ?_
    show Qn Z a1 u w a2 kc kg B G h0 n0 _ s₁.heap _
    rw [e0]
    have kc0 : ((1 : Int32)).toInt = 1 := by decide
    exact ⟨(1 : Int32), rfl, ⟨by omega, Or.inl ⟨by omega, by omega⟩⟩, N0, rfl⟩
  · refine own_icmpYes (pc' := 7) X0 hx (hb hby dn_2) (own_yes_ne rfl rfl b1) (by decide) (by decide) ?_
    refine own_iloadN (pc' := 8) X0 hx rfl (hb hby dn_7) rfl ?_
    refine own_iloadN (pc' := 9) X0 hx rfl (hb hby dn_8) rfl ?_
    by_cases b2 : w.toInt < u.toInt
    · refine own_icmpNo (pc' := 12) X0 hx (own_no_le rfl rfl b2) (hb hby dn_9) rfl ?_
      refine own_iconst (pc' := 13) X0 hx (0 : Int32) (by decide) (hb hby dn_12) rfl ?_
      refine own_ret X0 hx Bd.returns Bd.notSynchronized (Or.inl ⟨rfl, by simp, _, rfl⟩) (hb hby dn_13) rfl (by decide) (by decide) ?_
      show Qn Z a1 u w a2 kc kg B G h0 n0 _ s₁.heap _
      rw [e0]
      have kc0 : ((0 : Int32)).toInt = 0 := by decide
      exact ⟨(0 : Int32), rfl, ⟨by omega, Or.inr (Or.inl ⟨by omega, by omega⟩)⟩, N0, rfl⟩
    · refine own_icmpYes (pc' := 14) X0 hx (hb hby dn_9) (own_yes_le rfl rfl b2) (by decide) (by decide) ?_
      refine own_aloadN (pc' := 15) X0 hx rfl rfl (hb hby dn_14) rfl ?_
      refine own_iloadN (pc' := 16) X0 hx rfl (hb hby dn_15) rfl ?_
      refine own_iloadN (pc' := 17) X0 hx rfl (hb hby dn_16) rfl ?_
      obtain ⟨_, _, ⟨T3, L3, k3, n3⟩, -, X3, ⟨Lc3, hQ3, l3, y3, z3⟩, st3⟩ := Jvm.LawKit.callS X0 hx (y := (⟨"com/example/bookplate/bookplate/marc/Utf8IsWellFormedPinLaw", "charOk", "([BII)Z"⟩ : MethodName)) hown (mvT hZ (hw _ (List.mem_of_getElem? (i := 14) rfl))) (mvT hZ (hw _ (List.mem_of_getElem? (i := 15) rfl))) (mvT hZ (hw _ (List.mem_of_getElem? (i := 12) rfl))) (mvT hZ (hw _ (List.mem_of_getElem? (i := 16) rfl))) (by decide) (backOf (W := 0) (rmk l Z a0 hw [] a1 u w kc B h0 n0 Z0 A_a1 hB (by omega)) hZ (hw _ (List.mem_of_getElem? (i := 16) rfl)) (hw _ (List.mem_of_getElem? (i := 12) rfl)) (by decide) (by decide)) (g := (mkF m 17 #[.val (.ref a1), .val (.int u), .val (.int w), .val (.ref a2)] [(.int w), (.int u), (.ref a1)])) rfl (by rw [hml]; rfl) (argsL := [(.ref a1), (.int u), (.int w)]) (rest := []) (lenOf pd_2 rfl) rfl (by show 2 * 0 + _ ≤ _; exact Nat.le_of_eq rfl) (hb hby dn_17) (fun _ _ => ⟨rfl, e0, (by decide : 0 + 0 ≤ _), (by decide : 0 + 0 ≤ _)⟩)
      dsimp only [Pt.U, Pt.locs, Pt.cells, Pt.slots] at X3 l3 y3 z3 st3 hQ3
      subst y3 z3
      obtain ⟨r_3, rfl, pp3, N3, e3⟩ := hQ3
      have rr_3 := rng32 r_3
      have N3a : Fr n0 L3 := by rw [l3]; exact Fr.app N0 N3
      refine own_by st3 ?_
      show own_Go p e below (Qn Z a1 u w a2 kc kg B G h0 n0) (own_Fr s ({ frames := 2, cells := 0, slots := 0, locals := 40 } : Room).cells ({ frames := 2, cells := 0, slots := 0, locals := 40 } : Room).slots) (T3.setTop (mkF m 20 #[.val (.ref a1), .val (.int u), .val (.int w), .val (.ref a2)] [(.int r_3)]))
      rcases pp3 with ⟨hr3, pp3⟩ | ⟨hr3, pp3⟩
      · obtain rfl : r_3 = (1 : Int32) := Int32.toInt_inj.mp hr3
        refine own_ifYes (pc' := 25) X3 hx (hb hby dn_20) (by decide) (by decide) (by decide) ?_
        refine own_aloadN (pc' := 26) X3 hx rfl rfl (hb hby dn_25) rfl ?_
        refine own_iloadN (pc' := 27) X3 hx rfl (hb hby dn_26) rfl ?_
        refine own_aloadN (pc' := 28) X3 hx rfl rfl (hb hby dn_27) rfl ?_
        refine own_iloadN (pc' := 29) X3 hx rfl (hb hby dn_28) rfl ?_
        obtain ⟨c4, B4, q4, s4, u4, H4, G4⟩ := id A_a1
        obtain ⟨v4, hv4⟩ : ∃ z, B (u.toInt) = z := ⟨_, rfl⟩
        have rv4 := hB (u.toInt)
        rw [hv4] at rv4
        have ci4 : u.toInt = u.toInt := by omega
        have i4 := inb_of s4 (j := u) (own_inb (n := 6) ci4 (by decide) (by omega))
        refine own_by (X3.baloadBytes hx (j := u) (v := (.int v4)) (by rw [e3]; exact B4.1) (State.isArrayOf_alike hZ.alike B4.2.1) B4.2.2 i4 (H4.at i4 (by rw [own_at6 ci4 (by omega), hv4])) (g := (mkF m 29 #[.val (.ref a1), .val (.int u), .val (.int w), .val (.ref a2)] [(.int u), (.ref a1), (.int u), (.ref a2)])) rfl rfl (hb hby dn_29)) ?_
        show own_Go p e below (Qn Z a1 u w a2 kc kg B G h0 n0) (own_Fr s ({ frames := 2, cells := 0, slots := 0, locals := 40 } : Room).cells ({ frames := 2, cells := 0, slots := 0, locals := 40 } : Room).slots) (T3.setTop (mkF m 30 #[.val (.ref a1), .val (.int u), .val (.int w), .val (.ref a2)] [(.int v4), (.int u), (.ref a2)]))
        refine own_sipush (pc' := 33) X3 hx (255 : Int32) (by decide) (hb hby dn_30) rfl ?_
        obtain ⟨v5, hv5⟩ : ∃ z, v4 &&& (255 : Int32) = z := ⟨_, rfl⟩
        have f6 : v5.toInt = v4.toInt % 256 := by rw [← hv5]; exact c_mask v4 (255 : Int32) 8 (by decide) (by decide)
        refine own_iand (pc' := 34) X3 hx (z := v5) hv5 (hb hby dn_33) rfl ?_
        obtain ⟨_, _, ⟨T7, L7, k7, n7⟩, -, X7, ⟨Lc7, hQ7, l7, y7, z7⟩, st7⟩ := Jvm.LawKit.callS X3 hx (y := (⟨"com/example/bookplate/bookplate/marc/Utf8IsWellFormedPinLaw", "len", "(I)I"⟩ : MethodName)) hown (mvT hZ (hw _ (List.mem_of_getElem? (i := 17) rfl))) (mvT hZ (hw _ (List.mem_of_getElem? (i := 18) rfl))) (mvT hZ (hw _ (List.mem_of_getElem? (i := 12) rfl))) (mvT hZ (hw _ (List.mem_of_getElem? (i := 19) rfl))) (by decide) (backOf (W := 2) (rml l Z a0 hw [] v5 h0 n0 Z0 (by omega)) hZ (hw _ (List.mem_of_getElem? (i := 19) rfl)) (hw _ (List.mem_of_getElem? (i := 12) rfl)) (by decide) (by decide)) (g := (mkF m 34 #[.val (.ref a1), .val (.int u), .val (.int w), .val (.ref a2)] [(.int v5), (.int u), (.ref a2)])) rfl (by rw [hml]; rfl) (argsL := [(.int v5)]) (rest := [(.int u), (.ref a2)]) (lenOf pd_1 rfl) rfl (by show 2 * 0 + _ ≤ _; exact Nat.le_of_eq rfl) (hb hby dn_34) (fun _ _ => ⟨rfl, e3, (by decide : 0 + 0 ≤ _), (by decide : 0 + 0 ≤ _)⟩)
        dsimp only [Pt.U, Pt.locs, Pt.cells, Pt.slots] at X7 l7 y7 z7 st7 hQ7
        subst y7 z7
        obtain ⟨r_7, rfl, pp7, N7, e7⟩ := hQ7
        have rr_7 := rng32 r_7
        have N7a : Fr n0 L7 := by rw [l7]; exact Fr.app N3a N7
        refine own_by st7 ?_
        show own_Go p e below (Qn Z a1 u w a2 kc kg B G h0 n0) (own_Fr s ({ frames := 2, cells := 0, slots := 0, locals := 40 } : Room).cells ({ frames := 2, cells := 0, slots := 0, locals := 40 } : Room).slots) (T7.setTop (mkF m 37 #[.val (.ref a1), .val (.int u), .val (.int w), .val (.ref a2)] [(.int r_7), (.int u), (.ref a2)]))
        rcases pp7 with ⟨hr7, pp7⟩ | ⟨hr7, pp7⟩ | ⟨hr7, pp7⟩ | ⟨hr7, pp7⟩ | ⟨hr7, pp7⟩
        · obtain rfl : r_7 = (1 : Int32) := Int32.toInt_inj.mp hr7
          have hL : own_Lk B w.toInt u.toInt = 1 := by
            have q := own_L_c (a := own_U B u.toInt) (b := own_U B (u.toInt + 1)) (d := own_U B (u.toInt + 2)) (f := own_U B (u.toInt + 3)) (v := w.toInt - u.toInt) (by omega)
            have q2 := pp3
            unfold own_Lk at q2 ⊢
            generalize own_L _ _ _ _ _ = X at q q2 ⊢
            unfold own_U at q
            rw [hv4] at q
            omega
          have hP := own_Lk_pos (B := B) (to := w.toInt) (k := u.toInt) (by omega) pp3
          rw [hL] at hP
          obtain ⟨v8, hv8⟩ : ∃ z, u + (1 : Int32) = z := ⟨_, rfl⟩
          have f9 : (v8.toInt - (u.toInt + 1)) % 4294967296 = 0 := by rw [← hv8]; exact c_iadd u (1 : Int32)
          have rv8 := rng32 v8
          replace f9 : v8.toInt = u.toInt + 1 := by omega
          refine own_iadd (pc' := 38) X7 hx (z := v8) hv8 (hb hby dn_37) rfl ?_
          obtain ⟨c10, B10, q10, s10, u10, H10, G10⟩ := id A_a2
          obtain ⟨v10, hv10⟩ : ∃ z, G (u.toInt + 1) = z := ⟨_, rfl⟩
          have rv10 := hG (u.toInt + 1)
          rw [hv10] at rv10
          have ci10 : v8.toInt = u.toInt + 1 := by omega
          have i10 := inb_of s10 (j := v8) (own_inb (n := 7) ci10 (by decide) (by omega))
          refine own_by (X7.baloadBooleans hx (j := v8) (v := (.int v10)) (by rw [e7]; exact B10.1) (State.isArrayOf_alike hZ.alike B10.2.1) B10.2.2 i10 (H10.at i10 (by rw [own_at7 ci10 (by omega), hv10])) (g := (mkF m 38 #[.val (.ref a1), .val (.int u), .val (.int w), .val (.ref a2)] [(.int v8), (.ref a2)])) rfl rfl (hb hby dn_38)) ?_
          show own_Go p e below (Qn Z a1 u w a2 kc kg B G h0 n0) (own_Fr s ({ frames := 2, cells := 0, slots := 0, locals := 40 } : Room).cells ({ frames := 2, cells := 0, slots := 0, locals := 40 } : Room).slots) (T7.setTop (mkF m 39 #[.val (.ref a1), .val (.int u), .val (.int w), .val (.ref a2)] [(.int v10)]))
          refine own_ret X7 hx Bd.returns Bd.notSynchronized (Or.inl ⟨rfl, by simp, _, rfl⟩) (hb hby dn_39) (own_nz (by omega)) (by decide) (by decide) ?_
          show Qn Z a1 u w a2 kc kg B G h0 n0 _ T7.heap _
          rw [e7]
          subst hv4
          exact ⟨v10, rfl, ⟨by omega, Or.inr (Or.inr (Or.inr ⟨by omega, by rw [hL]; decide, by rw [hL, hv10]⟩))⟩, N7a, rfl⟩
        · obtain rfl : r_7 = (2 : Int32) := Int32.toInt_inj.mp hr7
          have hL : own_Lk B w.toInt u.toInt = 2 := by
            have q := own_L_c (a := own_U B u.toInt) (b := own_U B (u.toInt + 1)) (d := own_U B (u.toInt + 2)) (f := own_U B (u.toInt + 3)) (v := w.toInt - u.toInt) (by omega)
            have q2 := pp3
            unfold own_Lk at q2 ⊢
            generalize own_L _ _ _ _ _ = X at q q2 ⊢
            unfold own_U at q
            rw [hv4] at q
            omega
          have hP := own_Lk_pos (B := B) (to := w.toInt) (k := u.toInt) (by omega) pp3
          rw [hL] at hP
          obtain ⟨v11, hv11⟩ : ∃ z, u + (2 : Int32) = z := ⟨_, rfl⟩
          have f12 : (v11.toInt - (u.toInt + 2)) % 4294967296 = 0 := by rw [← hv11]; exact c_iadd u (2 : Int32)
          have rv11 := rng32 v11
          replace f12 : v11.toInt = u.toInt + 2 := by omega
          refine own_iadd (pc' := 38) X7 hx (z := v11) hv11 (hb hby dn_37) rfl ?_
          obtain ⟨c13, B13, q13, s13, u13, H13, G13⟩ := id A_a2
          obtain ⟨v13, hv13⟩ : ∃ z, G (u.toInt + 2) = z := ⟨_, rfl⟩
          have rv13 := hG (u.toInt + 2)
          rw [hv13] at rv13
          have ci13 : v11.toInt = u.toInt + 2 := by omega
          have i13 := inb_of s13 (j := v11) (own_inb (n := 7) ci13 (by decide) (by omega))
          refine own_by (X7.baloadBooleans hx (j := v11) (v := (.int v13)) (by rw [e7]; exact B13.1) (State.isArrayOf_alike hZ.alike B13.2.1) B13.2.2 i13 (H13.at i13 (by rw [own_at7 ci13 (by omega), hv13])) (g := (mkF m 38 #[.val (.ref a1), .val (.int u), .val (.int w), .val (.ref a2)] [(.int v11), (.ref a2)])) rfl rfl (hb hby dn_38)) ?_
          show own_Go p e below (Qn Z a1 u w a2 kc kg B G h0 n0) (own_Fr s ({ frames := 2, cells := 0, slots := 0, locals := 40 } : Room).cells ({ frames := 2, cells := 0, slots := 0, locals := 40 } : Room).slots) (T7.setTop (mkF m 39 #[.val (.ref a1), .val (.int u), .val (.int w), .val (.ref a2)] [(.int v13)]))
          refine own_ret X7 hx Bd.returns Bd.notSynchronized (Or.inl ⟨rfl, by simp, _, rfl⟩) (hb hby dn_39) (own_nz (by omega)) (by decide) (by decide) ?_
          show Qn Z a1 u w a2 kc kg B G h0 n0 _ T7.heap _
          rw [e7]
          subst hv4
          exact ⟨v13, rfl, ⟨by omega, Or.inr (Or.inr (Or.inr ⟨by omega, by rw [hL]; decide, by rw [hL, hv13]⟩))⟩, N7a, rfl⟩
        · obtain rfl : r_7 = (3 : Int32) := Int32.toInt_inj.mp hr7
          have hL : own_Lk B w.toInt u.toInt = 3 := by
            have q := own_L_c (a := own_U B u.toInt) (b := own_U B (u.toInt + 1)) (d := own_U B (u.toInt + 2)) (f := own_U B (u.toInt + 3)) (v := w.toInt - u.toInt) (by omega)
            have q2 := pp3
            unfold own_Lk at q2 ⊢
            generalize own_L _ _ _ _ _ = X at q q2 ⊢
            unfold own_U at q
            rw [hv4] at q
            omega
          have hP := own_Lk_pos (B := B) (to := w.toInt) (k := u.toInt) (by omega) pp3
          rw [hL] at hP
          obtain ⟨v14, hv14⟩ : ∃ z, u + (3 : Int32) = z := ⟨_, rfl⟩
          have f15 : (v14.toInt - (u.toInt + 3)) % 4294967296 = 0 := by rw [← hv14]; exact c_iadd u (3 : Int32)
          have rv14 := rng32 v14
          replace f15 : v14.toInt = u.toInt + 3 := by omega
          refine own_iadd (pc' := 38) X7 hx (z := v14) hv14 (hb hby dn_37) rfl ?_
          obtain ⟨c16, B16, q16, s16, u16, H16, G16⟩ := id A_a2
          obtain ⟨v16, hv16⟩ : ∃ z, G (u.toInt + 3) = z := ⟨_, rfl⟩
          have rv16 := hG (u.toInt + 3)
          rw [hv16] at rv16
          have ci16 : v14.toInt = u.toInt + 3 := by omega
          have i16 := inb_of s16 (j := v14) (own_inb (n := 7) ci16 (by decide) (by omega))
          refine own_by (X7.baloadBooleans hx (j := v14) (v := (.int v16)) (by rw [e7]; exact B16.1) (State.isArrayOf_alike hZ.alike B16.2.1) B16.2.2 i16 (H16.at i16 (by rw [own_at7 ci16 (by omega), hv16])) (g := (mkF m 38 #[.val (.ref a1), .val (.int u), .val (.int w), .val (.ref a2)] [(.int v14), (.ref a2)])) rfl rfl (hb hby dn_38)) ?_
          show own_Go p e below (Qn Z a1 u w a2 kc kg B G h0 n0) (own_Fr s ({ frames := 2, cells := 0, slots := 0, locals := 40 } : Room).cells ({ frames := 2, cells := 0, slots := 0, locals := 40 } : Room).slots) (T7.setTop (mkF m 39 #[.val (.ref a1), .val (.int u), .val (.int w), .val (.ref a2)] [(.int v16)]))
          refine own_ret X7 hx Bd.returns Bd.notSynchronized (Or.inl ⟨rfl, by simp, _, rfl⟩) (hb hby dn_39) (own_nz (by omega)) (by decide) (by decide) ?_
          show Qn Z a1 u w a2 kc kg B G h0 n0 _ T7.heap _
          rw [e7]
          subst hv4
          exact ⟨v16, rfl, ⟨by omega, Or.inr (Or.inr (Or.inr ⟨by omega, by rw [hL]; decide, by rw [hL, hv16]⟩))⟩, N7a, rfl⟩
        · obtain rfl : r_7 = (4 : Int32) := Int32.toInt_inj.mp hr7
          have hL : own_Lk B w.toInt u.toInt = 4 := by
            have q := own_L_c (a := own_U B u.toInt) (b := own_U B (u.toInt + 1)) (d := own_U B (u.toInt + 2)) (f := own_U B (u.toInt + 3)) (v := w.toInt - u.toInt) (by omega)
            have q2 := pp3
            unfold own_Lk at q2 ⊢
            generalize own_L _ _ _ _ _ = X at q q2 ⊢
            unfold own_U at q
            rw [hv4] at q
            omega
          have hP := own_Lk_pos (B := B) (to := w.toInt) (k := u.toInt) (by omega) pp3
          rw [hL] at hP
          obtain ⟨v17, hv17⟩ : ∃ z, u + (4 : Int32) = z := ⟨_, rfl⟩
          have f18 : (v17.toInt - (u.toInt + 4)) % 4294967296 = 0 := by rw [← hv17]; exact c_iadd u (4 : Int32)
          have rv17 := rng32 v17
          replace f18 : v17.toInt = u.toInt + 4 := by omega
          refine own_iadd (pc' := 38) X7 hx (z := v17) hv17 (hb hby dn_37) rfl ?_
          obtain ⟨c19, B19, q19, s19, u19, H19, G19⟩ := id A_a2
          obtain ⟨v19, hv19⟩ : ∃ z, G (u.toInt + 4) = z := ⟨_, rfl⟩
          have rv19 := hG (u.toInt + 4)
          rw [hv19] at rv19
          have ci19 : v17.toInt = u.toInt + 4 := by omega
          have i19 := inb_of s19 (j := v17) (own_inb (n := 7) ci19 (by decide) (by omega))
          refine own_by (X7.baloadBooleans hx (j := v17) (v := (.int v19)) (by rw [e7]; exact B19.1) (State.isArrayOf_alike hZ.alike B19.2.1) B19.2.2 i19 (H19.at i19 (by rw [own_at7 ci19 (by omega), hv19])) (g := (mkF m 38 #[.val (.ref a1), .val (.int u), .val (.int w), .val (.ref a2)] [(.int v17), (.ref a2)])) rfl rfl (hb hby dn_38)) ?_
          show own_Go p e below (Qn Z a1 u w a2 kc kg B G h0 n0) (own_Fr s ({ frames := 2, cells := 0, slots := 0, locals := 40 } : Room).cells ({ frames := 2, cells := 0, slots := 0, locals := 40 } : Room).slots) (T7.setTop (mkF m 39 #[.val (.ref a1), .val (.int u), .val (.int w), .val (.ref a2)] [(.int v19)]))
          refine own_ret X7 hx Bd.returns Bd.notSynchronized (Or.inl ⟨rfl, by simp, _, rfl⟩) (hb hby dn_39) (own_nz (by omega)) (by decide) (by decide) ?_
          show Qn Z a1 u w a2 kc kg B G h0 n0 _ T7.heap _
          rw [e7]
          subst hv4
          exact ⟨v19, rfl, ⟨by omega, Or.inr (Or.inr (Or.inr ⟨by omega, by rw [hL]; decide, by rw [hL, hv19]⟩))⟩, N7a, rfl⟩
        · obtain rfl : r_7 = (0 : Int32) := Int32.toInt_inj.mp hr7
          exfalso
          have q := own_L_c (a := own_U B u.toInt) (b := own_U B (u.toInt + 1)) (d := own_U B (u.toInt + 2)) (f := own_U B (u.toInt + 3)) (v := w.toInt - u.toInt) (by omega)
          have q2 := pp3
          unfold own_Lk at q2
          generalize own_L _ _ _ _ _ = X at q q2
          unfold own_U at q
          rw [hv4] at q
          omega
      · obtain rfl : r_3 = (0 : Int32) := Int32.toInt_inj.mp hr3
        refine own_ifNo (pc' := 23) X3 hx (by decide) (hb hby dn_20) rfl ?_
        refine own_iconst (pc' := 24) X3 hx (0 : Int32) (by decide) (hb hby dn_23) rfl ?_
        refine own_ret X3 hx Bd.returns Bd.notSynchronized (Or.inl ⟨rfl, by simp, _, rfl⟩) (hb hby dn_24) rfl (by decide) (by decide) ?_
        show Qn Z a1 u w a2 kc kg B G h0 n0 _ T3.heap _
        rw [e3]
        have kc0 : ((0 : Int32)).toInt = 0 := by decide
        exact ⟨(0 : Int32), rfl, ⟨by omega, Or.inr (Or.inr (Or.inl ⟨by omega, pp3, by omega⟩))⟩, N3a, rfl⟩
theorem pd_4 : parseMethodDescriptor "([BIIII)Z" = some ⟨[(.array .byte), .int, .int, .int, .int], some .boolean⟩ := by decide +kernel
theorem dc1_0 : decode prog_24_method_3_code 0 = .ok (.iload_n 2, 1) := by decide +kernel
theorem dc1_1 : decode prog_24_method_3_code 1 = .ok (.iconst 1, 1) := by decide +kernel
theorem dc1_2 : decode prog_24_method_3_code 2 = .ok (.if_icmp .ne 5, 3) := by decide +kernel
theorem dc1_5 : decode prog_24_method_3_code 5 = .ok (.iconst 1, 1) := by decide +kernel
theorem dc1_6 : decode prog_24_method_3_code 6 = .ok (.ireturn, 1) := by decide +kernel
theorem dc1_7 : decode prog_24_method_3_code 7 = .ok (.aload_n 0, 1) := by decide +kernel
theorem dc1_8 : decode prog_24_method_3_code 8 = .ok (.iload_n 1, 1) := by decide +kernel
theorem dc1_9 : decode prog_24_method_3_code 9 = .ok (.iconst 1, 1) := by decide +kernel
theorem dc1_10 : decode prog_24_method_3_code 10 = .ok (.iadd, 1) := by decide +kernel
theorem dc1_11 : decode prog_24_method_3_code 11 = .ok (.baload, 1) := by decide +kernel
theorem dc1_12 : decode prog_24_method_3_code 12 = .ok (.sipush 255, 3) := by decide +kernel
theorem dc1_15 : decode prog_24_method_3_code 15 = .ok (.iand, 1) := by decide +kernel
theorem dc1_16 : decode prog_24_method_3_code 16 = .ok (.istore 5, 2) := by decide +kernel
theorem dc1_18 : decode prog_24_method_3_code 18 = .ok (.iload 5, 2) := by decide +kernel
theorem dc1_20 : decode prog_24_method_3_code 20 = .ok (.iload_n 3, 1) := by decide +kernel
theorem dc1_21 : decode prog_24_method_3_code 21 = .ok (.if_icmp .lt 10, 3) := by decide +kernel
theorem dc1_24 : decode prog_24_method_3_code 24 = .ok (.iload 5, 2) := by decide +kernel
theorem dc1_26 : decode prog_24_method_3_code 26 = .ok (.iload 4, 2) := by decide +kernel
theorem dc1_28 : decode prog_24_method_3_code 28 = .ok (.if_icmp .le 5, 3) := by decide +kernel
theorem dc1_31 : decode prog_24_method_3_code 31 = .ok (.iconst 0, 1) := by decide +kernel
theorem dc1_32 : decode prog_24_method_3_code 32 = .ok (.ireturn, 1) := by decide +kernel
theorem dc1_33 : decode prog_24_method_3_code 33 = .ok (.iload_n 1, 1) := by decide +kernel
theorem dc1_34 : decode prog_24_method_3_code 34 = .ok (.iconst 2, 1) := by decide +kernel
theorem dc1_35 : decode prog_24_method_3_code 35 = .ok (.iadd, 1) := by decide +kernel
theorem dc1_36 : decode prog_24_method_3_code 36 = .ok (.istore 6, 2) := by decide +kernel
theorem dc1_38 : decode prog_24_method_3_code 38 = .ok (.iload 6, 2) := by decide +kernel
theorem dc1_40 : decode prog_24_method_3_code 40 = .ok (.iload_n 1, 1) := by decide +kernel
theorem dc1_41 : decode prog_24_method_3_code 41 = .ok (.iload_n 2, 1) := by decide +kernel
theorem dc1_42 : decode prog_24_method_3_code 42 = .ok (.iadd, 1) := by decide +kernel
theorem dc1_43 : decode prog_24_method_3_code 43 = .ok (.if_icmp .ge 25, 3) := by decide +kernel
theorem dc1_46 : decode prog_24_method_3_code 46 = .ok (.aload_n 0, 1) := by decide +kernel
theorem dc1_47 : decode prog_24_method_3_code 47 = .ok (.iload 6, 2) := by decide +kernel
theorem dc1_49 : decode prog_24_method_3_code 49 = .ok (.baload, 1) := by decide +kernel
theorem dc1_50 : decode prog_24_method_3_code 50 = .ok (.sipush 192, 3) := by decide +kernel
theorem dc1_53 : decode prog_24_method_3_code 53 = .ok (.iand, 1) := by decide +kernel
theorem dc1_54 : decode prog_24_method_3_code 54 = .ok (.sipush 128, 3) := by decide +kernel
theorem dc1_57 : decode prog_24_method_3_code 57 = .ok (.if_icmp .eq 5, 3) := by decide +kernel
theorem dc1_60 : decode prog_24_method_3_code 60 = .ok (.iconst 0, 1) := by decide +kernel
theorem dc1_61 : decode prog_24_method_3_code 61 = .ok (.ireturn, 1) := by decide +kernel
theorem dc1_62 : decode prog_24_method_3_code 62 = .ok (.iinc 6 1, 3) := by decide +kernel
theorem dc1_65 : decode prog_24_method_3_code 65 = .ok (.goto (-27), 3) := by decide +kernel
theorem dc1_68 : decode prog_24_method_3_code 68 = .ok (.iconst 1, 1) := by decide +kernel
theorem dc1_69 : decode prog_24_method_3_code 69 = .ok (.ireturn, 1) := by decide +kernel
theorem pn_1 : plainName "com/example/bookplate/bookplate/marc/Utf8" = true := by first | (simp [plainName, overriddenIn]; done) | decide +kernel
theorem ef_c1 (m : MethodId) (x0 : Addr) (x1 : Int32) (x3 : Int32) (x4 : Int32) : entryFrame m #[(.ref x0), (.int x1), (.int (1 : Int32)), (.int x3), (.int x4)] 7 = mkF m 0 #[.val (.ref x0), .val (.int x1), .val (.int (1 : Int32)), .val (.int x3), .val (.int x4), .unset, .unset] [] := by first | (simp [entryFrame, mkF, argsToLocals, Value.category, maxLocals]; done) | rfl
def Qc1 (Z : State) (a1 : Addr) (u : Int32) (lo : Int32) (hi : Int32) (kc : ClassId) (B : Int → Int32) (h0 : Heap) (n0 : Nat) (v : Option Value) (h : Heap) (L : List Loc) : Prop := v = some (.int (1 : Int32)) ∧ (True) ∧ Fr n0 L ∧ h = h0
set_option maxRecDepth 65536 in
set_option maxHeartbeats 40000000 in
theorem rmc1 (l : Launch) (Z : State) (a0 : Array Value) (hw : ∀ d ∈ tables_1, d.before a0 Z = true) (ws : List Jvm.Cond) (a1 : Addr) (u : Int32) (lo : Int32) (hi : Int32) (kc : ClassId) (B : Int → Int32) (h0 : Heap) (n0 : Nat) (Z0 : n0 ≤ h0.size) (A_a1 : Arv Z h0 a1 kc .byte (6 : Int32) [(.int (B 0)), (.int (B 1)), (.int (B 2)), (.int (B 3)), (.int (B 4)), (.int (B 5))] (.int (0 : Int32))) (hB : ∀ i, -128 ≤ (B i).toInt ∧ (B i).toInt < 128) (hk : 0 ≤ u.toInt ∧ u.toInt + 1 ≤ 6) :
    MetFree l (⟨"com/example/bookplate/bookplate/marc/Utf8", "continues", "([BIIII)Z"⟩ : MethodName) (head1 (Jvm.Cond.code (⟨"com/example/bookplate/bookplate/marc/Utf8", "continues", "([BIIII)Z"⟩ : MethodName) prog_24_method_3_code 7 (some .boolean) :: ws) ({ frames := 0, cells := 0, slots := 0, locals := 0 } : Room)) (fun a U => a = #[(.ref a1), (.int u), (.int (1 : Int32)), (.int lo), (.int hi)] ∧ Z.Warmed39 U.vm ∧ U.heap = h0) (fun _ _ _ _ _ => True) (fun _ U o U' => ∃ v L, o = .returned v ∧ Qc1 Z a1 u lo hi kc B h0 n0 v U'.heap L ∧ FrameEnd U o U' L ({ frames := 0, cells := 0, slots := 0, locals := 0 } : Room).cells ({ frames := 0, cells := 0, slots := 0, locals := 0 } : Room).slots) := by
  refine MetFree.of_bodySF (plainFor_of_name pn_1) hisR ?_
  intro p e s m args below meth c s₁ Bd hml0 hP hK
  obtain ⟨rfl, hZ, hh⟩ := hP
  have hx := Bd.exec
  have hby := Bd.bytes
  have hml : c.maxLocals = 7 := hml0
  have hown : s.vm.findClass "com/example/bookplate/bookplate/marc/Utf8" = some m.cls := findClass_of_methodNamed Bd.named
  have hnm := (name_of_methodNamed Bd.named Bd.method).1
  have X0 : Stand p l e ({ frames := 0, cells := 0, slots := 0, locals := 0 } : Room) s m #[(.ref a1), (.int u), (.int (1 : Int32)), (.int lo), (.int hi)] below meth c s₁ [] 0 0 := Stand.of_body Bd
  have e0 : s₁.heap = h0 := by rw [← hh, Bd.state]; rfl
  have N0 := Fr.nil n0
  change own_Go p e below (Qc1 Z a1 u lo hi kc B h0 n0) (own_Fr s ({ frames := 0, cells := 0, slots := 0, locals := 0 } : Room).cells ({ frames := 0, cells := 0, slots := 0, locals := 0 } : Room).slots) (s₁.setTop (entryFrame m #[(.ref a1), (.int u), (.int (1 : Int32)), (.int lo), (.int hi)] 7))
  rw [ef_c1 m a1 u lo hi]
  have ru := rng32 u
  have rlo := rng32 lo
  have rhi := rng32 hi
  refine own_iloadN (pc' := 1) X0 hx rfl (hb hby dc1_0) rfl ?_
  refine own_iconst (pc' := 2) X0 hx (1 : Int32) (by decide) (hb hby dc1_1) rfl ?_
  refine own_icmpNo (pc' := 5) X0 hx (by decide) (hb hby dc1_2) rfl ?_
  refine own_iconst (pc' := 6) X0 hx (1 : Int32) (by decide) (hb hby dc1_5) rfl ?_
  refine own_ret X0 hx Bd.returns Bd.notSynchronized (Or.inl ⟨rfl, by simp, _, rfl⟩) (hb hby dc1_6) rfl (by decide) (by decide) ?_
  show Qc1 Z a1 u lo hi kc B h0 n0 _ s₁.heap _
  rw [e0]
  exact ⟨rfl, trivial, N0, rfl⟩
theorem ef_c2 (m : MethodId) (x0 : Addr) (x1 : Int32) (x3 : Int32) (x4 : Int32) : entryFrame m #[(.ref x0), (.int x1), (.int (2 : Int32)), (.int x3), (.int x4)] 7 = mkF m 0 #[.val (.ref x0), .val (.int x1), .val (.int (2 : Int32)), .val (.int x3), .val (.int x4), .unset, .unset] [] := by first | (simp [entryFrame, mkF, argsToLocals, Value.category, maxLocals]; done) | rfl
def Qc2 (Z : State) (a1 : Addr) (u : Int32) (lo : Int32) (hi : Int32) (kc : ClassId) (B : Int → Int32) (h0 : Heap) (n0 : Nat) (v : Option Value) (h : Heap) (L : List Loc) : Prop := ∃ r : Int32, v = some (.int r) ∧ ((r.toInt = 1 ∧ lo.toInt ≤ (B (u.toInt + 1)).toInt % 256 ∧ (B (u.toInt + 1)).toInt % 256 ≤ hi.toInt) ∨ (r.toInt = 0 ∧ ((B (u.toInt + 1)).toInt % 256 < lo.toInt ∨ hi.toInt < (B (u.toInt + 1)).toInt % 256))) ∧ Fr n0 L ∧ h = h0
set_option maxRecDepth 65536 in
set_option maxHeartbeats 40000000 in
theorem rmc2 (l : Launch) (Z : State) (a0 : Array Value) (hw : ∀ d ∈ tables_1, d.before a0 Z = true) (ws : List Jvm.Cond) (a1 : Addr) (u : Int32) (lo : Int32) (hi : Int32) (kc : ClassId) (B : Int → Int32) (h0 : Heap) (n0 : Nat) (Z0 : n0 ≤ h0.size) (A_a1 : Arv Z h0 a1 kc .byte (6 : Int32) [(.int (B 0)), (.int (B 1)), (.int (B 2)), (.int (B 3)), (.int (B 4)), (.int (B 5))] (.int (0 : Int32))) (hB : ∀ i, -128 ≤ (B i).toInt ∧ (B i).toInt < 128) (hk : 0 ≤ u.toInt ∧ u.toInt + 2 ≤ 6) :
    MetFree l (⟨"com/example/bookplate/bookplate/marc/Utf8", "continues", "([BIIII)Z"⟩ : MethodName) (head1 (Jvm.Cond.code (⟨"com/example/bookplate/bookplate/marc/Utf8", "continues", "([BIIII)Z"⟩ : MethodName) prog_24_method_3_code 7 (some .boolean) :: ws) ({ frames := 0, cells := 0, slots := 0, locals := 0 } : Room)) (fun a U => a = #[(.ref a1), (.int u), (.int (2 : Int32)), (.int lo), (.int hi)] ∧ Z.Warmed39 U.vm ∧ U.heap = h0) (fun _ _ _ _ _ => True) (fun _ U o U' => ∃ v L, o = .returned v ∧ Qc2 Z a1 u lo hi kc B h0 n0 v U'.heap L ∧ FrameEnd U o U' L ({ frames := 0, cells := 0, slots := 0, locals := 0 } : Room).cells ({ frames := 0, cells := 0, slots := 0, locals := 0 } : Room).slots) := by
  refine MetFree.of_bodySF (plainFor_of_name pn_1) hisR ?_
  intro p e s m args below meth c s₁ Bd hml0 hP hK
  obtain ⟨rfl, hZ, hh⟩ := hP
  have hx := Bd.exec
  have hby := Bd.bytes
  have hml : c.maxLocals = 7 := hml0
  have hown : s.vm.findClass "com/example/bookplate/bookplate/marc/Utf8" = some m.cls := findClass_of_methodNamed Bd.named
  have hnm := (name_of_methodNamed Bd.named Bd.method).1
  have X0 : Stand p l e ({ frames := 0, cells := 0, slots := 0, locals := 0 } : Room) s m #[(.ref a1), (.int u), (.int (2 : Int32)), (.int lo), (.int hi)] below meth c s₁ [] 0 0 := Stand.of_body Bd
  have e0 : s₁.heap = h0 := by rw [← hh, Bd.state]; rfl
  have N0 := Fr.nil n0
  change own_Go p e below (Qc2 Z a1 u lo hi kc B h0 n0) (own_Fr s ({ frames := 0, cells := 0, slots := 0, locals := 0 } : Room).cells ({ frames := 0, cells := 0, slots := 0, locals := 0 } : Room).slots) (s₁.setTop (entryFrame m #[(.ref a1), (.int u), (.int (2 : Int32)), (.int lo), (.int hi)] 7))
  rw [ef_c2 m a1 u lo hi]
  have ru := rng32 u
  have rlo := rng32 lo
  have rhi := rng32 hi
  refine own_iloadN (pc' := 1) X0 hx rfl (hb hby dc1_0) rfl ?_
  refine own_iconst (pc' := 2) X0 hx (1 : Int32) (by decide) (hb hby dc1_1) rfl ?_
  refine own_icmpYes (pc' := 7) X0 hx (hb hby dc1_2) (by decide) (by decide) (by decide) ?_
  refine own_aloadN (pc' := 8) X0 hx rfl rfl (hb hby dc1_7) rfl ?_
  refine own_iloadN (pc' := 9) X0 hx rfl (hb hby dc1_8) rfl ?_
  refine own_iconst (pc' := 10) X0 hx (1 : Int32) (by decide) (hb hby dc1_9) rfl ?_
  obtain ⟨v1, hv1⟩ : ∃ z, u + (1 : Int32) = z := ⟨_, rfl⟩
  have f2 : (v1.toInt - (u.toInt + 1)) % 4294967296 = 0 := by rw [← hv1]; exact c_iadd u (1 : Int32)
  have rv1 := rng32 v1
  replace f2 : v1.toInt = u.toInt + 1 := by omega
  refine own_iadd (pc' := 11) X0 hx (z := v1) hv1 (hb hby dc1_10) rfl ?_
  obtain ⟨c3, B3, q3, s3, u3, H3, G3⟩ := id A_a1
  obtain ⟨v3, hv3⟩ : ∃ z, B (u.toInt + 1) = z := ⟨_, rfl⟩
  have rv3 := hB (u.toInt + 1)
  rw [hv3] at rv3
  have ci3 : v1.toInt = u.toInt + 1 := by omega
  have i3 := inb_of s3 (j := v1) (own_inb (n := 6) ci3 (by decide) (by omega))
  refine own_by (X0.baloadBytes hx (j := v1) (v := (.int v3)) (by rw [e0]; exact B3.1) (State.isArrayOf_alike hZ.alike B3.2.1) B3.2.2 i3 (H3.at i3 (by rw [own_at6 ci3 (by omega), hv3])) (g := (mkF m 11 #[.val (.ref a1), .val (.int u), .val (.int (2 : Int32)), .val (.int lo), .val (.int hi), .unset, .unset] [(.int v1), (.ref a1)])) rfl rfl (hb hby dc1_11)) ?_
  show own_Go p e below (Qc2 Z a1 u lo hi kc B h0 n0) (own_Fr s ({ frames := 0, cells := 0, slots := 0, locals := 0 } : Room).cells ({ frames := 0, cells := 0, slots := 0, locals := 0 } : Room).slots) (s₁.setTop (mkF m 12 #[.val (.ref a1), .val (.int u), .val (.int (2 : Int32)), .val (.int lo), .val (.int hi), .unset, .unset] [(.int v3)]))
  refine own_sipush (pc' := 15) X0 hx (255 : Int32) (by decide) (hb hby dc1_12) rfl ?_
  obtain ⟨v4, hv4⟩ : ∃ z, v3 &&& (255 : Int32) = z := ⟨_, rfl⟩
  have f5 : v4.toInt = v3.toInt % 256 := by rw [← hv4]; exact c_mask v3 (255 : Int32) 8 (by decide) (by decide)
  refine own_iand (pc' := 16) X0 hx (z := v4) hv4 (hb hby dc1_15) rfl ?_
  refine own_istore (pc' := 18) X0 hx #[.val (.ref a1), .val (.int u), .val (.int (2 : Int32)), .val (.int lo), .val (.int hi), .val (.int v4), .unset] rfl (hb hby dc1_16) rfl ?_
  refine own_iload (pc' := 20) X0 hx rfl (hb hby dc1_18) rfl ?_
  refine own_iloadN (pc' := 21) X0 hx rfl (hb hby dc1_20) rfl ?_
  by_cases b6 : v4.toInt < lo.toInt
  · refine own_icmpYes (pc' := 31) X0 hx (hb hby dc1_21) (own_yes_lt rfl rfl b6) (by decide) (by decide) ?_
    refine own_iconst (pc' := 32) X0 hx (0 : Int32) (by decide) (hb hby dc1_31) rfl ?_
    refine own_ret X0 hx Bd.returns Bd.notSynchronized (Or.inl ⟨rfl, by simp, _, rfl⟩) (hb hby dc1_32) rfl (by decide) (by decide) ?_
    show Qc2 Z a1 u lo hi kc B h0 n0 _ s₁.heap _
    rw [e0]
    have kc0 : ((0 : Int32)).toInt = 0 := by decide
    subst hv3
    exact ⟨(0 : Int32), rfl, by omega, N0, rfl⟩
  · refine own_icmpNo (pc' := 24) X0 hx (own_no_lt rfl rfl b6) (hb hby dc1_21) rfl ?_
    refine own_iload (pc' := 26) X0 hx rfl (hb hby dc1_24) rfl ?_
    refine own_iload (pc' := 28) X0 hx rfl (hb hby dc1_26) rfl ?_
    by_cases b7 : hi.toInt < v4.toInt
    · refine own_icmpNo (pc' := 31) X0 hx (own_no_le rfl rfl b7) (hb hby dc1_28) rfl ?_
      refine own_iconst (pc' := 32) X0 hx (0 : Int32) (by decide) (hb hby dc1_31) rfl ?_
      refine own_ret X0 hx Bd.returns Bd.notSynchronized (Or.inl ⟨rfl, by simp, _, rfl⟩) (hb hby dc1_32) rfl (by decide) (by decide) ?_
      show Qc2 Z a1 u lo hi kc B h0 n0 _ s₁.heap _
      rw [e0]
      have kc0 : ((0 : Int32)).toInt = 0 := by decide
      subst hv3
      exact ⟨(0 : Int32), rfl, by omega, N0, rfl⟩
    · refine own_icmpYes (pc' := 33) X0 hx (hb hby dc1_28) (own_yes_le rfl rfl b7) (by decide) (by decide) ?_
      refine own_iloadN (pc' := 34) X0 hx rfl (hb hby dc1_33) rfl ?_
      refine own_iconst (pc' := 35) X0 hx (2 : Int32) (by decide) (hb hby dc1_34) rfl ?_
      obtain ⟨v8, hv8⟩ : ∃ z, u + (2 : Int32) = z := ⟨_, rfl⟩
      have f9 : (v8.toInt - (u.toInt + 2)) % 4294967296 = 0 := by rw [← hv8]; exact c_iadd u (2 : Int32)
      have rv8 := rng32 v8
      replace f9 : v8.toInt = u.toInt + 2 := by omega
      refine own_iadd (pc' := 36) X0 hx (z := v8) hv8 (hb hby dc1_35) rfl ?_
      refine own_istore (pc' := 38) X0 hx #[.val (.ref a1), .val (.int u), .val (.int (2 : Int32)), .val (.int lo), .val (.int hi), .val (.int v4), .val (.int v8)] rfl (hb hby dc1_36) rfl ?_
      refine own_iload (pc' := 40) X0 hx rfl (hb hby dc1_38) rfl ?_
      refine own_iloadN (pc' := 41) X0 hx rfl (hb hby dc1_40) rfl ?_
      refine own_iloadN (pc' := 42) X0 hx rfl (hb hby dc1_41) rfl ?_
      obtain ⟨v10, hv10⟩ : ∃ z, u + (2 : Int32) = z := ⟨_, rfl⟩
      have f11 : (v10.toInt - (u.toInt + 2)) % 4294967296 = 0 := by rw [← hv10]; exact c_iadd u (2 : Int32)
      have rv10 := rng32 v10
      replace f11 : v10.toInt = u.toInt + 2 := by omega
      refine own_iadd (pc' := 43) X0 hx (z := v10) hv10 (hb hby dc1_42) rfl ?_
      have b12 : ¬ v8.toInt < v10.toInt := by omega
      refine own_icmpYes (pc' := 68) X0 hx (hb hby dc1_43) (own_yes_ge rfl rfl b12) (by decide) (by decide) ?_
      refine own_iconst (pc' := 69) X0 hx (1 : Int32) (by decide) (hb hby dc1_68) rfl ?_
      refine own_ret X0 hx Bd.returns Bd.notSynchronized (Or.inl ⟨rfl, by simp, _, rfl⟩) (hb hby dc1_69) rfl (by decide) (by decide) ?_
      show Qc2 Z a1 u lo hi kc B h0 n0 _ s₁.heap _
      rw [e0]
      have kc0 : ((1 : Int32)).toInt = 1 := by decide
      subst hv3
      exact ⟨(1 : Int32), rfl, by omega, N0, rfl⟩
theorem ef_c3 (m : MethodId) (x0 : Addr) (x1 : Int32) (x3 : Int32) (x4 : Int32) : entryFrame m #[(.ref x0), (.int x1), (.int (3 : Int32)), (.int x3), (.int x4)] 7 = mkF m 0 #[.val (.ref x0), .val (.int x1), .val (.int (3 : Int32)), .val (.int x3), .val (.int x4), .unset, .unset] [] := by first | (simp [entryFrame, mkF, argsToLocals, Value.category, maxLocals]; done) | rfl
def Qc3 (Z : State) (a1 : Addr) (u : Int32) (lo : Int32) (hi : Int32) (kc : ClassId) (B : Int → Int32) (h0 : Heap) (n0 : Nat) (v : Option Value) (h : Heap) (L : List Loc) : Prop := ∃ r : Int32, v = some (.int r) ∧ ((r.toInt = 1 ∧ lo.toInt ≤ (B (u.toInt + 1)).toInt % 256 ∧ (B (u.toInt + 1)).toInt % 256 ≤ hi.toInt ∧ 128 ≤ (B (u.toInt + 2)).toInt % 256 ∧ (B (u.toInt + 2)).toInt % 256 ≤ 191) ∨ (r.toInt = 0 ∧ ((B (u.toInt + 1)).toInt % 256 < lo.toInt ∨ hi.toInt < (B (u.toInt + 1)).toInt % 256 ∨ (B (u.toInt + 2)).toInt % 256 < 128 ∨ 191 < (B (u.toInt + 2)).toInt % 256))) ∧ Fr n0 L ∧ h = h0
set_option maxRecDepth 65536 in
set_option maxHeartbeats 40000000 in
theorem rmc3 (l : Launch) (Z : State) (a0 : Array Value) (hw : ∀ d ∈ tables_1, d.before a0 Z = true) (ws : List Jvm.Cond) (a1 : Addr) (u : Int32) (lo : Int32) (hi : Int32) (kc : ClassId) (B : Int → Int32) (h0 : Heap) (n0 : Nat) (Z0 : n0 ≤ h0.size) (A_a1 : Arv Z h0 a1 kc .byte (6 : Int32) [(.int (B 0)), (.int (B 1)), (.int (B 2)), (.int (B 3)), (.int (B 4)), (.int (B 5))] (.int (0 : Int32))) (hB : ∀ i, -128 ≤ (B i).toInt ∧ (B i).toInt < 128) (hk : 0 ≤ u.toInt ∧ u.toInt + 3 ≤ 6) :
    MetFree l (⟨"com/example/bookplate/bookplate/marc/Utf8", "continues", "([BIIII)Z"⟩ : MethodName) (head1 (Jvm.Cond.code (⟨"com/example/bookplate/bookplate/marc/Utf8", "continues", "([BIIII)Z"⟩ : MethodName) prog_24_method_3_code 7 (some .boolean) :: ws) ({ frames := 0, cells := 0, slots := 0, locals := 0 } : Room)) (fun a U => a = #[(.ref a1), (.int u), (.int (3 : Int32)), (.int lo), (.int hi)] ∧ Z.Warmed39 U.vm ∧ U.heap = h0) (fun _ _ _ _ _ => True) (fun _ U o U' => ∃ v L, o = .returned v ∧ Qc3 Z a1 u lo hi kc B h0 n0 v U'.heap L ∧ FrameEnd U o U' L ({ frames := 0, cells := 0, slots := 0, locals := 0 } : Room).cells ({ frames := 0, cells := 0, slots := 0, locals := 0 } : Room).slots) := by
  refine MetFree.of_bodySF (plainFor_of_name pn_1) hisR ?_
  intro p e s m args below meth c s₁ Bd hml0 hP hK
  obtain ⟨rfl, hZ, hh⟩ := hP
  have hx := Bd.exec
  have hby := Bd.bytes
  have hml : c.maxLocals = 7 := hml0
  have hown : s.vm.findClass "com/example/bookplate/bookplate/marc/Utf8" = some m.cls := findClass_of_methodNamed Bd.named
  have hnm := (name_of_methodNamed Bd.named Bd.method).1
  have X0 : Stand p l e ({ frames := 0, cells := 0, slots := 0, locals := 0 } : Room) s m #[(.ref a1), (.int u), (.int (3 : Int32)), (.int lo), (.int hi)] below meth c s₁ [] 0 0 := Stand.of_body Bd
  have e0 : s₁.heap = h0 := by rw [← hh, Bd.state]; rfl
  have N0 := Fr.nil n0
  change own_Go p e below (Qc3 Z a1 u lo hi kc B h0 n0) (own_Fr s ({ frames := 0, cells := 0, slots := 0, locals := 0 } : Room).cells ({ frames := 0, cells := 0, slots := 0, locals := 0 } : Room).slots) (s₁.setTop (entryFrame m #[(.ref a1), (.int u), (.int (3 : Int32)), (.int lo), (.int hi)] 7))
  rw [ef_c3 m a1 u lo hi]
  have ru := rng32 u
  have rlo := rng32 lo
  have rhi := rng32 hi
  refine own_iloadN (pc' := 1) X0 hx rfl (hb hby dc1_0) rfl ?_
  refine own_iconst (pc' := 2) X0 hx (1 : Int32) (by decide) (hb hby dc1_1) rfl ?_
  refine own_icmpYes (pc' := 7) X0 hx (hb hby dc1_2) (by decide) (by decide) (by decide) ?_
  refine own_aloadN (pc' := 8) X0 hx rfl rfl (hb hby dc1_7) rfl ?_
  refine own_iloadN (pc' := 9) X0 hx rfl (hb hby dc1_8) rfl ?_
  refine own_iconst (pc' := 10) X0 hx (1 : Int32) (by decide) (hb hby dc1_9) rfl ?_
  obtain ⟨v1, hv1⟩ : ∃ z, u + (1 : Int32) = z := ⟨_, rfl⟩
  have f2 : (v1.toInt - (u.toInt + 1)) % 4294967296 = 0 := by rw [← hv1]; exact c_iadd u (1 : Int32)
  have rv1 := rng32 v1
  replace f2 : v1.toInt = u.toInt + 1 := by omega
  refine own_iadd (pc' := 11) X0 hx (z := v1) hv1 (hb hby dc1_10) rfl ?_
  obtain ⟨c3, B3, q3, s3, u3, H3, G3⟩ := id A_a1
  obtain ⟨v3, hv3⟩ : ∃ z, B (u.toInt + 1) = z := ⟨_, rfl⟩
  have rv3 := hB (u.toInt + 1)
  rw [hv3] at rv3
  have ci3 : v1.toInt = u.toInt + 1 := by omega
  have i3 := inb_of s3 (j := v1) (own_inb (n := 6) ci3 (by decide) (by omega))
  refine own_by (X0.baloadBytes hx (j := v1) (v := (.int v3)) (by rw [e0]; exact B3.1) (State.isArrayOf_alike hZ.alike B3.2.1) B3.2.2 i3 (H3.at i3 (by rw [own_at6 ci3 (by omega), hv3])) (g := (mkF m 11 #[.val (.ref a1), .val (.int u), .val (.int (3 : Int32)), .val (.int lo), .val (.int hi), .unset, .unset] [(.int v1), (.ref a1)])) rfl rfl (hb hby dc1_11)) ?_
  show own_Go p e below (Qc3 Z a1 u lo hi kc B h0 n0) (own_Fr s ({ frames := 0, cells := 0, slots := 0, locals := 0 } : Room).cells ({ frames := 0, cells := 0, slots := 0, locals := 0 } : Room).slots) (s₁.setTop (mkF m 12 #[.val (.ref a1), .val (.int u), .val (.int (3 : Int32)), .val (.int lo), .val (.int hi), .unset, .unset] [(.int v3)]))
  refine own_sipush (pc' := 15) X0 hx (255 : Int32) (by decide) (hb hby dc1_12) rfl ?_
  obtain ⟨v4, hv4⟩ : ∃ z, v3 &&& (255 : Int32) = z := ⟨_, rfl⟩
  have f5 : v4.toInt = v3.toInt % 256 := by rw [← hv4]; exact c_mask v3 (255 : Int32) 8 (by decide) (by decide)
  refine own_iand (pc' := 16) X0 hx (z := v4) hv4 (hb hby dc1_15) rfl ?_
  refine own_istore (pc' := 18) X0 hx #[.val (.ref a1), .val (.int u), .val (.int (3 : Int32)), .val (.int lo), .val (.int hi), .val (.int v4), .unset] rfl (hb hby dc1_16) rfl ?_
  refine own_iload (pc' := 20) X0 hx rfl (hb hby dc1_18) rfl ?_
  refine own_iloadN (pc' := 21) X0 hx rfl (hb hby dc1_20) rfl ?_
  by_cases b6 : v4.toInt < lo.toInt
  · refine own_icmpYes (pc' := 31) X0 hx (hb hby dc1_21) (own_yes_lt rfl rfl b6) (by decide) (by decide) ?_
    refine own_iconst (pc' := 32) X0 hx (0 : Int32) (by decide) (hb hby dc1_31) rfl ?_
    refine own_ret X0 hx Bd.returns Bd.notSynchronized (Or.inl ⟨rfl, by simp, _, rfl⟩) (hb hby dc1_32) rfl (by decide) (by decide) ?_
    show Qc3 Z a1 u lo hi kc B h0 n0 _ s₁.heap _
    rw [e0]
    have kc0 : ((0 : Int32)).toInt = 0 := by decide
    subst hv3
    exact ⟨(0 : Int32), rfl, by omega, N0, rfl⟩
  · refine own_icmpNo (pc' := 24) X0 hx (own_no_lt rfl rfl b6) (hb hby dc1_21) rfl ?_
    refine own_iload (pc' := 26) X0 hx rfl (hb hby dc1_24) rfl ?_
    refine own_iload (pc' := 28) X0 hx rfl (hb hby dc1_26) rfl ?_
    by_cases b7 : hi.toInt < v4.toInt
    · refine own_icmpNo (pc' := 31) X0 hx (own_no_le rfl rfl b7) (hb hby dc1_28) rfl ?_
      refine own_iconst (pc' := 32) X0 hx (0 : Int32) (by decide) (hb hby dc1_31) rfl ?_
      refine own_ret X0 hx Bd.returns Bd.notSynchronized (Or.inl ⟨rfl, by simp, _, rfl⟩) (hb hby dc1_32) rfl (by decide) (by decide) ?_
      show Qc3 Z a1 u lo hi kc B h0 n0 _ s₁.heap _
      rw [e0]
      have kc0 : ((0 : Int32)).toInt = 0 := by decide
      subst hv3
      exact ⟨(0 : Int32), rfl, by omega, N0, rfl⟩
    · refine own_icmpYes (pc' := 33) X0 hx (hb hby dc1_28) (own_yes_le rfl rfl b7) (by decide) (by decide) ?_
      refine own_iloadN (pc' := 34) X0 hx rfl (hb hby dc1_33) rfl ?_
      refine own_iconst (pc' := 35) X0 hx (2 : Int32) (by decide) (hb hby dc1_34) rfl ?_
      obtain ⟨v8, hv8⟩ : ∃ z, u + (2 : Int32) = z := ⟨_, rfl⟩
      have f9 : (v8.toInt - (u.toInt + 2)) % 4294967296 = 0 := by rw [← hv8]; exact c_iadd u (2 : Int32)
      have rv8 := rng32 v8
      replace f9 : v8.toInt = u.toInt + 2 := by omega
      refine own_iadd (pc' := 36) X0 hx (z := v8) hv8 (hb hby dc1_35) rfl ?_
      refine own_istore (pc' := 38) X0 hx #[.val (.ref a1), .val (.int u), .val (.int (3 : Int32)), .val (.int lo), .val (.int hi), .val (.int v4), .val (.int v8)] rfl (hb hby dc1_36) rfl ?_
      refine own_iload (pc' := 40) X0 hx rfl (hb hby dc1_38) rfl ?_
      refine own_iloadN (pc' := 41) X0 hx rfl (hb hby dc1_40) rfl ?_
      refine own_iloadN (pc' := 42) X0 hx rfl (hb hby dc1_41) rfl ?_
      obtain ⟨v10, hv10⟩ : ∃ z, u + (3 : Int32) = z := ⟨_, rfl⟩
      have f11 : (v10.toInt - (u.toInt + 3)) % 4294967296 = 0 := by rw [← hv10]; exact c_iadd u (3 : Int32)
      have rv10 := rng32 v10
      replace f11 : v10.toInt = u.toInt + 3 := by omega
      refine own_iadd (pc' := 43) X0 hx (z := v10) hv10 (hb hby dc1_42) rfl ?_
      have b12 : v8.toInt < v10.toInt := by omega
      refine own_icmpNo (pc' := 46) X0 hx (own_no_ge rfl rfl b12) (hb hby dc1_43) rfl ?_
      refine own_aloadN (pc' := 47) X0 hx rfl rfl (hb hby dc1_46) rfl ?_
      refine own_iload (pc' := 49) X0 hx rfl (hb hby dc1_47) rfl ?_
      obtain ⟨c13, B13, q13, s13, u13, H13, G13⟩ := id A_a1
      obtain ⟨v13, hv13⟩ : ∃ z, B (u.toInt + 2) = z := ⟨_, rfl⟩
      have rv13 := hB (u.toInt + 2)
      rw [hv13] at rv13
      have ci13 : v8.toInt = u.toInt + 2 := by omega
      have i13 := inb_of s13 (j := v8) (own_inb (n := 6) ci13 (by decide) (by omega))
      refine own_by (X0.baloadBytes hx (j := v8) (v := (.int v13)) (by rw [e0]; exact B13.1) (State.isArrayOf_alike hZ.alike B13.2.1) B13.2.2 i13 (H13.at i13 (by rw [own_at6 ci13 (by omega), hv13])) (g := (mkF m 49 #[.val (.ref a1), .val (.int u), .val (.int (3 : Int32)), .val (.int lo), .val (.int hi), .val (.int v4), .val (.int v8)] [(.int v8), (.ref a1)])) rfl rfl (hb hby dc1_49)) ?_
      show own_Go p e below (Qc3 Z a1 u lo hi kc B h0 n0) (own_Fr s ({ frames := 0, cells := 0, slots := 0, locals := 0 } : Room).cells ({ frames := 0, cells := 0, slots := 0, locals := 0 } : Room).slots) (s₁.setTop (mkF m 50 #[.val (.ref a1), .val (.int u), .val (.int (3 : Int32)), .val (.int lo), .val (.int hi), .val (.int v4), .val (.int v8)] [(.int v13)]))
      refine own_sipush (pc' := 53) X0 hx (192 : Int32) (by decide) (hb hby dc1_50) rfl ?_
      obtain ⟨v14, hv14⟩ : ∃ z, v13 &&& (192 : Int32) = z := ⟨_, rfl⟩
      have rv14 := rng32 v14
      have f15 : v14.toInt = (v13.toInt % 256) / 64 * 64 := by rw [← hv14]; exact own_hs (by omega)
      refine own_iand (pc' := 54) X0 hx (z := v14) hv14 (hb hby dc1_53) rfl ?_
      refine own_sipush (pc' := 57) X0 hx (128 : Int32) (by decide) (hb hby dc1_54) rfl ?_
      by_cases b16 : v14.toInt = 128
      · refine own_icmpYes (pc' := 62) X0 hx (hb hby dc1_57) (own_yes_eq rfl (by decide) b16) (by decide) (by decide) ?_
        obtain ⟨v17, hv17⟩ : ∃ z, v8 + (1 : Int32) = z := ⟨_, rfl⟩
        have f18 : (v17.toInt - (v8.toInt + 1)) % 4294967296 = 0 := by rw [← hv17]; exact c_iadd v8 (1 : Int32)
        have rv17 := rng32 v17
        replace f18 : v17.toInt = v8.toInt + 1 := by omega
        refine own_iinc (pc' := 65) X0 hx #[.val (.ref a1), .val (.int u), .val (.int (3 : Int32)), .val (.int lo), .val (.int hi), .val (.int v4), .val (.int v17)] rfl hv17 rfl (hb hby dc1_62) rfl ?_
        refine own_goto (pc' := 38) X0 hx (hb hby dc1_65) (by decide) (by decide) ?_
        refine own_iload (pc' := 40) X0 hx rfl (hb hby dc1_38) rfl ?_
        refine own_iloadN (pc' := 41) X0 hx rfl (hb hby dc1_40) rfl ?_
        refine own_iloadN (pc' := 42) X0 hx rfl (hb hby dc1_41) rfl ?_
        obtain ⟨v19, hv19⟩ : ∃ z, u + (3 : Int32) = z := ⟨_, rfl⟩
        have f20 : (v19.toInt - (u.toInt + 3)) % 4294967296 = 0 := by rw [← hv19]; exact c_iadd u (3 : Int32)
        have rv19 := rng32 v19
        replace f20 : v19.toInt = u.toInt + 3 := by omega
        refine own_iadd (pc' := 43) X0 hx (z := v19) hv19 (hb hby dc1_42) rfl ?_
        have b21 : ¬ v17.toInt < v19.toInt := by omega
        refine own_icmpYes (pc' := 68) X0 hx (hb hby dc1_43) (own_yes_ge rfl rfl b21) (by decide) (by decide) ?_
        refine own_iconst (pc' := 69) X0 hx (1 : Int32) (by decide) (hb hby dc1_68) rfl ?_
        refine own_ret X0 hx Bd.returns Bd.notSynchronized (Or.inl ⟨rfl, by simp, _, rfl⟩) (hb hby dc1_69) rfl (by decide) (by decide) ?_
        show Qc3 Z a1 u lo hi kc B h0 n0 _ s₁.heap _
        rw [e0]
        have kc0 : ((1 : Int32)).toInt = 1 := by decide
        subst hv3
        subst hv13
        exact ⟨(1 : Int32), rfl, by omega, N0, rfl⟩
      · refine own_icmpNo (pc' := 60) X0 hx (own_no_eq rfl (by decide) b16) (hb hby dc1_57) rfl ?_
        refine own_iconst (pc' := 61) X0 hx (0 : Int32) (by decide) (hb hby dc1_60) rfl ?_
        refine own_ret X0 hx Bd.returns Bd.notSynchronized (Or.inl ⟨rfl, by simp, _, rfl⟩) (hb hby dc1_61) rfl (by decide) (by decide) ?_
        show Qc3 Z a1 u lo hi kc B h0 n0 _ s₁.heap _
        rw [e0]
        have kc0 : ((0 : Int32)).toInt = 0 := by decide
        subst hv3
        subst hv13
        exact ⟨(0 : Int32), rfl, by omega, N0, rfl⟩
theorem ef_c4 (m : MethodId) (x0 : Addr) (x1 : Int32) (x3 : Int32) (x4 : Int32) : entryFrame m #[(.ref x0), (.int x1), (.int (4 : Int32)), (.int x3), (.int x4)] 7 = mkF m 0 #[.val (.ref x0), .val (.int x1), .val (.int (4 : Int32)), .val (.int x3), .val (.int x4), .unset, .unset] [] := by first | (simp [entryFrame, mkF, argsToLocals, Value.category, maxLocals]; done) | rfl
def Qc4 (Z : State) (a1 : Addr) (u : Int32) (lo : Int32) (hi : Int32) (kc : ClassId) (B : Int → Int32) (h0 : Heap) (n0 : Nat) (v : Option Value) (h : Heap) (L : List Loc) : Prop := ∃ r : Int32, v = some (.int r) ∧ ((r.toInt = 1 ∧ lo.toInt ≤ (B (u.toInt + 1)).toInt % 256 ∧ (B (u.toInt + 1)).toInt % 256 ≤ hi.toInt ∧ 128 ≤ (B (u.toInt + 2)).toInt % 256 ∧ (B (u.toInt + 2)).toInt % 256 ≤ 191 ∧ 128 ≤ (B (u.toInt + 3)).toInt % 256 ∧ (B (u.toInt + 3)).toInt % 256 ≤ 191) ∨ (r.toInt = 0 ∧ ((B (u.toInt + 1)).toInt % 256 < lo.toInt ∨ hi.toInt < (B (u.toInt + 1)).toInt % 256 ∨ (B (u.toInt + 2)).toInt % 256 < 128 ∨ 191 < (B (u.toInt + 2)).toInt % 256 ∨ (B (u.toInt + 3)).toInt % 256 < 128 ∨ 191 < (B (u.toInt + 3)).toInt % 256))) ∧ Fr n0 L ∧ h = h0
set_option maxRecDepth 65536 in
set_option maxHeartbeats 40000000 in
theorem rmc4 (l : Launch) (Z : State) (a0 : Array Value) (hw : ∀ d ∈ tables_1, d.before a0 Z = true) (ws : List Jvm.Cond) (a1 : Addr) (u : Int32) (lo : Int32) (hi : Int32) (kc : ClassId) (B : Int → Int32) (h0 : Heap) (n0 : Nat) (Z0 : n0 ≤ h0.size) (A_a1 : Arv Z h0 a1 kc .byte (6 : Int32) [(.int (B 0)), (.int (B 1)), (.int (B 2)), (.int (B 3)), (.int (B 4)), (.int (B 5))] (.int (0 : Int32))) (hB : ∀ i, -128 ≤ (B i).toInt ∧ (B i).toInt < 128) (hk : 0 ≤ u.toInt ∧ u.toInt + 4 ≤ 6) :
    MetFree l (⟨"com/example/bookplate/bookplate/marc/Utf8", "continues", "([BIIII)Z"⟩ : MethodName) (head1 (Jvm.Cond.code (⟨"com/example/bookplate/bookplate/marc/Utf8", "continues", "([BIIII)Z"⟩ : MethodName) prog_24_method_3_code 7 (some .boolean) :: ws) ({ frames := 0, cells := 0, slots := 0, locals := 0 } : Room)) (fun a U => a = #[(.ref a1), (.int u), (.int (4 : Int32)), (.int lo), (.int hi)] ∧ Z.Warmed39 U.vm ∧ U.heap = h0) (fun _ _ _ _ _ => True) (fun _ U o U' => ∃ v L, o = .returned v ∧ Qc4 Z a1 u lo hi kc B h0 n0 v U'.heap L ∧ FrameEnd U o U' L ({ frames := 0, cells := 0, slots := 0, locals := 0 } : Room).cells ({ frames := 0, cells := 0, slots := 0, locals := 0 } : Room).slots) := by
  refine MetFree.of_bodySF (plainFor_of_name pn_1) hisR ?_
  intro p e s m args below meth c s₁ Bd hml0 hP hK
  obtain ⟨rfl, hZ, hh⟩ := hP
  have hx := Bd.exec
  have hby := Bd.bytes
  have hml : c.maxLocals = 7 := hml0
  have hown : s.vm.findClass "com/example/bookplate/bookplate/marc/Utf8" = some m.cls := findClass_of_methodNamed Bd.named
  have hnm := (name_of_methodNamed Bd.named Bd.method).1
  have X0 : Stand p l e ({ frames := 0, cells := 0, slots := 0, locals := 0 } : Room) s m #[(.ref a1), (.int u), (.int (4 : Int32)), (.int lo), (.int hi)] below meth c s₁ [] 0 0 := Stand.of_body Bd
  have e0 : s₁.heap = h0 := by rw [← hh, Bd.state]; rfl
  have N0 := Fr.nil n0
  change own_Go p e below (Qc4 Z a1 u lo hi kc B h0 n0) (own_Fr s ({ frames := 0, cells := 0, slots := 0, locals := 0 } : Room).cells ({ frames := 0, cells := 0, slots := 0, locals := 0 } : Room).slots) (s₁.setTop (entryFrame m #[(.ref a1), (.int u), (.int (4 : Int32)), (.int lo), (.int hi)] 7))
  rw [ef_c4 m a1 u lo hi]
  have ru := rng32 u
  have rlo := rng32 lo
  have rhi := rng32 hi
  refine own_iloadN (pc' := 1) X0 hx rfl (hb hby dc1_0) rfl ?_
  refine own_iconst (pc' := 2) X0 hx (1 : Int32) (by decide) (hb hby dc1_1) rfl ?_
  refine own_icmpYes (pc' := 7) X0 hx (hb hby dc1_2) (by decide) (by decide) (by decide) ?_
  refine own_aloadN (pc' := 8) X0 hx rfl rfl (hb hby dc1_7) rfl ?_
  refine own_iloadN (pc' := 9) X0 hx rfl (hb hby dc1_8) rfl ?_
  refine own_iconst (pc' := 10) X0 hx (1 : Int32) (by decide) (hb hby dc1_9) rfl ?_
  obtain ⟨v1, hv1⟩ : ∃ z, u + (1 : Int32) = z := ⟨_, rfl⟩
  have f2 : (v1.toInt - (u.toInt + 1)) % 4294967296 = 0 := by rw [← hv1]; exact c_iadd u (1 : Int32)
  have rv1 := rng32 v1
  replace f2 : v1.toInt = u.toInt + 1 := by omega
  refine own_iadd (pc' := 11) X0 hx (z := v1) hv1 (hb hby dc1_10) rfl ?_
  obtain ⟨c3, B3, q3, s3, u3, H3, G3⟩ := id A_a1
  obtain ⟨v3, hv3⟩ : ∃ z, B (u.toInt + 1) = z := ⟨_, rfl⟩
  have rv3 := hB (u.toInt + 1)
  rw [hv3] at rv3
  have ci3 : v1.toInt = u.toInt + 1 := by omega
  have i3 := inb_of s3 (j := v1) (own_inb (n := 6) ci3 (by decide) (by omega))
  refine own_by (X0.baloadBytes hx (j := v1) (v := (.int v3)) (by rw [e0]; exact B3.1) (State.isArrayOf_alike hZ.alike B3.2.1) B3.2.2 i3 (H3.at i3 (by rw [own_at6 ci3 (by omega), hv3])) (g := (mkF m 11 #[.val (.ref a1), .val (.int u), .val (.int (4 : Int32)), .val (.int lo), .val (.int hi), .unset, .unset] [(.int v1), (.ref a1)])) rfl rfl (hb hby dc1_11)) ?_
  show own_Go p e below (Qc4 Z a1 u lo hi kc B h0 n0) (own_Fr s ({ frames := 0, cells := 0, slots := 0, locals := 0 } : Room).cells ({ frames := 0, cells := 0, slots := 0, locals := 0 } : Room).slots) (s₁.setTop (mkF m 12 #[.val (.ref a1), .val (.int u), .val (.int (4 : Int32)), .val (.int lo), .val (.int hi), .unset, .unset] [(.int v3)]))
  refine own_sipush (pc' := 15) X0 hx (255 : Int32) (by decide) (hb hby dc1_12) rfl ?_
  obtain ⟨v4, hv4⟩ : ∃ z, v3 &&& (255 : Int32) = z := ⟨_, rfl⟩
  have f5 : v4.toInt = v3.toInt % 256 := by rw [← hv4]; exact c_mask v3 (255 : Int32) 8 (by decide) (by decide)
  refine own_iand (pc' := 16) X0 hx (z := v4) hv4 (hb hby dc1_15) rfl ?_
  refine own_istore (pc' := 18) X0 hx #[.val (.ref a1), .val (.int u), .val (.int (4 : Int32)), .val (.int lo), .val (.int hi), .val (.int v4), .unset] rfl (hb hby dc1_16) rfl ?_
  refine own_iload (pc' := 20) X0 hx rfl (hb hby dc1_18) rfl ?_
  refine own_iloadN (pc' := 21) X0 hx rfl (hb hby dc1_20) rfl ?_
  by_cases b6 : v4.toInt < lo.toInt
  · refine own_icmpYes (pc' := 31) X0 hx (hb hby dc1_21) (own_yes_lt rfl rfl b6) (by decide) (by decide) ?_
    refine own_iconst (pc' := 32) X0 hx (0 : Int32) (by decide) (hb hby dc1_31) rfl ?_
    refine own_ret X0 hx Bd.returns Bd.notSynchronized (Or.inl ⟨rfl, by simp, _, rfl⟩) (hb hby dc1_32) rfl (by decide) (by decide) ?_
    show Qc4 Z a1 u lo hi kc B h0 n0 _ s₁.heap _
    rw [e0]
    have kc0 : ((0 : Int32)).toInt = 0 := by decide
    subst hv3
    exact ⟨(0 : Int32), rfl, by omega, N0, rfl⟩
  · refine own_icmpNo (pc' := 24) X0 hx (own_no_lt rfl rfl b6) (hb hby dc1_21) rfl ?_
    refine own_iload (pc' := 26) X0 hx rfl (hb hby dc1_24) rfl ?_
    refine own_iload (pc' := 28) X0 hx rfl (hb hby dc1_26) rfl ?_
    by_cases b7 : hi.toInt < v4.toInt
    · refine own_icmpNo (pc' := 31) X0 hx (own_no_le rfl rfl b7) (hb hby dc1_28) rfl ?_
      refine own_iconst (pc' := 32) X0 hx (0 : Int32) (by decide) (hb hby dc1_31) rfl ?_
      refine own_ret X0 hx Bd.returns Bd.notSynchronized (Or.inl ⟨rfl, by simp, _, rfl⟩) (hb hby dc1_32) rfl (by decide) (by decide) ?_
      show Qc4 Z a1 u lo hi kc B h0 n0 _ s₁.heap _
      rw [e0]
      have kc0 : ((0 : Int32)).toInt = 0 := by decide
      subst hv3
      exact ⟨(0 : Int32), rfl, by omega, N0, rfl⟩
    · refine own_icmpYes (pc' := 33) X0 hx (hb hby dc1_28) (own_yes_le rfl rfl b7) (by decide) (by decide) ?_
      refine own_iloadN (pc' := 34) X0 hx rfl (hb hby dc1_33) rfl ?_
      refine own_iconst (pc' := 35) X0 hx (2 : Int32) (by decide) (hb hby dc1_34) rfl ?_
      obtain ⟨v8, hv8⟩ : ∃ z, u + (2 : Int32) = z := ⟨_, rfl⟩
      have f9 : (v8.toInt - (u.toInt + 2)) % 4294967296 = 0 := by rw [← hv8]; exact c_iadd u (2 : Int32)
      have rv8 := rng32 v8
      replace f9 : v8.toInt = u.toInt + 2 := by omega
      refine own_iadd (pc' := 36) X0 hx (z := v8) hv8 (hb hby dc1_35) rfl ?_
      refine own_istore (pc' := 38) X0 hx #[.val (.ref a1), .val (.int u), .val (.int (4 : Int32)), .val (.int lo), .val (.int hi), .val (.int v4), .val (.int v8)] rfl (hb hby dc1_36) rfl ?_
      refine own_iload (pc' := 40) X0 hx rfl (hb hby dc1_38) rfl ?_
      refine own_iloadN (pc' := 41) X0 hx rfl (hb hby dc1_40) rfl ?_
      refine own_iloadN (pc' := 42) X0 hx rfl (hb hby dc1_41) rfl ?_
      obtain ⟨v10, hv10⟩ : ∃ z, u + (4 : Int32) = z := ⟨_, rfl⟩
      have f11 : (v10.toInt - (u.toInt + 4)) % 4294967296 = 0 := by rw [← hv10]; exact c_iadd u (4 : Int32)
      have rv10 := rng32 v10
      replace f11 : v10.toInt = u.toInt + 4 := by omega
      refine own_iadd (pc' := 43) X0 hx (z := v10) hv10 (hb hby dc1_42) rfl ?_
      have b12 : v8.toInt < v10.toInt := by omega
      refine own_icmpNo (pc' := 46) X0 hx (own_no_ge rfl rfl b12) (hb hby dc1_43) rfl ?_
      refine own_aloadN (pc' := 47) X0 hx rfl rfl (hb hby dc1_46) rfl ?_
      refine own_iload (pc' := 49) X0 hx rfl (hb hby dc1_47) rfl ?_
      obtain ⟨c13, B13, q13, s13, u13, H13, G13⟩ := id A_a1
      obtain ⟨v13, hv13⟩ : ∃ z, B (u.toInt + 2) = z := ⟨_, rfl⟩
      have rv13 := hB (u.toInt + 2)
      rw [hv13] at rv13
      have ci13 : v8.toInt = u.toInt + 2 := by omega
      have i13 := inb_of s13 (j := v8) (own_inb (n := 6) ci13 (by decide) (by omega))
      refine own_by (X0.baloadBytes hx (j := v8) (v := (.int v13)) (by rw [e0]; exact B13.1) (State.isArrayOf_alike hZ.alike B13.2.1) B13.2.2 i13 (H13.at i13 (by rw [own_at6 ci13 (by omega), hv13])) (g := (mkF m 49 #[.val (.ref a1), .val (.int u), .val (.int (4 : Int32)), .val (.int lo), .val (.int hi), .val (.int v4), .val (.int v8)] [(.int v8), (.ref a1)])) rfl rfl (hb hby dc1_49)) ?_
      show own_Go p e below (Qc4 Z a1 u lo hi kc B h0 n0) (own_Fr s ({ frames := 0, cells := 0, slots := 0, locals := 0 } : Room).cells ({ frames := 0, cells := 0, slots := 0, locals := 0 } : Room).slots) (s₁.setTop (mkF m 50 #[.val (.ref a1), .val (.int u), .val (.int (4 : Int32)), .val (.int lo), .val (.int hi), .val (.int v4), .val (.int v8)] [(.int v13)]))
      refine own_sipush (pc' := 53) X0 hx (192 : Int32) (by decide) (hb hby dc1_50) rfl ?_
      obtain ⟨v14, hv14⟩ : ∃ z, v13 &&& (192 : Int32) = z := ⟨_, rfl⟩
      have rv14 := rng32 v14
      have f15 : v14.toInt = (v13.toInt % 256) / 64 * 64 := by rw [← hv14]; exact own_hs (by omega)
      refine own_iand (pc' := 54) X0 hx (z := v14) hv14 (hb hby dc1_53) rfl ?_
      refine own_sipush (pc' := 57) X0 hx (128 : Int32) (by decide) (hb hby dc1_54) rfl ?_
      by_cases b16 : v14.toInt = 128
      · refine own_icmpYes (pc' := 62) X0 hx (hb hby dc1_57) (own_yes_eq rfl (by decide) b16) (by decide) (by decide) ?_
        obtain ⟨v17, hv17⟩ : ∃ z, v8 + (1 : Int32) = z := ⟨_, rfl⟩
        have f18 : (v17.toInt - (v8.toInt + 1)) % 4294967296 = 0 := by rw [← hv17]; exact c_iadd v8 (1 : Int32)
        have rv17 := rng32 v17
        replace f18 : v17.toInt = v8.toInt + 1 := by omega
        refine own_iinc (pc' := 65) X0 hx #[.val (.ref a1), .val (.int u), .val (.int (4 : Int32)), .val (.int lo), .val (.int hi), .val (.int v4), .val (.int v17)] rfl hv17 rfl (hb hby dc1_62) rfl ?_
        refine own_goto (pc' := 38) X0 hx (hb hby dc1_65) (by decide) (by decide) ?_
        refine own_iload (pc' := 40) X0 hx rfl (hb hby dc1_38) rfl ?_
        refine own_iloadN (pc' := 41) X0 hx rfl (hb hby dc1_40) rfl ?_
        refine own_iloadN (pc' := 42) X0 hx rfl (hb hby dc1_41) rfl ?_
        obtain ⟨v19, hv19⟩ : ∃ z, u + (4 : Int32) = z := ⟨_, rfl⟩
        have f20 : (v19.toInt - (u.toInt + 4)) % 4294967296 = 0 := by rw [← hv19]; exact c_iadd u (4 : Int32)
        have rv19 := rng32 v19
        replace f20 : v19.toInt = u.toInt + 4 := by omega
        refine own_iadd (pc' := 43) X0 hx (z := v19) hv19 (hb hby dc1_42) rfl ?_
        have b21 : v17.toInt < v19.toInt := by omega
        refine own_icmpNo (pc' := 46) X0 hx (own_no_ge rfl rfl b21) (hb hby dc1_43) rfl ?_
        refine own_aloadN (pc' := 47) X0 hx rfl rfl (hb hby dc1_46) rfl ?_
        refine own_iload (pc' := 49) X0 hx rfl (hb hby dc1_47) rfl ?_
        obtain ⟨c22, B22, q22, s22, u22, H22, G22⟩ := id A_a1
        obtain ⟨v22, hv22⟩ : ∃ z, B (u.toInt + 3) = z := ⟨_, rfl⟩
        have rv22 := hB (u.toInt + 3)
        rw [hv22] at rv22
        have ci22 : v17.toInt = u.toInt + 3 := by omega
        have i22 := inb_of s22 (j := v17) (own_inb (n := 6) ci22 (by decide) (by omega))
        refine own_by (X0.baloadBytes hx (j := v17) (v := (.int v22)) (by rw [e0]; exact B22.1) (State.isArrayOf_alike hZ.alike B22.2.1) B22.2.2 i22 (H22.at i22 (by rw [own_at6 ci22 (by omega), hv22])) (g := (mkF m 49 #[.val (.ref a1), .val (.int u), .val (.int (4 : Int32)), .val (.int lo), .val (.int hi), .val (.int v4), .val (.int v17)] [(.int v17), (.ref a1)])) rfl rfl (hb hby dc1_49)) ?_
        show own_Go p e below (Qc4 Z a1 u lo hi kc B h0 n0) (own_Fr s ({ frames := 0, cells := 0, slots := 0, locals := 0 } : Room).cells ({ frames := 0, cells := 0, slots := 0, locals := 0 } : Room).slots) (s₁.setTop (mkF m 50 #[.val (.ref a1), .val (.int u), .val (.int (4 : Int32)), .val (.int lo), .val (.int hi), .val (.int v4), .val (.int v17)] [(.int v22)]))
        refine own_sipush (pc' := 53) X0 hx (192 : Int32) (by decide) (hb hby dc1_50) rfl ?_
        obtain ⟨v23, hv23⟩ : ∃ z, v22 &&& (192 : Int32) = z := ⟨_, rfl⟩
        have rv23 := rng32 v23
        have f24 : v23.toInt = (v22.toInt % 256) / 64 * 64 := by rw [← hv23]; exact own_hs (by omega)
        refine own_iand (pc' := 54) X0 hx (z := v23) hv23 (hb hby dc1_53) rfl ?_
        refine own_sipush (pc' := 57) X0 hx (128 : Int32) (by decide) (hb hby dc1_54) rfl ?_
        by_cases b25 : v23.toInt = 128
        · refine own_icmpYes (pc' := 62) X0 hx (hb hby dc1_57) (own_yes_eq rfl (by decide) b25) (by decide) (by decide) ?_
          obtain ⟨v26, hv26⟩ : ∃ z, v17 + (1 : Int32) = z := ⟨_, rfl⟩
          have f27 : (v26.toInt - (v17.toInt + 1)) % 4294967296 = 0 := by rw [← hv26]; exact c_iadd v17 (1 : Int32)
          have rv26 := rng32 v26
          replace f27 : v26.toInt = v17.toInt + 1 := by omega
          refine own_iinc (pc' := 65) X0 hx #[.val (.ref a1), .val (.int u), .val (.int (4 : Int32)), .val (.int lo), .val (.int hi), .val (.int v4), .val (.int v26)] rfl hv26 rfl (hb hby dc1_62) rfl ?_
          refine own_goto (pc' := 38) X0 hx (hb hby dc1_65) (by decide) (by decide) ?_
          refine own_iload (pc' := 40) X0 hx rfl (hb hby dc1_38) rfl ?_
          refine own_iloadN (pc' := 41) X0 hx rfl (hb hby dc1_40) rfl ?_
          refine own_iloadN (pc' := 42) X0 hx rfl (hb hby dc1_41) rfl ?_
          obtain ⟨v28, hv28⟩ : ∃ z, u + (4 : Int32) = z := ⟨_, rfl⟩
          have f29 : (v28.toInt - (u.toInt + 4)) % 4294967296 = 0 := by rw [← hv28]; exact c_iadd u (4 : Int32)
          have rv28 := rng32 v28
          replace f29 : v28.toInt = u.toInt + 4 := by omega
          refine own_iadd (pc' := 43) X0 hx (z := v28) hv28 (hb hby dc1_42) rfl ?_
          have b30 : ¬ v26.toInt < v28.toInt := by omega
          refine own_icmpYes (pc' := 68) X0 hx (hb hby dc1_43) (own_yes_ge rfl rfl b30) (by decide) (by decide) ?_
          refine own_iconst (pc' := 69) X0 hx (1 : Int32) (by decide) (hb hby dc1_68) rfl ?_
          refine own_ret X0 hx Bd.returns Bd.notSynchronized (Or.inl ⟨rfl, by simp, _, rfl⟩) (hb hby dc1_69) rfl (by decide) (by decide) ?_
          show Qc4 Z a1 u lo hi kc B h0 n0 _ s₁.heap _
          rw [e0]
          have kc0 : ((1 : Int32)).toInt = 1 := by decide
          subst hv3
          subst hv13
          subst hv22
          exact ⟨(1 : Int32), rfl, by omega, N0, rfl⟩
        · refine own_icmpNo (pc' := 60) X0 hx (own_no_eq rfl (by decide) b25) (hb hby dc1_57) rfl ?_
          refine own_iconst (pc' := 61) X0 hx (0 : Int32) (by decide) (hb hby dc1_60) rfl ?_
          refine own_ret X0 hx Bd.returns Bd.notSynchronized (Or.inl ⟨rfl, by simp, _, rfl⟩) (hb hby dc1_61) rfl (by decide) (by decide) ?_
          show Qc4 Z a1 u lo hi kc B h0 n0 _ s₁.heap _
          rw [e0]
          have kc0 : ((0 : Int32)).toInt = 0 := by decide
          subst hv3
          subst hv13
          subst hv22
          exact ⟨(0 : Int32), rfl, by omega, N0, rfl⟩
      · refine own_icmpNo (pc' := 60) X0 hx (own_no_eq rfl (by decide) b16) (hb hby dc1_57) rfl ?_
        refine own_iconst (pc' := 61) X0 hx (0 : Int32) (by decide) (hb hby dc1_60) rfl ?_
        refine own_ret X0 hx Bd.returns Bd.notSynchronized (Or.inl ⟨rfl, by simp, _, rfl⟩) (hb hby dc1_61) rfl (by decide) (by decide) ?_
        show Qc4 Z a1 u lo hi kc B h0 n0 _ s₁.heap _
        rw [e0]
        have kc0 : ((0 : Int32)).toInt = 0 := by decide
        subst hv3
        subst hv13
        exact ⟨(0 : Int32), rfl, by omega, N0, rfl⟩
theorem dw_0 : decode prog_24_method_2_code 0 = .ok (.iload_n 1, 1) := by decide +kernel
theorem dw_1 : decode prog_24_method_2_code 1 = .ok (.istore_n 3, 1) := by decide +kernel
theorem dw_2 : decode prog_24_method_2_code 2 = .ok (.iload_n 3, 1) := by decide +kernel
theorem dw_3 : decode prog_24_method_2_code 3 = .ok (.iload_n 2, 1) := by decide +kernel
theorem dw_4 : decode prog_24_method_2_code 4 = .ok (.if_icmp .ge 205, 3) := by decide +kernel
theorem dw_7 : decode prog_24_method_2_code 7 = .ok (.aload_n 0, 1) := by decide +kernel
theorem dw_8 : decode prog_24_method_2_code 8 = .ok (.iload_n 3, 1) := by decide +kernel
theorem dw_9 : decode prog_24_method_2_code 9 = .ok (.baload, 1) := by decide +kernel
theorem dw_10 : decode prog_24_method_2_code 10 = .ok (.sipush 255, 3) := by decide +kernel
theorem dw_13 : decode prog_24_method_2_code 13 = .ok (.iand, 1) := by decide +kernel
theorem dw_14 : decode prog_24_method_2_code 14 = .ok (.istore 4, 2) := by decide +kernel
theorem dw_16 : decode prog_24_method_2_code 16 = .ok (.iconst 1, 1) := by decide +kernel
theorem dw_17 : decode prog_24_method_2_code 17 = .ok (.istore 5, 2) := by decide +kernel
theorem dw_19 : decode prog_24_method_2_code 19 = .ok (.sipush 128, 3) := by decide +kernel
theorem dw_22 : decode prog_24_method_2_code 22 = .ok (.istore 6, 2) := by decide +kernel
theorem dw_24 : decode prog_24_method_2_code 24 = .ok (.sipush 191, 3) := by decide +kernel
theorem dw_27 : decode prog_24_method_2_code 27 = .ok (.istore 7, 2) := by decide +kernel
theorem dw_29 : decode prog_24_method_2_code 29 = .ok (.iload 4, 2) := by decide +kernel
theorem dw_31 : decode prog_24_method_2_code 31 = .ok (.sipush 194, 3) := by decide +kernel
theorem dw_34 : decode prog_24_method_2_code 34 = .ok (.if_icmp .lt 17, 3) := by decide +kernel
theorem dw_37 : decode prog_24_method_2_code 37 = .ok (.iload 4, 2) := by decide +kernel
theorem dw_39 : decode prog_24_method_2_code 39 = .ok (.sipush 223, 3) := by decide +kernel
theorem dw_42 : decode prog_24_method_2_code 42 = .ok (.if_icmp .gt 9, 3) := by decide +kernel
theorem dw_45 : decode prog_24_method_2_code 45 = .ok (.iconst 2, 1) := by decide +kernel
theorem dw_46 : decode prog_24_method_2_code 46 = .ok (.istore 5, 2) := by decide +kernel
theorem dw_48 : decode prog_24_method_2_code 48 = .ok (.goto 129, 3) := by decide +kernel
theorem dw_51 : decode prog_24_method_2_code 51 = .ok (.iload 4, 2) := by decide +kernel
theorem dw_53 : decode prog_24_method_2_code 53 = .ok (.sipush 224, 3) := by decide +kernel
theorem dw_56 : decode prog_24_method_2_code 56 = .ok (.if_icmp .lt 53, 3) := by decide +kernel
theorem dw_59 : decode prog_24_method_2_code 59 = .ok (.iload 4, 2) := by decide +kernel
theorem dw_61 : decode prog_24_method_2_code 61 = .ok (.sipush 239, 3) := by decide +kernel
theorem dw_64 : decode prog_24_method_2_code 64 = .ok (.if_icmp .gt 45, 3) := by decide +kernel
theorem dw_67 : decode prog_24_method_2_code 67 = .ok (.iconst 3, 1) := by decide +kernel
theorem dw_68 : decode prog_24_method_2_code 68 = .ok (.istore 5, 2) := by decide +kernel
theorem dw_70 : decode prog_24_method_2_code 70 = .ok (.iload 4, 2) := by decide +kernel
theorem dw_72 : decode prog_24_method_2_code 72 = .ok (.sipush 224, 3) := by decide +kernel
theorem dw_75 : decode prog_24_method_2_code 75 = .ok (.if_icmp .ne 9, 3) := by decide +kernel
theorem dw_78 : decode prog_24_method_2_code 78 = .ok (.sipush 160, 3) := by decide +kernel
theorem dw_81 : decode prog_24_method_2_code 81 = .ok (.goto 5, 3) := by decide +kernel
theorem dw_84 : decode prog_24_method_2_code 84 = .ok (.iload 6, 2) := by decide +kernel
theorem dw_86 : decode prog_24_method_2_code 86 = .ok (.istore 6, 2) := by decide +kernel
theorem dw_88 : decode prog_24_method_2_code 88 = .ok (.iload 4, 2) := by decide +kernel
theorem dw_90 : decode prog_24_method_2_code 90 = .ok (.sipush 237, 3) := by decide +kernel
theorem dw_93 : decode prog_24_method_2_code 93 = .ok (.if_icmp .ne 9, 3) := by decide +kernel
theorem dw_96 : decode prog_24_method_2_code 96 = .ok (.sipush 159, 3) := by decide +kernel
theorem dw_99 : decode prog_24_method_2_code 99 = .ok (.goto 5, 3) := by decide +kernel
theorem dw_102 : decode prog_24_method_2_code 102 = .ok (.iload 7, 2) := by decide +kernel
theorem dw_104 : decode prog_24_method_2_code 104 = .ok (.istore 7, 2) := by decide +kernel
theorem dw_106 : decode prog_24_method_2_code 106 = .ok (.goto 71, 3) := by decide +kernel
theorem dw_109 : decode prog_24_method_2_code 109 = .ok (.iload 4, 2) := by decide +kernel
theorem dw_111 : decode prog_24_method_2_code 111 = .ok (.sipush 240, 3) := by decide +kernel
theorem dw_114 : decode prog_24_method_2_code 114 = .ok (.if_icmp .lt 53, 3) := by decide +kernel
theorem dw_117 : decode prog_24_method_2_code 117 = .ok (.iload 4, 2) := by decide +kernel
theorem dw_119 : decode prog_24_method_2_code 119 = .ok (.sipush 244, 3) := by decide +kernel
theorem dw_122 : decode prog_24_method_2_code 122 = .ok (.if_icmp .gt 45, 3) := by decide +kernel
theorem dw_125 : decode prog_24_method_2_code 125 = .ok (.iconst 4, 1) := by decide +kernel
theorem dw_126 : decode prog_24_method_2_code 126 = .ok (.istore 5, 2) := by decide +kernel
theorem dw_128 : decode prog_24_method_2_code 128 = .ok (.iload 4, 2) := by decide +kernel
theorem dw_130 : decode prog_24_method_2_code 130 = .ok (.sipush 240, 3) := by decide +kernel
theorem dw_133 : decode prog_24_method_2_code 133 = .ok (.if_icmp .ne 9, 3) := by decide +kernel
theorem dw_136 : decode prog_24_method_2_code 136 = .ok (.sipush 144, 3) := by decide +kernel
theorem dw_139 : decode prog_24_method_2_code 139 = .ok (.goto 5, 3) := by decide +kernel
theorem dw_142 : decode prog_24_method_2_code 142 = .ok (.iload 6, 2) := by decide +kernel
theorem dw_144 : decode prog_24_method_2_code 144 = .ok (.istore 6, 2) := by decide +kernel
theorem dw_146 : decode prog_24_method_2_code 146 = .ok (.iload 4, 2) := by decide +kernel
theorem dw_148 : decode prog_24_method_2_code 148 = .ok (.sipush 244, 3) := by decide +kernel
theorem dw_151 : decode prog_24_method_2_code 151 = .ok (.if_icmp .ne 9, 3) := by decide +kernel
theorem dw_154 : decode prog_24_method_2_code 154 = .ok (.sipush 143, 3) := by decide +kernel
theorem dw_157 : decode prog_24_method_2_code 157 = .ok (.goto 5, 3) := by decide +kernel
theorem dw_160 : decode prog_24_method_2_code 160 = .ok (.iload 7, 2) := by decide +kernel
theorem dw_162 : decode prog_24_method_2_code 162 = .ok (.istore 7, 2) := by decide +kernel
theorem dw_164 : decode prog_24_method_2_code 164 = .ok (.goto 13, 3) := by decide +kernel
theorem dw_167 : decode prog_24_method_2_code 167 = .ok (.iload 4, 2) := by decide +kernel
theorem dw_169 : decode prog_24_method_2_code 169 = .ok (.sipush 128, 3) := by decide +kernel
theorem dw_172 : decode prog_24_method_2_code 172 = .ok (.if_icmp .lt 5, 3) := by decide +kernel
theorem dw_175 : decode prog_24_method_2_code 175 = .ok (.iconst 0, 1) := by decide +kernel
theorem dw_176 : decode prog_24_method_2_code 176 = .ok (.ireturn, 1) := by decide +kernel
theorem dw_177 : decode prog_24_method_2_code 177 = .ok (.iload_n 3, 1) := by decide +kernel
theorem dw_178 : decode prog_24_method_2_code 178 = .ok (.iload 5, 2) := by decide +kernel
theorem dw_180 : decode prog_24_method_2_code 180 = .ok (.iadd, 1) := by decide +kernel
theorem dw_181 : decode prog_24_method_2_code 181 = .ok (.iload_n 2, 1) := by decide +kernel
theorem dw_182 : decode prog_24_method_2_code 182 = .ok (.if_icmp .gt 17, 3) := by decide +kernel
theorem dw_185 : decode prog_24_method_2_code 185 = .ok (.aload_n 0, 1) := by decide +kernel
theorem dw_186 : decode prog_24_method_2_code 186 = .ok (.iload_n 3, 1) := by decide +kernel
theorem dw_187 : decode prog_24_method_2_code 187 = .ok (.iload 5, 2) := by decide +kernel
theorem dw_189 : decode prog_24_method_2_code 189 = .ok (.iload 6, 2) := by decide +kernel
theorem dw_191 : decode prog_24_method_2_code 191 = .ok (.iload 7, 2) := by decide +kernel
theorem dw_193 : decode prog_24_method_2_code 193 = .ok (.invokestatic 7, 3) := by decide +kernel
theorem dw_196 : decode prog_24_method_2_code 196 = .ok (.ifCond .ne 5, 3) := by decide +kernel
theorem dw_199 : decode prog_24_method_2_code 199 = .ok (.iconst 0, 1) := by decide +kernel
theorem dw_200 : decode prog_24_method_2_code 200 = .ok (.ireturn, 1) := by decide +kernel
theorem dw_201 : decode prog_24_method_2_code 201 = .ok (.iload_n 3, 1) := by decide +kernel
theorem dw_202 : decode prog_24_method_2_code 202 = .ok (.iload 5, 2) := by decide +kernel
theorem dw_204 : decode prog_24_method_2_code 204 = .ok (.iadd, 1) := by decide +kernel
theorem dw_205 : decode prog_24_method_2_code 205 = .ok (.istore_n 3, 1) := by decide +kernel
theorem dw_206 : decode prog_24_method_2_code 206 = .ok (.goto (-204), 3) := by decide +kernel
theorem dw_209 : decode prog_24_method_2_code 209 = .ok (.iconst 1, 1) := by decide +kernel
theorem dw_210 : decode prog_24_method_2_code 210 = .ok (.ireturn, 1) := by decide +kernel
theorem ef_w (m : MethodId) (x0 : Addr) (x1 : Int32) (x2 : Int32) : entryFrame m #[(.ref x0), (.int x1), (.int x2)] 8 = mkF m 0 #[.val (.ref x0), .val (.int x1), .val (.int x2), .unset, .unset, .unset, .unset, .unset] [] := by first | (simp [entryFrame, mkF, argsToLocals, Value.category, maxLocals]; done) | rfl
def Qw (Z : State) (a1 : Addr) (u : Int32) (w : Int32) (kc : ClassId) (B : Int → Int32) (h0 : Heap) (n0 : Nat) (v : Option Value) (h : Heap) (L : List Loc) : Prop := ∃ r : Int32, v = some (.int r) ∧ ((0 ≤ r.toInt ∧ r.toInt ≤ 1) ∧ r.toInt = own_W B w.toInt 6 u.toInt) ∧ Fr n0 L ∧ h = h0
set_option maxRecDepth 65536 in
set_option maxHeartbeats 40000000 in
theorem rmw (l : Launch) (Z : State) (a0 : Array Value) (hw : ∀ d ∈ tables_1, d.before a0 Z = true) (ws : List Jvm.Cond) (a1 : Addr) (u : Int32) (w : Int32) (kc : ClassId) (B : Int → Int32) (h0 : Heap) (n0 : Nat) (Z0 : n0 ≤ h0.size) (A_a1 : Arv Z h0 a1 kc .byte (6 : Int32) [(.int (B 0)), (.int (B 1)), (.int (B 2)), (.int (B 3)), (.int (B 4)), (.int (B 5))] (.int (0 : Int32))) (hB : ∀ i, -128 ≤ (B i).toInt ∧ (B i).toInt < 128) (hk : 0 ≤ u.toInt ∧ u.toInt ≤ w.toInt ∧ w.toInt ≤ 6) :
    MetFree l (⟨"com/example/bookplate/bookplate/marc/Utf8", "isWellFormed", "([BII)Z"⟩ : MethodName) (head1 (Jvm.Cond.code (⟨"com/example/bookplate/bookplate/marc/Utf8", "isWellFormed", "([BII)Z"⟩ : MethodName) prog_24_method_2_code 8 (some .boolean) :: ws) ({ frames := 1, cells := 0, slots := 0, locals := 24 } : Room)) (fun a U => a = #[(.ref a1), (.int u), (.int w)] ∧ Z.Warmed39 U.vm ∧ U.heap = h0) (fun _ _ _ _ _ => True) (fun _ U o U' => ∃ v L, o = .returned v ∧ Qw Z a1 u w kc B h0 n0 v U'.heap L ∧ FrameEnd U o U' L ({ frames := 1, cells := 0, slots := 0, locals := 24 } : Room).cells ({ frames := 1, cells := 0, slots := 0, locals := 24 } : Room).slots) := by
  refine MetFree.of_bodySF (plainFor_of_name pn_1) hisR ?_
  intro p e s m args below meth c s₁ Bd hml0 hP hK
  obtain ⟨rfl, hZ, hh⟩ := hP
  have hx := Bd.exec
  have hby := Bd.bytes
  have hml : c.maxLocals = 8 := hml0
  have hown : s.vm.findClass "com/example/bookplate/bookplate/marc/Utf8" = some m.cls := findClass_of_methodNamed Bd.named
  have hnm := (name_of_methodNamed Bd.named Bd.method).1
  have X0 : Stand p l e ({ frames := 1, cells := 0, slots := 0, locals := 24 } : Room) s m #[(.ref a1), (.int u), (.int w)] below meth c s₁ [] 0 0 := Stand.of_body Bd
  have e0 : s₁.heap = h0 := by rw [← hh, Bd.state]; rfl
  have N0 := Fr.nil n0
  change own_Go p e below (Qw Z a1 u w kc B h0 n0) (own_Fr s ({ frames := 1, cells := 0, slots := 0, locals := 24 } : Room).cells ({ frames := 1, cells := 0, slots := 0, locals := 24 } : Room).slots) (s₁.setTop (entryFrame m #[(.ref a1), (.int u), (.int w)] 8))
  rw [ef_w m a1 u w]
  have ru := rng32 u
  have rw := rng32 w
  have loop : ∀ (n : Nat) (T_ : State) (L_ : List Loc), Stand p l e ({ frames := 1, cells := 0, slots := 0, locals := 24 } : Room) s m #[(.ref a1), (.int u), (.int w)] below meth c T_ L_ 0 0 → Fr n0 L_ → T_.heap = h0 → ∀ (ta : Int32) (s4 s5 s6 s7 : Slot), One s4 → One s5 → One s6 → One s7 → (0 ≤ ta.toInt ∧ ta.toInt ≤ w.toInt ∧ w.toInt - ta.toInt ≤ n) → own_W B w.toInt 6 u.toInt = own_W B w.toInt n ta.toInt → own_Go p e below (Qw Z a1 u w kc B h0 n0) (own_Fr s ({ frames := 1, cells := 0, slots := 0, locals := 24 } : Room).cells ({ frames := 1, cells := 0, slots := 0, locals := 24 } : Room).slots) (T_.setTop (mkF m 2 #[.val (.ref a1), .val (.int u), .val (.int w), .val (.int ta), s4, s5, s6, s7] [])) := by
    intro n
    induction n with
    | zero =>
      intro T_ L_ X_ N_ e_ ta s4 s5 s6 s7 o4 o5 o6 o7 ht hW
      refine own_iloadN (pc' := 3) X_ hx rfl (hb hby dw_2) rfl ?_
      refine own_iloadN (pc' := 4) X_ hx rfl (hb hby dw_3) rfl ?_
      have b1 : ¬ ta.toInt < w.toInt := by omega
      refine own_icmpYes (pc' := 209) X_ hx (hb hby dw_4) (own_yes_ge rfl rfl b1) (by decide) (by decide) ?_
      refine own_iconst (pc' := 210) X_ hx (1 : Int32) (by decide) (hb hby dw_209) rfl ?_
      refine own_ret X_ hx Bd.returns Bd.notSynchronized (Or.inl ⟨rfl, by simp, _, rfl⟩) (hb hby dw_210) rfl (by decide) (by decide) ?_
      show Qw Z a1 u w kc B h0 n0 _ T_.heap _
      rw [e_]
      have kc0 : ((1 : Int32)).toInt = 1 := by decide
      exact ⟨(1 : Int32), rfl, ⟨by omega, by rw [hW, own_W_end _ (by omega)]; rfl⟩, N_, rfl⟩
    | succ n ih =>
      intro T_ L_ X_ N_ e_ ta s4 s5 s6 s7 o4 o5 o6 o7 ht hW
      have rta := rng32 ta
      refine own_iloadN (pc' := 3) X_ hx rfl (hb hby dw_2) rfl ?_
      refine own_iloadN (pc' := 4) X_ hx rfl (hb hby dw_3) rfl ?_
      by_cases b2 : ta.toInt < w.toInt
      · refine own_icmpNo (pc' := 7) X_ hx (own_no_ge rfl rfl b2) (hb hby dw_4) rfl ?_
        refine own_aloadN (pc' := 8) X_ hx rfl rfl (hb hby dw_7) rfl ?_
        refine own_iloadN (pc' := 9) X_ hx rfl (hb hby dw_8) rfl ?_
        obtain ⟨c3, B3, q3, s3, u3, H3, G3⟩ := id A_a1
        obtain ⟨v3, hv3⟩ : ∃ z, B (ta.toInt) = z := ⟨_, rfl⟩
        have rv3 := hB (ta.toInt)
        rw [hv3] at rv3
        have ci3 : ta.toInt = ta.toInt := by omega
        have i3 := inb_of s3 (j := ta) (own_inb (n := 6) ci3 (by decide) (by omega))
        refine own_by (X_.baloadBytes hx (j := ta) (v := (.int v3)) (by rw [e_]; exact B3.1) (State.isArrayOf_alike hZ.alike B3.2.1) B3.2.2 i3 (H3.at i3 (by rw [own_at6 ci3 (by omega), hv3])) (g := (mkF m 9 #[.val (.ref a1), .val (.int u), .val (.int w), .val (.int ta), s4, s5, s6, s7] [(.int ta), (.ref a1)])) rfl rfl (hb hby dw_9)) ?_
        show own_Go p e below (Qw Z a1 u w kc B h0 n0) (own_Fr s ({ frames := 1, cells := 0, slots := 0, locals := 24 } : Room).cells ({ frames := 1, cells := 0, slots := 0, locals := 24 } : Room).slots) (T_.setTop (mkF m 10 #[.val (.ref a1), .val (.int u), .val (.int w), .val (.int ta), s4, s5, s6, s7] [(.int v3)]))
        refine own_sipush (pc' := 13) X_ hx (255 : Int32) (by decide) (hb hby dw_10) rfl ?_
        obtain ⟨v4, hv4⟩ : ∃ z, v3 &&& (255 : Int32) = z := ⟨_, rfl⟩
        have f5 : v4.toInt = v3.toInt % 256 := by rw [← hv4]; exact c_mask v3 (255 : Int32) 8 (by decide) (by decide)
        refine own_iand (pc' := 14) X_ hx (z := v4) hv4 (hb hby dw_13) rfl ?_
        refine own_istore (pc' := 16) X_ hx #[.val (.ref a1), .val (.int u), .val (.int w), .val (.int ta), .val (.int v4), s5, s6, s7] (XS.store1 rfl o4 rfl) (hb hby dw_14) rfl ?_
        refine own_iconst (pc' := 17) X_ hx (1 : Int32) (by decide) (hb hby dw_16) rfl ?_
        refine own_istore (pc' := 19) X_ hx #[.val (.ref a1), .val (.int u), .val (.int w), .val (.int ta), .val (.int v4), .val (.int (1 : Int32)), s6, s7] (XS.store1 rfl o5 rfl) (hb hby dw_17) rfl ?_
        refine own_sipush (pc' := 22) X_ hx (128 : Int32) (by decide) (hb hby dw_19) rfl ?_
        refine own_istore (pc' := 24) X_ hx #[.val (.ref a1), .val (.int u), .val (.int w), .val (.int ta), .val (.int v4), .val (.int (1 : Int32)), .val (.int (128 : Int32)), s7] (XS.store1 rfl o6 rfl) (hb hby dw_22) rfl ?_
        refine own_sipush (pc' := 27) X_ hx (191 : Int32) (by decide) (hb hby dw_24) rfl ?_
        refine own_istore (pc' := 29) X_ hx #[.val (.ref a1), .val (.int u), .val (.int w), .val (.int ta), .val (.int v4), .val (.int (1 : Int32)), .val (.int (128 : Int32)), .val (.int (191 : Int32))] (XS.store1 rfl o7 rfl) (hb hby dw_27) rfl ?_
        refine own_iload (pc' := 31) X_ hx rfl (hb hby dw_29) rfl ?_
        refine own_sipush (pc' := 34) X_ hx (194 : Int32) (by decide) (hb hby dw_31) rfl ?_
        by_cases b6 : v4.toInt < 194
        · refine own_icmpYes (pc' := 51) X_ hx (hb hby dw_34) (own_yes_lt rfl (by decide) b6) (by decide) (by decide) ?_
          refine own_iload (pc' := 53) X_ hx rfl (hb hby dw_51) rfl ?_
          refine own_sipush (pc' := 56) X_ hx (224 : Int32) (by decide) (hb hby dw_53) rfl ?_
          have b7 : v4.toInt < 224 := by omega
          refine own_icmpYes (pc' := 109) X_ hx (hb hby dw_56) (own_yes_lt rfl (by decide) b7) (by decide) (by decide) ?_
          refine own_iload (pc' := 111) X_ hx rfl (hb hby dw_109) rfl ?_
          refine own_sipush (pc' := 114) X_ hx (240 : Int32) (by decide) (hb hby dw_111) rfl ?_
          have b8 : v4.toInt < 240 := by omega
          refine own_icmpYes (pc' := 167) X_ hx (hb hby dw_114) (own_yes_lt rfl (by decide) b8) (by decide) (by decide) ?_
          refine own_iload (pc' := 169) X_ hx rfl (hb hby dw_167) rfl ?_
          refine own_sipush (pc' := 172) X_ hx (128 : Int32) (by decide) (hb hby dw_169) rfl ?_
          by_cases b9 : v4.toInt < 128
          · refine own_icmpYes (pc' := 177) X_ hx (hb hby dw_172) (own_yes_lt rfl (by decide) b9) (by decide) (by decide) ?_
            refine own_iloadN (pc' := 178) X_ hx rfl (hb hby dw_177) rfl ?_
            refine own_iload (pc' := 180) X_ hx rfl (hb hby dw_178) rfl ?_
            obtain ⟨v10, hv10⟩ : ∃ z, ta + (1 : Int32) = z := ⟨_, rfl⟩
            have f11 : (v10.toInt - (ta.toInt + 1)) % 4294967296 = 0 := by rw [← hv10]; exact c_iadd ta (1 : Int32)
            have rv10 := rng32 v10
            replace f11 : v10.toInt = ta.toInt + 1 := by omega
            refine own_iadd (pc' := 181) X_ hx (z := v10) hv10 (hb hby dw_180) rfl ?_
            refine own_iloadN (pc' := 182) X_ hx rfl (hb hby dw_181) rfl ?_
            have b12 : ¬ w.toInt < v10.toInt := by omega
            refine own_icmpNo (pc' := 185) X_ hx (own_no_gt rfl rfl b12) (hb hby dw_182) rfl ?_
            refine own_aloadN (pc' := 186) X_ hx rfl rfl (hb hby dw_185) rfl ?_
            refine own_iloadN (pc' := 187) X_ hx rfl (hb hby dw_186) rfl ?_
            refine own_iload (pc' := 189) X_ hx rfl (hb hby dw_187) rfl ?_
            refine own_iload (pc' := 191) X_ hx rfl (hb hby dw_189) rfl ?_
            refine own_iload (pc' := 193) X_ hx rfl (hb hby dw_191) rfl ?_
            have kq14 : (128 : Int32).toInt = 128 := by decide
            have kq15 : (191 : Int32).toInt = 191 := by decide
            obtain ⟨_, _, ⟨T13, L13, k13, n13⟩, -, X13, ⟨Lc13, hQ13, l13, y13, z13⟩, st13⟩ := Jvm.LawKit.callS X_ hx (y := (⟨"com/example/bookplate/bookplate/marc/Utf8", "continues", "([BIIII)Z"⟩ : MethodName)) hown (mvT hZ (hw _ (List.mem_of_getElem? (i := 24) rfl))) (mvT hZ (hw _ (List.mem_of_getElem? (i := 25) rfl))) (mvT hZ (hw _ (List.mem_of_getElem? (i := 22) rfl))) (mvT hZ (hw _ (List.mem_of_getElem? (i := 26) rfl))) (by decide) (backOf (W := 0) (rmc1 l Z a0 hw [] a1 ta (128 : Int32) (191 : Int32) kc B h0 n0 Z0 A_a1 hB (by omega)) hZ (hw _ (List.mem_of_getElem? (i := 26) rfl)) (hw _ (List.mem_of_getElem? (i := 22) rfl)) (by decide) (by decide)) (g := (mkF m 193 #[.val (.ref a1), .val (.int u), .val (.int w), .val (.int ta), .val (.int v4), .val (.int (1 : Int32)), .val (.int (128 : Int32)), .val (.int (191 : Int32))] [(.int (191 : Int32)), (.int (128 : Int32)), (.int (1 : Int32)), (.int ta), (.ref a1)])) rfl (by rw [hml]; rfl) (argsL := [(.ref a1), (.int ta), (.int (1 : Int32)), (.int (128 : Int32)), (.int (191 : Int32))]) (rest := []) (lenOf pd_4 rfl) rfl (by show 2 * 0 + _ ≤ _; exact Nat.le_of_eq rfl) (hb hby dw_193) (fun _ _ => ⟨rfl, e_, (by decide : 0 + 0 ≤ _), (by decide : 0 + 0 ≤ _)⟩)
            dsimp only [Pt.U, Pt.locs, Pt.cells, Pt.slots] at X13 l13 y13 z13 st13 hQ13
            subst y13 z13
            obtain ⟨rfl, pp13, N13, e13⟩ := hQ13
            have N13a : Fr n0 L13 := by rw [l13]; exact Fr.app N_ N13
            refine own_by st13 ?_
            show own_Go p e below (Qw Z a1 u w kc B h0 n0) (own_Fr s ({ frames := 1, cells := 0, slots := 0, locals := 24 } : Room).cells ({ frames := 1, cells := 0, slots := 0, locals := 24 } : Room).slots) (T13.setTop (mkF m 196 #[.val (.ref a1), .val (.int u), .val (.int w), .val (.int ta), .val (.int v4), .val (.int (1 : Int32)), .val (.int (128 : Int32)), .val (.int (191 : Int32))] [(.int (1 : Int32))]))
            refine own_ifYes (pc' := 201) X13 hx (hb hby dw_196) (by decide) (by decide) (by decide) ?_
            refine own_iloadN (pc' := 202) X13 hx rfl (hb hby dw_201) rfl ?_
            refine own_iload (pc' := 204) X13 hx rfl (hb hby dw_202) rfl ?_
            obtain ⟨v16, hv16⟩ : ∃ z, ta + (1 : Int32) = z := ⟨_, rfl⟩
            have f17 : (v16.toInt - (ta.toInt + 1)) % 4294967296 = 0 := by rw [← hv16]; exact c_iadd ta (1 : Int32)
            have rv16 := rng32 v16
            replace f17 : v16.toInt = ta.toInt + 1 := by omega
            refine own_iadd (pc' := 205) X13 hx (z := v16) hv16 (hb hby dw_204) rfl ?_
            refine own_istoreN (pc' := 206) X13 hx #[.val (.ref a1), .val (.int u), .val (.int w), .val (.int v16), .val (.int v4), .val (.int (1 : Int32)), .val (.int (128 : Int32)), .val (.int (191 : Int32))] rfl (hb hby dw_205) rfl ?_
            refine own_goto (pc' := 2) X13 hx (hb hby dw_206) (by decide) (by decide) ?_
            subst hv3
            have hL : own_Lk B w.toInt ta.toInt = 1 := own_L_1 (by unfold own_U; omega)
            exact ih T13 _ X13 N13a e13 v16 (.val (.int v4)) (.val (.int (1 : Int32))) (.val (.int (128 : Int32))) (.val (.int (191 : Int32))) (One.val rfl) (One.val rfl) (One.val rfl) (One.val rfl) ⟨by omega, by omega, by omega⟩ (by rw [hW, own_W_on n (by omega) (by rw [hL]; decide), hL, show ta.toInt + 1 = v16.toInt from by omega])
          · refine own_icmpNo (pc' := 175) X_ hx (own_no_lt rfl (by decide) b9) (hb hby dw_172) rfl ?_
            refine own_iconst (pc' := 176) X_ hx (0 : Int32) (by decide) (hb hby dw_175) rfl ?_
            refine own_ret X_ hx Bd.returns Bd.notSynchronized (Or.inl ⟨rfl, by simp, _, rfl⟩) (hb hby dw_176) rfl (by decide) (by decide) ?_
            show Qw Z a1 u w kc B h0 n0 _ T_.heap _
            rw [e_]
            have kc0 : ((0 : Int32)).toInt = 0 := by decide
            subst hv3
            have hL : own_Lk B w.toInt ta.toInt = 0 := own_L_0 (by unfold own_U; omega) (by unfold own_D2 own_U; omega) (by unfold own_D3 own_U; omega) (by unfold own_D4 own_U; omega)
            exact ⟨(0 : Int32), rfl, ⟨by omega, by rw [hW, own_W_no n (by omega) hL]; rfl⟩, N_, rfl⟩
        · refine own_icmpNo (pc' := 37) X_ hx (own_no_lt rfl (by decide) b6) (hb hby dw_34) rfl ?_
          refine own_iload (pc' := 39) X_ hx rfl (hb hby dw_37) rfl ?_
          refine own_sipush (pc' := 42) X_ hx (223 : Int32) (by decide) (hb hby dw_39) rfl ?_
          by_cases b18 : 223 < v4.toInt
          · refine own_icmpYes (pc' := 51) X_ hx (hb hby dw_42) (own_yes_gt rfl (by decide) b18) (by decide) (by decide) ?_
            refine own_iload (pc' := 53) X_ hx rfl (hb hby dw_51) rfl ?_
            refine own_sipush (pc' := 56) X_ hx (224 : Int32) (by decide) (hb hby dw_53) rfl ?_
            have b19 : ¬ v4.toInt < 224 := by omega
            refine own_icmpNo (pc' := 59) X_ hx (own_no_lt rfl (by decide) b19) (hb hby dw_56) rfl ?_
            refine own_iload (pc' := 61) X_ hx rfl (hb hby dw_59) rfl ?_
            refine own_sipush (pc' := 64) X_ hx (239 : Int32) (by decide) (hb hby dw_61) rfl ?_
            by_cases b20 : 239 < v4.toInt
            · refine own_icmpYes (pc' := 109) X_ hx (hb hby dw_64) (own_yes_gt rfl (by decide) b20) (by decide) (by decide) ?_
              refine own_iload (pc' := 111) X_ hx rfl (hb hby dw_109) rfl ?_
              refine own_sipush (pc' := 114) X_ hx (240 : Int32) (by decide) (hb hby dw_111) rfl ?_
              have b21 : ¬ v4.toInt < 240 := by omega
              refine own_icmpNo (pc' := 117) X_ hx (own_no_lt rfl (by decide) b21) (hb hby dw_114) rfl ?_
              refine own_iload (pc' := 119) X_ hx rfl (hb hby dw_117) rfl ?_
              refine own_sipush (pc' := 122) X_ hx (244 : Int32) (by decide) (hb hby dw_119) rfl ?_
              by_cases b22 : 244 < v4.toInt
              · refine own_icmpYes (pc' := 167) X_ hx (hb hby dw_122) (own_yes_gt rfl (by decide) b22) (by decide) (by decide) ?_
                refine own_iload (pc' := 169) X_ hx rfl (hb hby dw_167) rfl ?_
                refine own_sipush (pc' := 172) X_ hx (128 : Int32) (by decide) (hb hby dw_169) rfl ?_
                have b23 : ¬ v4.toInt < 128 := by omega
                refine own_icmpNo (pc' := 175) X_ hx (own_no_lt rfl (by decide) b23) (hb hby dw_172) rfl ?_
                refine own_iconst (pc' := 176) X_ hx (0 : Int32) (by decide) (hb hby dw_175) rfl ?_
                refine own_ret X_ hx Bd.returns Bd.notSynchronized (Or.inl ⟨rfl, by simp, _, rfl⟩) (hb hby dw_176) rfl (by decide) (by decide) ?_
                show Qw Z a1 u w kc B h0 n0 _ T_.heap _
                rw [e_]
                have kc0 : ((0 : Int32)).toInt = 0 := by decide
                subst hv3
                have hL : own_Lk B w.toInt ta.toInt = 0 := own_L_0 (by unfold own_U; omega) (by unfold own_D2 own_U; omega) (by unfold own_D3 own_U; omega) (by unfold own_D4 own_U; omega)
                exact ⟨(0 : Int32), rfl, ⟨by omega, by rw [hW, own_W_no n (by omega) hL]; rfl⟩, N_, rfl⟩
              · refine own_icmpNo (pc' := 125) X_ hx (own_no_gt rfl (by decide) b22) (hb hby dw_122) rfl ?_
                refine own_iconst (pc' := 126) X_ hx (4 : Int32) (by decide) (hb hby dw_125) rfl ?_
                refine own_istore (pc' := 128) X_ hx #[.val (.ref a1), .val (.int u), .val (.int w), .val (.int ta), .val (.int v4), .val (.int (4 : Int32)), .val (.int (128 : Int32)), .val (.int (191 : Int32))] rfl (hb hby dw_126) rfl ?_
                refine own_iload (pc' := 130) X_ hx rfl (hb hby dw_128) rfl ?_
                refine own_sipush (pc' := 133) X_ hx (240 : Int32) (by decide) (hb hby dw_130) rfl ?_
                by_cases b24 : v4.toInt = 240
                · refine own_icmpNo (pc' := 136) X_ hx (own_no_ne rfl (by decide) b24) (hb hby dw_133) rfl ?_
                  refine own_sipush (pc' := 139) X_ hx (144 : Int32) (by decide) (hb hby dw_136) rfl ?_
                  refine own_goto (pc' := 144) X_ hx (hb hby dw_139) (by decide) (by decide) ?_
                  refine own_istore (pc' := 146) X_ hx #[.val (.ref a1), .val (.int u), .val (.int w), .val (.int ta), .val (.int v4), .val (.int (4 : Int32)), .val (.int (144 : Int32)), .val (.int (191 : Int32))] rfl (hb hby dw_144) rfl ?_
                  refine own_iload (pc' := 148) X_ hx rfl (hb hby dw_146) rfl ?_
                  refine own_sipush (pc' := 151) X_ hx (244 : Int32) (by decide) (hb hby dw_148) rfl ?_
                  have b25 : ¬ v4.toInt = 244 := by omega
                  refine own_icmpYes (pc' := 160) X_ hx (hb hby dw_151) (own_yes_ne rfl (by decide) b25) (by decide) (by decide) ?_
                  refine own_iload (pc' := 162) X_ hx rfl (hb hby dw_160) rfl ?_
                  refine own_istore (pc' := 164) X_ hx #[.val (.ref a1), .val (.int u), .val (.int w), .val (.int ta), .val (.int v4), .val (.int (4 : Int32)), .val (.int (144 : Int32)), .val (.int (191 : Int32))] rfl (hb hby dw_162) rfl ?_
                  refine own_goto (pc' := 177) X_ hx (hb hby dw_164) (by decide) (by decide) ?_
                  refine own_iloadN (pc' := 178) X_ hx rfl (hb hby dw_177) rfl ?_
                  refine own_iload (pc' := 180) X_ hx rfl (hb hby dw_178) rfl ?_
                  obtain ⟨v26, hv26⟩ : ∃ z, ta + (4 : Int32) = z := ⟨_, rfl⟩
                  have f27 : (v26.toInt - (ta.toInt + 4)) % 4294967296 = 0 := by rw [← hv26]; exact c_iadd ta (4 : Int32)
                  have rv26 := rng32 v26
                  replace f27 : v26.toInt = ta.toInt + 4 := by omega
                  refine own_iadd (pc' := 181) X_ hx (z := v26) hv26 (hb hby dw_180) rfl ?_
                  refine own_iloadN (pc' := 182) X_ hx rfl (hb hby dw_181) rfl ?_
                  by_cases b28 : w.toInt < v26.toInt
                  · refine own_icmpYes (pc' := 199) X_ hx (hb hby dw_182) (own_yes_gt rfl rfl b28) (by decide) (by decide) ?_
                    refine own_iconst (pc' := 200) X_ hx (0 : Int32) (by decide) (hb hby dw_199) rfl ?_
                    refine own_ret X_ hx Bd.returns Bd.notSynchronized (Or.inl ⟨rfl, by simp, _, rfl⟩) (hb hby dw_200) rfl (by decide) (by decide) ?_
                    show Qw Z a1 u w kc B h0 n0 _ T_.heap _
                    rw [e_]
                    have kc0 : ((0 : Int32)).toInt = 0 := by decide
                    subst hv3
                    have hL : own_Lk B w.toInt ta.toInt = 0 := own_L_0 (by unfold own_U; omega) (by unfold own_D2 own_U; omega) (by unfold own_D3 own_U; omega) (by unfold own_D4 own_U; omega)
                    exact ⟨(0 : Int32), rfl, ⟨by omega, by rw [hW, own_W_no n (by omega) hL]; rfl⟩, N_, rfl⟩
                  · refine own_icmpNo (pc' := 185) X_ hx (own_no_gt rfl rfl b28) (hb hby dw_182) rfl ?_
                    refine own_aloadN (pc' := 186) X_ hx rfl rfl (hb hby dw_185) rfl ?_
                    refine own_iloadN (pc' := 187) X_ hx rfl (hb hby dw_186) rfl ?_
                    refine own_iload (pc' := 189) X_ hx rfl (hb hby dw_187) rfl ?_
                    refine own_iload (pc' := 191) X_ hx rfl (hb hby dw_189) rfl ?_
                    refine own_iload (pc' := 193) X_ hx rfl (hb hby dw_191) rfl ?_
                    have kq30 : (144 : Int32).toInt = 144 := by decide
                    have kq31 : (191 : Int32).toInt = 191 := by decide
                    obtain ⟨_, _, ⟨T29, L29, k29, n29⟩, -, X29, ⟨Lc29, hQ29, l29, y29, z29⟩, st29⟩ := Jvm.LawKit.callS X_ hx (y := (⟨"com/example/bookplate/bookplate/marc/Utf8", "continues", "([BIIII)Z"⟩ : MethodName)) hown (mvT hZ (hw _ (List.mem_of_getElem? (i := 24) rfl))) (mvT hZ (hw _ (List.mem_of_getElem? (i := 25) rfl))) (mvT hZ (hw _ (List.mem_of_getElem? (i := 22) rfl))) (mvT hZ (hw _ (List.mem_of_getElem? (i := 26) rfl))) (by decide) (backOf (W := 0) (rmc4 l Z a0 hw [] a1 ta (144 : Int32) (191 : Int32) kc B h0 n0 Z0 A_a1 hB (by omega)) hZ (hw _ (List.mem_of_getElem? (i := 26) rfl)) (hw _ (List.mem_of_getElem? (i := 22) rfl)) (by decide) (by decide)) (g := (mkF m 193 #[.val (.ref a1), .val (.int u), .val (.int w), .val (.int ta), .val (.int v4), .val (.int (4 : Int32)), .val (.int (144 : Int32)), .val (.int (191 : Int32))] [(.int (191 : Int32)), (.int (144 : Int32)), (.int (4 : Int32)), (.int ta), (.ref a1)])) rfl (by rw [hml]; rfl) (argsL := [(.ref a1), (.int ta), (.int (4 : Int32)), (.int (144 : Int32)), (.int (191 : Int32))]) (rest := []) (lenOf pd_4 rfl) rfl (by show 2 * 0 + _ ≤ _; exact Nat.le_of_eq rfl) (hb hby dw_193) (fun _ _ => ⟨rfl, e_, (by decide : 0 + 0 ≤ _), (by decide : 0 + 0 ≤ _)⟩)
                    dsimp only [Pt.U, Pt.locs, Pt.cells, Pt.slots] at X29 l29 y29 z29 st29 hQ29
                    subst y29 z29
                    obtain ⟨r_29, rfl, pp29, N29, e29⟩ := hQ29
                    have rr_29 := rng32 r_29
                    have N29a : Fr n0 L29 := by rw [l29]; exact Fr.app N_ N29
                    refine own_by st29 ?_
                    show own_Go p e below (Qw Z a1 u w kc B h0 n0) (own_Fr s ({ frames := 1, cells := 0, slots := 0, locals := 24 } : Room).cells ({ frames := 1, cells := 0, slots := 0, locals := 24 } : Room).slots) (T29.setTop (mkF m 196 #[.val (.ref a1), .val (.int u), .val (.int w), .val (.int ta), .val (.int v4), .val (.int (4 : Int32)), .val (.int (144 : Int32)), .val (.int (191 : Int32))] [(.int r_29)]))
                    rcases pp29 with ⟨hr29, pp29⟩ | ⟨hr29, pp29⟩
                    · obtain rfl : r_29 = (1 : Int32) := Int32.toInt_inj.mp hr29
                      refine own_ifYes (pc' := 201) X29 hx (hb hby dw_196) (by decide) (by decide) (by decide) ?_
                      refine own_iloadN (pc' := 202) X29 hx rfl (hb hby dw_201) rfl ?_
                      refine own_iload (pc' := 204) X29 hx rfl (hb hby dw_202) rfl ?_
                      obtain ⟨v32, hv32⟩ : ∃ z, ta + (4 : Int32) = z := ⟨_, rfl⟩
                      have f33 : (v32.toInt - (ta.toInt + 4)) % 4294967296 = 0 := by rw [← hv32]; exact c_iadd ta (4 : Int32)
                      have rv32 := rng32 v32
                      replace f33 : v32.toInt = ta.toInt + 4 := by omega
                      refine own_iadd (pc' := 205) X29 hx (z := v32) hv32 (hb hby dw_204) rfl ?_
                      refine own_istoreN (pc' := 206) X29 hx #[.val (.ref a1), .val (.int u), .val (.int w), .val (.int v32), .val (.int v4), .val (.int (4 : Int32)), .val (.int (144 : Int32)), .val (.int (191 : Int32))] rfl (hb hby dw_205) rfl ?_
                      refine own_goto (pc' := 2) X29 hx (hb hby dw_206) (by decide) (by decide) ?_
                      subst hv3
                      have hL : own_Lk B w.toInt ta.toInt = 4 := own_L_4 (by unfold own_D4 own_U; omega)
                      exact ih T29 _ X29 N29a e29 v32 (.val (.int v4)) (.val (.int (4 : Int32))) (.val (.int (144 : Int32))) (.val (.int (191 : Int32))) (One.val rfl) (One.val rfl) (One.val rfl) (One.val rfl) ⟨by omega, by omega, by omega⟩ (by rw [hW, own_W_on n (by omega) (by rw [hL]; decide), hL, show ta.toInt + 4 = v32.toInt from by omega])
                    · obtain rfl : r_29 = (0 : Int32) := Int32.toInt_inj.mp hr29
                      refine own_ifNo (pc' := 199) X29 hx (by decide) (hb hby dw_196) rfl ?_
                      refine own_iconst (pc' := 200) X29 hx (0 : Int32) (by decide) (hb hby dw_199) rfl ?_
                      refine own_ret X29 hx Bd.returns Bd.notSynchronized (Or.inl ⟨rfl, by simp, _, rfl⟩) (hb hby dw_200) rfl (by decide) (by decide) ?_
                      show Qw Z a1 u w kc B h0 n0 _ T29.heap _
                      rw [e29]
                      have kc0 : ((0 : Int32)).toInt = 0 := by decide
                      subst hv3
                      have hL : own_Lk B w.toInt ta.toInt = 0 := own_L_0 (by unfold own_U; omega) (by unfold own_D2 own_U; omega) (by unfold own_D3 own_U; omega) (by unfold own_D4 own_U; omega)
                      exact ⟨(0 : Int32), rfl, ⟨by omega, by rw [hW, own_W_no n (by omega) hL]; rfl⟩, N29a, rfl⟩
                · refine own_icmpYes (pc' := 142) X_ hx (hb hby dw_133) (own_yes_ne rfl (by decide) b24) (by decide) (by decide) ?_
                  refine own_iload (pc' := 144) X_ hx rfl (hb hby dw_142) rfl ?_
                  refine own_istore (pc' := 146) X_ hx #[.val (.ref a1), .val (.int u), .val (.int w), .val (.int ta), .val (.int v4), .val (.int (4 : Int32)), .val (.int (128 : Int32)), .val (.int (191 : Int32))] rfl (hb hby dw_144) rfl ?_
                  refine own_iload (pc' := 148) X_ hx rfl (hb hby dw_146) rfl ?_
                  refine own_sipush (pc' := 151) X_ hx (244 : Int32) (by decide) (hb hby dw_148) rfl ?_
                  by_cases b34 : v4.toInt = 244
                  · refine own_icmpNo (pc' := 154) X_ hx (own_no_ne rfl (by decide) b34) (hb hby dw_151) rfl ?_
                    refine own_sipush (pc' := 157) X_ hx (143 : Int32) (by decide) (hb hby dw_154) rfl ?_
                    refine own_goto (pc' := 162) X_ hx (hb hby dw_157) (by decide) (by decide) ?_
                    refine own_istore (pc' := 164) X_ hx #[.val (.ref a1), .val (.int u), .val (.int w), .val (.int ta), .val (.int v4), .val (.int (4 : Int32)), .val (.int (128 : Int32)), .val (.int (143 : Int32))] rfl (hb hby dw_162) rfl ?_
                    refine own_goto (pc' := 177) X_ hx (hb hby dw_164) (by decide) (by decide) ?_
                    refine own_iloadN (pc' := 178) X_ hx rfl (hb hby dw_177) rfl ?_
                    refine own_iload (pc' := 180) X_ hx rfl (hb hby dw_178) rfl ?_
                    obtain ⟨v35, hv35⟩ : ∃ z, ta + (4 : Int32) = z := ⟨_, rfl⟩
                    have f36 : (v35.toInt - (ta.toInt + 4)) % 4294967296 = 0 := by rw [← hv35]; exact c_iadd ta (4 : Int32)
                    have rv35 := rng32 v35
                    replace f36 : v35.toInt = ta.toInt + 4 := by omega
                    refine own_iadd (pc' := 181) X_ hx (z := v35) hv35 (hb hby dw_180) rfl ?_
                    refine own_iloadN (pc' := 182) X_ hx rfl (hb hby dw_181) rfl ?_
                    by_cases b37 : w.toInt < v35.toInt
                    · refine own_icmpYes (pc' := 199) X_ hx (hb hby dw_182) (own_yes_gt rfl rfl b37) (by decide) (by decide) ?_
                      refine own_iconst (pc' := 200) X_ hx (0 : Int32) (by decide) (hb hby dw_199) rfl ?_
                      refine own_ret X_ hx Bd.returns Bd.notSynchronized (Or.inl ⟨rfl, by simp, _, rfl⟩) (hb hby dw_200) rfl (by decide) (by decide) ?_
                      show Qw Z a1 u w kc B h0 n0 _ T_.heap _
                      rw [e_]
                      have kc0 : ((0 : Int32)).toInt = 0 := by decide
                      subst hv3
                      have hL : own_Lk B w.toInt ta.toInt = 0 := own_L_0 (by unfold own_U; omega) (by unfold own_D2 own_U; omega) (by unfold own_D3 own_U; omega) (by unfold own_D4 own_U; omega)
                      exact ⟨(0 : Int32), rfl, ⟨by omega, by rw [hW, own_W_no n (by omega) hL]; rfl⟩, N_, rfl⟩
                    · refine own_icmpNo (pc' := 185) X_ hx (own_no_gt rfl rfl b37) (hb hby dw_182) rfl ?_
                      refine own_aloadN (pc' := 186) X_ hx rfl rfl (hb hby dw_185) rfl ?_
                      refine own_iloadN (pc' := 187) X_ hx rfl (hb hby dw_186) rfl ?_
                      refine own_iload (pc' := 189) X_ hx rfl (hb hby dw_187) rfl ?_
                      refine own_iload (pc' := 191) X_ hx rfl (hb hby dw_189) rfl ?_
                      refine own_iload (pc' := 193) X_ hx rfl (hb hby dw_191) rfl ?_
                      have kq39 : (128 : Int32).toInt = 128 := by decide
                      have kq40 : (143 : Int32).toInt = 143 := by decide
                      obtain ⟨_, _, ⟨T38, L38, k38, n38⟩, -, X38, ⟨Lc38, hQ38, l38, y38, z38⟩, st38⟩ := Jvm.LawKit.callS X_ hx (y := (⟨"com/example/bookplate/bookplate/marc/Utf8", "continues", "([BIIII)Z"⟩ : MethodName)) hown (mvT hZ (hw _ (List.mem_of_getElem? (i := 24) rfl))) (mvT hZ (hw _ (List.mem_of_getElem? (i := 25) rfl))) (mvT hZ (hw _ (List.mem_of_getElem? (i := 22) rfl))) (mvT hZ (hw _ (List.mem_of_getElem? (i := 26) rfl))) (by decide) (backOf (W := 0) (rmc4 l Z a0 hw [] a1 ta (128 : Int32) (143 : Int32) kc B h0 n0 Z0 A_a1 hB (by omega)) hZ (hw _ (List.mem_of_getElem? (i := 26) rfl)) (hw _ (List.mem_of_getElem? (i := 22) rfl)) (by decide) (by decide)) (g := (mkF m 193 #[.val (.ref a1), .val (.int u), .val (.int w), .val (.int ta), .val (.int v4), .val (.int (4 : Int32)), .val (.int (128 : Int32)), .val (.int (143 : Int32))] [(.int (143 : Int32)), (.int (128 : Int32)), (.int (4 : Int32)), (.int ta), (.ref a1)])) rfl (by rw [hml]; rfl) (argsL := [(.ref a1), (.int ta), (.int (4 : Int32)), (.int (128 : Int32)), (.int (143 : Int32))]) (rest := []) (lenOf pd_4 rfl) rfl (by show 2 * 0 + _ ≤ _; exact Nat.le_of_eq rfl) (hb hby dw_193) (fun _ _ => ⟨rfl, e_, (by decide : 0 + 0 ≤ _), (by decide : 0 + 0 ≤ _)⟩)
                      dsimp only [Pt.U, Pt.locs, Pt.cells, Pt.slots] at X38 l38 y38 z38 st38 hQ38
                      subst y38 z38
                      obtain ⟨r_38, rfl, pp38, N38, e38⟩ := hQ38
                      have rr_38 := rng32 r_38
                      have N38a : Fr n0 L38 := by rw [l38]; exact Fr.app N_ N38
                      refine own_by st38 ?_
                      show own_Go p e below (Qw Z a1 u w kc B h0 n0) (own_Fr s ({ frames := 1, cells := 0, slots := 0, locals := 24 } : Room).cells ({ frames := 1, cells := 0, slots := 0, locals := 24 } : Room).slots) (T38.setTop (mkF m 196 #[.val (.ref a1), .val (.int u), .val (.int w), .val (.int ta), .val (.int v4), .val (.int (4 : Int32)), .val (.int (128 : Int32)), .val (.int (143 : Int32))] [(.int r_38)]))
                      rcases pp38 with ⟨hr38, pp38⟩ | ⟨hr38, pp38⟩
                      · obtain rfl : r_38 = (1 : Int32) := Int32.toInt_inj.mp hr38
                        refine own_ifYes (pc' := 201) X38 hx (hb hby dw_196) (by decide) (by decide) (by decide) ?_
                        refine own_iloadN (pc' := 202) X38 hx rfl (hb hby dw_201) rfl ?_
                        refine own_iload (pc' := 204) X38 hx rfl (hb hby dw_202) rfl ?_
                        obtain ⟨v41, hv41⟩ : ∃ z, ta + (4 : Int32) = z := ⟨_, rfl⟩
                        have f42 : (v41.toInt - (ta.toInt + 4)) % 4294967296 = 0 := by rw [← hv41]; exact c_iadd ta (4 : Int32)
                        have rv41 := rng32 v41
                        replace f42 : v41.toInt = ta.toInt + 4 := by omega
                        refine own_iadd (pc' := 205) X38 hx (z := v41) hv41 (hb hby dw_204) rfl ?_
                        refine own_istoreN (pc' := 206) X38 hx #[.val (.ref a1), .val (.int u), .val (.int w), .val (.int v41), .val (.int v4), .val (.int (4 : Int32)), .val (.int (128 : Int32)), .val (.int (143 : Int32))] rfl (hb hby dw_205) rfl ?_
                        refine own_goto (pc' := 2) X38 hx (hb hby dw_206) (by decide) (by decide) ?_
                        subst hv3
                        have hL : own_Lk B w.toInt ta.toInt = 4 := own_L_4 (by unfold own_D4 own_U; omega)
                        exact ih T38 _ X38 N38a e38 v41 (.val (.int v4)) (.val (.int (4 : Int32))) (.val (.int (128 : Int32))) (.val (.int (143 : Int32))) (One.val rfl) (One.val rfl) (One.val rfl) (One.val rfl) ⟨by omega, by omega, by omega⟩ (by rw [hW, own_W_on n (by omega) (by rw [hL]; decide), hL, show ta.toInt + 4 = v41.toInt from by omega])
                      · obtain rfl : r_38 = (0 : Int32) := Int32.toInt_inj.mp hr38
                        refine own_ifNo (pc' := 199) X38 hx (by decide) (hb hby dw_196) rfl ?_
                        refine own_iconst (pc' := 200) X38 hx (0 : Int32) (by decide) (hb hby dw_199) rfl ?_
                        refine own_ret X38 hx Bd.returns Bd.notSynchronized (Or.inl ⟨rfl, by simp, _, rfl⟩) (hb hby dw_200) rfl (by decide) (by decide) ?_
                        show Qw Z a1 u w kc B h0 n0 _ T38.heap _
                        rw [e38]
                        have kc0 : ((0 : Int32)).toInt = 0 := by decide
                        subst hv3
                        have hL : own_Lk B w.toInt ta.toInt = 0 := own_L_0 (by unfold own_U; omega) (by unfold own_D2 own_U; omega) (by unfold own_D3 own_U; omega) (by unfold own_D4 own_U; omega)
                        exact ⟨(0 : Int32), rfl, ⟨by omega, by rw [hW, own_W_no n (by omega) hL]; rfl⟩, N38a, rfl⟩
                  · refine own_icmpYes (pc' := 160) X_ hx (hb hby dw_151) (own_yes_ne rfl (by decide) b34) (by decide) (by decide) ?_
                    refine own_iload (pc' := 162) X_ hx rfl (hb hby dw_160) rfl ?_
                    refine own_istore (pc' := 164) X_ hx #[.val (.ref a1), .val (.int u), .val (.int w), .val (.int ta), .val (.int v4), .val (.int (4 : Int32)), .val (.int (128 : Int32)), .val (.int (191 : Int32))] rfl (hb hby dw_162) rfl ?_
                    refine own_goto (pc' := 177) X_ hx (hb hby dw_164) (by decide) (by decide) ?_
                    refine own_iloadN (pc' := 178) X_ hx rfl (hb hby dw_177) rfl ?_
                    refine own_iload (pc' := 180) X_ hx rfl (hb hby dw_178) rfl ?_
                    obtain ⟨v43, hv43⟩ : ∃ z, ta + (4 : Int32) = z := ⟨_, rfl⟩
                    have f44 : (v43.toInt - (ta.toInt + 4)) % 4294967296 = 0 := by rw [← hv43]; exact c_iadd ta (4 : Int32)
                    have rv43 := rng32 v43
                    replace f44 : v43.toInt = ta.toInt + 4 := by omega
                    refine own_iadd (pc' := 181) X_ hx (z := v43) hv43 (hb hby dw_180) rfl ?_
                    refine own_iloadN (pc' := 182) X_ hx rfl (hb hby dw_181) rfl ?_
                    by_cases b45 : w.toInt < v43.toInt
                    · refine own_icmpYes (pc' := 199) X_ hx (hb hby dw_182) (own_yes_gt rfl rfl b45) (by decide) (by decide) ?_
                      refine own_iconst (pc' := 200) X_ hx (0 : Int32) (by decide) (hb hby dw_199) rfl ?_
                      refine own_ret X_ hx Bd.returns Bd.notSynchronized (Or.inl ⟨rfl, by simp, _, rfl⟩) (hb hby dw_200) rfl (by decide) (by decide) ?_
                      show Qw Z a1 u w kc B h0 n0 _ T_.heap _
                      rw [e_]
                      have kc0 : ((0 : Int32)).toInt = 0 := by decide
                      subst hv3
                      have hL : own_Lk B w.toInt ta.toInt = 0 := own_L_0 (by unfold own_U; omega) (by unfold own_D2 own_U; omega) (by unfold own_D3 own_U; omega) (by unfold own_D4 own_U; omega)
                      exact ⟨(0 : Int32), rfl, ⟨by omega, by rw [hW, own_W_no n (by omega) hL]; rfl⟩, N_, rfl⟩
                    · refine own_icmpNo (pc' := 185) X_ hx (own_no_gt rfl rfl b45) (hb hby dw_182) rfl ?_
                      refine own_aloadN (pc' := 186) X_ hx rfl rfl (hb hby dw_185) rfl ?_
                      refine own_iloadN (pc' := 187) X_ hx rfl (hb hby dw_186) rfl ?_
                      refine own_iload (pc' := 189) X_ hx rfl (hb hby dw_187) rfl ?_
                      refine own_iload (pc' := 191) X_ hx rfl (hb hby dw_189) rfl ?_
                      refine own_iload (pc' := 193) X_ hx rfl (hb hby dw_191) rfl ?_
                      have kq47 : (128 : Int32).toInt = 128 := by decide
                      have kq48 : (191 : Int32).toInt = 191 := by decide
                      obtain ⟨_, _, ⟨T46, L46, k46, n46⟩, -, X46, ⟨Lc46, hQ46, l46, y46, z46⟩, st46⟩ := Jvm.LawKit.callS X_ hx (y := (⟨"com/example/bookplate/bookplate/marc/Utf8", "continues", "([BIIII)Z"⟩ : MethodName)) hown (mvT hZ (hw _ (List.mem_of_getElem? (i := 24) rfl))) (mvT hZ (hw _ (List.mem_of_getElem? (i := 25) rfl))) (mvT hZ (hw _ (List.mem_of_getElem? (i := 22) rfl))) (mvT hZ (hw _ (List.mem_of_getElem? (i := 26) rfl))) (by decide) (backOf (W := 0) (rmc4 l Z a0 hw [] a1 ta (128 : Int32) (191 : Int32) kc B h0 n0 Z0 A_a1 hB (by omega)) hZ (hw _ (List.mem_of_getElem? (i := 26) rfl)) (hw _ (List.mem_of_getElem? (i := 22) rfl)) (by decide) (by decide)) (g := (mkF m 193 #[.val (.ref a1), .val (.int u), .val (.int w), .val (.int ta), .val (.int v4), .val (.int (4 : Int32)), .val (.int (128 : Int32)), .val (.int (191 : Int32))] [(.int (191 : Int32)), (.int (128 : Int32)), (.int (4 : Int32)), (.int ta), (.ref a1)])) rfl (by rw [hml]; rfl) (argsL := [(.ref a1), (.int ta), (.int (4 : Int32)), (.int (128 : Int32)), (.int (191 : Int32))]) (rest := []) (lenOf pd_4 rfl) rfl (by show 2 * 0 + _ ≤ _; exact Nat.le_of_eq rfl) (hb hby dw_193) (fun _ _ => ⟨rfl, e_, (by decide : 0 + 0 ≤ _), (by decide : 0 + 0 ≤ _)⟩)
                      dsimp only [Pt.U, Pt.locs, Pt.cells, Pt.slots] at X46 l46 y46 z46 st46 hQ46
                      subst y46 z46
                      obtain ⟨r_46, rfl, pp46, N46, e46⟩ := hQ46
                      have rr_46 := rng32 r_46
                      have N46a : Fr n0 L46 := by rw [l46]; exact Fr.app N_ N46
                      refine own_by st46 ?_
                      show own_Go p e below (Qw Z a1 u w kc B h0 n0) (own_Fr s ({ frames := 1, cells := 0, slots := 0, locals := 24 } : Room).cells ({ frames := 1, cells := 0, slots := 0, locals := 24 } : Room).slots) (T46.setTop (mkF m 196 #[.val (.ref a1), .val (.int u), .val (.int w), .val (.int ta), .val (.int v4), .val (.int (4 : Int32)), .val (.int (128 : Int32)), .val (.int (191 : Int32))] [(.int r_46)]))
                      rcases pp46 with ⟨hr46, pp46⟩ | ⟨hr46, pp46⟩
                      · obtain rfl : r_46 = (1 : Int32) := Int32.toInt_inj.mp hr46
                        refine own_ifYes (pc' := 201) X46 hx (hb hby dw_196) (by decide) (by decide) (by decide) ?_
                        refine own_iloadN (pc' := 202) X46 hx rfl (hb hby dw_201) rfl ?_
                        refine own_iload (pc' := 204) X46 hx rfl (hb hby dw_202) rfl ?_
                        obtain ⟨v49, hv49⟩ : ∃ z, ta + (4 : Int32) = z := ⟨_, rfl⟩
                        have f50 : (v49.toInt - (ta.toInt + 4)) % 4294967296 = 0 := by rw [← hv49]; exact c_iadd ta (4 : Int32)
                        have rv49 := rng32 v49
                        replace f50 : v49.toInt = ta.toInt + 4 := by omega
                        refine own_iadd (pc' := 205) X46 hx (z := v49) hv49 (hb hby dw_204) rfl ?_
                        refine own_istoreN (pc' := 206) X46 hx #[.val (.ref a1), .val (.int u), .val (.int w), .val (.int v49), .val (.int v4), .val (.int (4 : Int32)), .val (.int (128 : Int32)), .val (.int (191 : Int32))] rfl (hb hby dw_205) rfl ?_
                        refine own_goto (pc' := 2) X46 hx (hb hby dw_206) (by decide) (by decide) ?_
                        subst hv3
                        have hL : own_Lk B w.toInt ta.toInt = 4 := own_L_4 (by unfold own_D4 own_U; omega)
                        exact ih T46 _ X46 N46a e46 v49 (.val (.int v4)) (.val (.int (4 : Int32))) (.val (.int (128 : Int32))) (.val (.int (191 : Int32))) (One.val rfl) (One.val rfl) (One.val rfl) (One.val rfl) ⟨by omega, by omega, by omega⟩ (by rw [hW, own_W_on n (by omega) (by rw [hL]; decide), hL, show ta.toInt + 4 = v49.toInt from by omega])
                      · obtain rfl : r_46 = (0 : Int32) := Int32.toInt_inj.mp hr46
                        refine own_ifNo (pc' := 199) X46 hx (by decide) (hb hby dw_196) rfl ?_
                        refine own_iconst (pc' := 200) X46 hx (0 : Int32) (by decide) (hb hby dw_199) rfl ?_
                        refine own_ret X46 hx Bd.returns Bd.notSynchronized (Or.inl ⟨rfl, by simp, _, rfl⟩) (hb hby dw_200) rfl (by decide) (by decide) ?_
                        show Qw Z a1 u w kc B h0 n0 _ T46.heap _
                        rw [e46]
                        have kc0 : ((0 : Int32)).toInt = 0 := by decide
                        subst hv3
                        have hL : own_Lk B w.toInt ta.toInt = 0 := own_L_0 (by unfold own_U; omega) (by unfold own_D2 own_U; omega) (by unfold own_D3 own_U; omega) (by unfold own_D4 own_U; omega)
                        exact ⟨(0 : Int32), rfl, ⟨by omega, by rw [hW, own_W_no n (by omega) hL]; rfl⟩, N46a, rfl⟩
            · refine own_icmpNo (pc' := 67) X_ hx (own_no_gt rfl (by decide) b20) (hb hby dw_64) rfl ?_
              refine own_iconst (pc' := 68) X_ hx (3 : Int32) (by decide) (hb hby dw_67) rfl ?_
              refine own_istore (pc' := 70) X_ hx #[.val (.ref a1), .val (.int u), .val (.int w), .val (.int ta), .val (.int v4), .val (.int (3 : Int32)), .val (.int (128 : Int32)), .val (.int (191 : Int32))] rfl (hb hby dw_68) rfl ?_
              refine own_iload (pc' := 72) X_ hx rfl (hb hby dw_70) rfl ?_
              refine own_sipush (pc' := 75) X_ hx (224 : Int32) (by decide) (hb hby dw_72) rfl ?_
              by_cases b51 : v4.toInt = 224
              · refine own_icmpNo (pc' := 78) X_ hx (own_no_ne rfl (by decide) b51) (hb hby dw_75) rfl ?_
                refine own_sipush (pc' := 81) X_ hx (160 : Int32) (by decide) (hb hby dw_78) rfl ?_
                refine own_goto (pc' := 86) X_ hx (hb hby dw_81) (by decide) (by decide) ?_
                refine own_istore (pc' := 88) X_ hx #[.val (.ref a1), .val (.int u), .val (.int w), .val (.int ta), .val (.int v4), .val (.int (3 : Int32)), .val (.int (160 : Int32)), .val (.int (191 : Int32))] rfl (hb hby dw_86) rfl ?_
                refine own_iload (pc' := 90) X_ hx rfl (hb hby dw_88) rfl ?_
                refine own_sipush (pc' := 93) X_ hx (237 : Int32) (by decide) (hb hby dw_90) rfl ?_
                have b52 : ¬ v4.toInt = 237 := by omega
                refine own_icmpYes (pc' := 102) X_ hx (hb hby dw_93) (own_yes_ne rfl (by decide) b52) (by decide) (by decide) ?_
                refine own_iload (pc' := 104) X_ hx rfl (hb hby dw_102) rfl ?_
                refine own_istore (pc' := 106) X_ hx #[.val (.ref a1), .val (.int u), .val (.int w), .val (.int ta), .val (.int v4), .val (.int (3 : Int32)), .val (.int (160 : Int32)), .val (.int (191 : Int32))] rfl (hb hby dw_104) rfl ?_
                refine own_goto (pc' := 177) X_ hx (hb hby dw_106) (by decide) (by decide) ?_
                refine own_iloadN (pc' := 178) X_ hx rfl (hb hby dw_177) rfl ?_
                refine own_iload (pc' := 180) X_ hx rfl (hb hby dw_178) rfl ?_
                obtain ⟨v53, hv53⟩ : ∃ z, ta + (3 : Int32) = z := ⟨_, rfl⟩
                have f54 : (v53.toInt - (ta.toInt + 3)) % 4294967296 = 0 := by rw [← hv53]; exact c_iadd ta (3 : Int32)
                have rv53 := rng32 v53
                replace f54 : v53.toInt = ta.toInt + 3 := by omega
                refine own_iadd (pc' := 181) X_ hx (z := v53) hv53 (hb hby dw_180) rfl ?_
                refine own_iloadN (pc' := 182) X_ hx rfl (hb hby dw_181) rfl ?_
                by_cases b55 : w.toInt < v53.toInt
                · refine own_icmpYes (pc' := 199) X_ hx (hb hby dw_182) (own_yes_gt rfl rfl b55) (by decide) (by decide) ?_
                  refine own_iconst (pc' := 200) X_ hx (0 : Int32) (by decide) (hb hby dw_199) rfl ?_
                  refine own_ret X_ hx Bd.returns Bd.notSynchronized (Or.inl ⟨rfl, by simp, _, rfl⟩) (hb hby dw_200) rfl (by decide) (by decide) ?_
                  show Qw Z a1 u w kc B h0 n0 _ T_.heap _
                  rw [e_]
                  have kc0 : ((0 : Int32)).toInt = 0 := by decide
                  subst hv3
                  have hL : own_Lk B w.toInt ta.toInt = 0 := own_L_0 (by unfold own_U; omega) (by unfold own_D2 own_U; omega) (by unfold own_D3 own_U; omega) (by unfold own_D4 own_U; omega)
                  exact ⟨(0 : Int32), rfl, ⟨by omega, by rw [hW, own_W_no n (by omega) hL]; rfl⟩, N_, rfl⟩
                · refine own_icmpNo (pc' := 185) X_ hx (own_no_gt rfl rfl b55) (hb hby dw_182) rfl ?_
                  refine own_aloadN (pc' := 186) X_ hx rfl rfl (hb hby dw_185) rfl ?_
                  refine own_iloadN (pc' := 187) X_ hx rfl (hb hby dw_186) rfl ?_
                  refine own_iload (pc' := 189) X_ hx rfl (hb hby dw_187) rfl ?_
                  refine own_iload (pc' := 191) X_ hx rfl (hb hby dw_189) rfl ?_
                  refine own_iload (pc' := 193) X_ hx rfl (hb hby dw_191) rfl ?_
                  have kq57 : (160 : Int32).toInt = 160 := by decide
                  have kq58 : (191 : Int32).toInt = 191 := by decide
                  obtain ⟨_, _, ⟨T56, L56, k56, n56⟩, -, X56, ⟨Lc56, hQ56, l56, y56, z56⟩, st56⟩ := Jvm.LawKit.callS X_ hx (y := (⟨"com/example/bookplate/bookplate/marc/Utf8", "continues", "([BIIII)Z"⟩ : MethodName)) hown (mvT hZ (hw _ (List.mem_of_getElem? (i := 24) rfl))) (mvT hZ (hw _ (List.mem_of_getElem? (i := 25) rfl))) (mvT hZ (hw _ (List.mem_of_getElem? (i := 22) rfl))) (mvT hZ (hw _ (List.mem_of_getElem? (i := 26) rfl))) (by decide) (backOf (W := 0) (rmc3 l Z a0 hw [] a1 ta (160 : Int32) (191 : Int32) kc B h0 n0 Z0 A_a1 hB (by omega)) hZ (hw _ (List.mem_of_getElem? (i := 26) rfl)) (hw _ (List.mem_of_getElem? (i := 22) rfl)) (by decide) (by decide)) (g := (mkF m 193 #[.val (.ref a1), .val (.int u), .val (.int w), .val (.int ta), .val (.int v4), .val (.int (3 : Int32)), .val (.int (160 : Int32)), .val (.int (191 : Int32))] [(.int (191 : Int32)), (.int (160 : Int32)), (.int (3 : Int32)), (.int ta), (.ref a1)])) rfl (by rw [hml]; rfl) (argsL := [(.ref a1), (.int ta), (.int (3 : Int32)), (.int (160 : Int32)), (.int (191 : Int32))]) (rest := []) (lenOf pd_4 rfl) rfl (by show 2 * 0 + _ ≤ _; exact Nat.le_of_eq rfl) (hb hby dw_193) (fun _ _ => ⟨rfl, e_, (by decide : 0 + 0 ≤ _), (by decide : 0 + 0 ≤ _)⟩)
                  dsimp only [Pt.U, Pt.locs, Pt.cells, Pt.slots] at X56 l56 y56 z56 st56 hQ56
                  subst y56 z56
                  obtain ⟨r_56, rfl, pp56, N56, e56⟩ := hQ56
                  have rr_56 := rng32 r_56
                  have N56a : Fr n0 L56 := by rw [l56]; exact Fr.app N_ N56
                  refine own_by st56 ?_
                  show own_Go p e below (Qw Z a1 u w kc B h0 n0) (own_Fr s ({ frames := 1, cells := 0, slots := 0, locals := 24 } : Room).cells ({ frames := 1, cells := 0, slots := 0, locals := 24 } : Room).slots) (T56.setTop (mkF m 196 #[.val (.ref a1), .val (.int u), .val (.int w), .val (.int ta), .val (.int v4), .val (.int (3 : Int32)), .val (.int (160 : Int32)), .val (.int (191 : Int32))] [(.int r_56)]))
                  rcases pp56 with ⟨hr56, pp56⟩ | ⟨hr56, pp56⟩
                  · obtain rfl : r_56 = (1 : Int32) := Int32.toInt_inj.mp hr56
                    refine own_ifYes (pc' := 201) X56 hx (hb hby dw_196) (by decide) (by decide) (by decide) ?_
                    refine own_iloadN (pc' := 202) X56 hx rfl (hb hby dw_201) rfl ?_
                    refine own_iload (pc' := 204) X56 hx rfl (hb hby dw_202) rfl ?_
                    obtain ⟨v59, hv59⟩ : ∃ z, ta + (3 : Int32) = z := ⟨_, rfl⟩
                    have f60 : (v59.toInt - (ta.toInt + 3)) % 4294967296 = 0 := by rw [← hv59]; exact c_iadd ta (3 : Int32)
                    have rv59 := rng32 v59
                    replace f60 : v59.toInt = ta.toInt + 3 := by omega
                    refine own_iadd (pc' := 205) X56 hx (z := v59) hv59 (hb hby dw_204) rfl ?_
                    refine own_istoreN (pc' := 206) X56 hx #[.val (.ref a1), .val (.int u), .val (.int w), .val (.int v59), .val (.int v4), .val (.int (3 : Int32)), .val (.int (160 : Int32)), .val (.int (191 : Int32))] rfl (hb hby dw_205) rfl ?_
                    refine own_goto (pc' := 2) X56 hx (hb hby dw_206) (by decide) (by decide) ?_
                    subst hv3
                    have hL : own_Lk B w.toInt ta.toInt = 3 := own_L_3 (by unfold own_D3 own_U; omega)
                    exact ih T56 _ X56 N56a e56 v59 (.val (.int v4)) (.val (.int (3 : Int32))) (.val (.int (160 : Int32))) (.val (.int (191 : Int32))) (One.val rfl) (One.val rfl) (One.val rfl) (One.val rfl) ⟨by omega, by omega, by omega⟩ (by rw [hW, own_W_on n (by omega) (by rw [hL]; decide), hL, show ta.toInt + 3 = v59.toInt from by omega])
                  · obtain rfl : r_56 = (0 : Int32) := Int32.toInt_inj.mp hr56
                    refine own_ifNo (pc' := 199) X56 hx (by decide) (hb hby dw_196) rfl ?_
                    refine own_iconst (pc' := 200) X56 hx (0 : Int32) (by decide) (hb hby dw_199) rfl ?_
                    refine own_ret X56 hx Bd.returns Bd.notSynchronized (Or.inl ⟨rfl, by simp, _, rfl⟩) (hb hby dw_200) rfl (by decide) (by decide) ?_
                    show Qw Z a1 u w kc B h0 n0 _ T56.heap _
                    rw [e56]
                    have kc0 : ((0 : Int32)).toInt = 0 := by decide
                    subst hv3
                    have hL : own_Lk B w.toInt ta.toInt = 0 := own_L_0 (by unfold own_U; omega) (by unfold own_D2 own_U; omega) (by unfold own_D3 own_U; omega) (by unfold own_D4 own_U; omega)
                    exact ⟨(0 : Int32), rfl, ⟨by omega, by rw [hW, own_W_no n (by omega) hL]; rfl⟩, N56a, rfl⟩
              · refine own_icmpYes (pc' := 84) X_ hx (hb hby dw_75) (own_yes_ne rfl (by decide) b51) (by decide) (by decide) ?_
                refine own_iload (pc' := 86) X_ hx rfl (hb hby dw_84) rfl ?_
                refine own_istore (pc' := 88) X_ hx #[.val (.ref a1), .val (.int u), .val (.int w), .val (.int ta), .val (.int v4), .val (.int (3 : Int32)), .val (.int (128 : Int32)), .val (.int (191 : Int32))] rfl (hb hby dw_86) rfl ?_
                refine own_iload (pc' := 90) X_ hx rfl (hb hby dw_88) rfl ?_
                refine own_sipush (pc' := 93) X_ hx (237 : Int32) (by decide) (hb hby dw_90) rfl ?_
                by_cases b61 : v4.toInt = 237
                · refine own_icmpNo (pc' := 96) X_ hx (own_no_ne rfl (by decide) b61) (hb hby dw_93) rfl ?_
                  refine own_sipush (pc' := 99) X_ hx (159 : Int32) (by decide) (hb hby dw_96) rfl ?_
                  refine own_goto (pc' := 104) X_ hx (hb hby dw_99) (by decide) (by decide) ?_
                  refine own_istore (pc' := 106) X_ hx #[.val (.ref a1), .val (.int u), .val (.int w), .val (.int ta), .val (.int v4), .val (.int (3 : Int32)), .val (.int (128 : Int32)), .val (.int (159 : Int32))] rfl (hb hby dw_104) rfl ?_
                  refine own_goto (pc' := 177) X_ hx (hb hby dw_106) (by decide) (by decide) ?_
                  refine own_iloadN (pc' := 178) X_ hx rfl (hb hby dw_177) rfl ?_
                  refine own_iload (pc' := 180) X_ hx rfl (hb hby dw_178) rfl ?_
                  obtain ⟨v62, hv62⟩ : ∃ z, ta + (3 : Int32) = z := ⟨_, rfl⟩
                  have f63 : (v62.toInt - (ta.toInt + 3)) % 4294967296 = 0 := by rw [← hv62]; exact c_iadd ta (3 : Int32)
                  have rv62 := rng32 v62
                  replace f63 : v62.toInt = ta.toInt + 3 := by omega
                  refine own_iadd (pc' := 181) X_ hx (z := v62) hv62 (hb hby dw_180) rfl ?_
                  refine own_iloadN (pc' := 182) X_ hx rfl (hb hby dw_181) rfl ?_
                  by_cases b64 : w.toInt < v62.toInt
                  · refine own_icmpYes (pc' := 199) X_ hx (hb hby dw_182) (own_yes_gt rfl rfl b64) (by decide) (by decide) ?_
                    refine own_iconst (pc' := 200) X_ hx (0 : Int32) (by decide) (hb hby dw_199) rfl ?_
                    refine own_ret X_ hx Bd.returns Bd.notSynchronized (Or.inl ⟨rfl, by simp, _, rfl⟩) (hb hby dw_200) rfl (by decide) (by decide) ?_
                    show Qw Z a1 u w kc B h0 n0 _ T_.heap _
                    rw [e_]
                    have kc0 : ((0 : Int32)).toInt = 0 := by decide
                    subst hv3
                    have hL : own_Lk B w.toInt ta.toInt = 0 := own_L_0 (by unfold own_U; omega) (by unfold own_D2 own_U; omega) (by unfold own_D3 own_U; omega) (by unfold own_D4 own_U; omega)
                    exact ⟨(0 : Int32), rfl, ⟨by omega, by rw [hW, own_W_no n (by omega) hL]; rfl⟩, N_, rfl⟩
                  · refine own_icmpNo (pc' := 185) X_ hx (own_no_gt rfl rfl b64) (hb hby dw_182) rfl ?_
                    refine own_aloadN (pc' := 186) X_ hx rfl rfl (hb hby dw_185) rfl ?_
                    refine own_iloadN (pc' := 187) X_ hx rfl (hb hby dw_186) rfl ?_
                    refine own_iload (pc' := 189) X_ hx rfl (hb hby dw_187) rfl ?_
                    refine own_iload (pc' := 191) X_ hx rfl (hb hby dw_189) rfl ?_
                    refine own_iload (pc' := 193) X_ hx rfl (hb hby dw_191) rfl ?_
                    have kq66 : (128 : Int32).toInt = 128 := by decide
                    have kq67 : (159 : Int32).toInt = 159 := by decide
                    obtain ⟨_, _, ⟨T65, L65, k65, n65⟩, -, X65, ⟨Lc65, hQ65, l65, y65, z65⟩, st65⟩ := Jvm.LawKit.callS X_ hx (y := (⟨"com/example/bookplate/bookplate/marc/Utf8", "continues", "([BIIII)Z"⟩ : MethodName)) hown (mvT hZ (hw _ (List.mem_of_getElem? (i := 24) rfl))) (mvT hZ (hw _ (List.mem_of_getElem? (i := 25) rfl))) (mvT hZ (hw _ (List.mem_of_getElem? (i := 22) rfl))) (mvT hZ (hw _ (List.mem_of_getElem? (i := 26) rfl))) (by decide) (backOf (W := 0) (rmc3 l Z a0 hw [] a1 ta (128 : Int32) (159 : Int32) kc B h0 n0 Z0 A_a1 hB (by omega)) hZ (hw _ (List.mem_of_getElem? (i := 26) rfl)) (hw _ (List.mem_of_getElem? (i := 22) rfl)) (by decide) (by decide)) (g := (mkF m 193 #[.val (.ref a1), .val (.int u), .val (.int w), .val (.int ta), .val (.int v4), .val (.int (3 : Int32)), .val (.int (128 : Int32)), .val (.int (159 : Int32))] [(.int (159 : Int32)), (.int (128 : Int32)), (.int (3 : Int32)), (.int ta), (.ref a1)])) rfl (by rw [hml]; rfl) (argsL := [(.ref a1), (.int ta), (.int (3 : Int32)), (.int (128 : Int32)), (.int (159 : Int32))]) (rest := []) (lenOf pd_4 rfl) rfl (by show 2 * 0 + _ ≤ _; exact Nat.le_of_eq rfl) (hb hby dw_193) (fun _ _ => ⟨rfl, e_, (by decide : 0 + 0 ≤ _), (by decide : 0 + 0 ≤ _)⟩)
                    dsimp only [Pt.U, Pt.locs, Pt.cells, Pt.slots] at X65 l65 y65 z65 st65 hQ65
                    subst y65 z65
                    obtain ⟨r_65, rfl, pp65, N65, e65⟩ := hQ65
                    have rr_65 := rng32 r_65
                    have N65a : Fr n0 L65 := by rw [l65]; exact Fr.app N_ N65
                    refine own_by st65 ?_
                    show own_Go p e below (Qw Z a1 u w kc B h0 n0) (own_Fr s ({ frames := 1, cells := 0, slots := 0, locals := 24 } : Room).cells ({ frames := 1, cells := 0, slots := 0, locals := 24 } : Room).slots) (T65.setTop (mkF m 196 #[.val (.ref a1), .val (.int u), .val (.int w), .val (.int ta), .val (.int v4), .val (.int (3 : Int32)), .val (.int (128 : Int32)), .val (.int (159 : Int32))] [(.int r_65)]))
                    rcases pp65 with ⟨hr65, pp65⟩ | ⟨hr65, pp65⟩
                    · obtain rfl : r_65 = (1 : Int32) := Int32.toInt_inj.mp hr65
                      refine own_ifYes (pc' := 201) X65 hx (hb hby dw_196) (by decide) (by decide) (by decide) ?_
                      refine own_iloadN (pc' := 202) X65 hx rfl (hb hby dw_201) rfl ?_
                      refine own_iload (pc' := 204) X65 hx rfl (hb hby dw_202) rfl ?_
                      obtain ⟨v68, hv68⟩ : ∃ z, ta + (3 : Int32) = z := ⟨_, rfl⟩
                      have f69 : (v68.toInt - (ta.toInt + 3)) % 4294967296 = 0 := by rw [← hv68]; exact c_iadd ta (3 : Int32)
                      have rv68 := rng32 v68
                      replace f69 : v68.toInt = ta.toInt + 3 := by omega
                      refine own_iadd (pc' := 205) X65 hx (z := v68) hv68 (hb hby dw_204) rfl ?_
                      refine own_istoreN (pc' := 206) X65 hx #[.val (.ref a1), .val (.int u), .val (.int w), .val (.int v68), .val (.int v4), .val (.int (3 : Int32)), .val (.int (128 : Int32)), .val (.int (159 : Int32))] rfl (hb hby dw_205) rfl ?_
                      refine own_goto (pc' := 2) X65 hx (hb hby dw_206) (by decide) (by decide) ?_
                      subst hv3
                      have hL : own_Lk B w.toInt ta.toInt = 3 := own_L_3 (by unfold own_D3 own_U; omega)
                      exact ih T65 _ X65 N65a e65 v68 (.val (.int v4)) (.val (.int (3 : Int32))) (.val (.int (128 : Int32))) (.val (.int (159 : Int32))) (One.val rfl) (One.val rfl) (One.val rfl) (One.val rfl) ⟨by omega, by omega, by omega⟩ (by rw [hW, own_W_on n (by omega) (by rw [hL]; decide), hL, show ta.toInt + 3 = v68.toInt from by omega])
                    · obtain rfl : r_65 = (0 : Int32) := Int32.toInt_inj.mp hr65
                      refine own_ifNo (pc' := 199) X65 hx (by decide) (hb hby dw_196) rfl ?_
                      refine own_iconst (pc' := 200) X65 hx (0 : Int32) (by decide) (hb hby dw_199) rfl ?_
                      refine own_ret X65 hx Bd.returns Bd.notSynchronized (Or.inl ⟨rfl, by simp, _, rfl⟩) (hb hby dw_200) rfl (by decide) (by decide) ?_
                      show Qw Z a1 u w kc B h0 n0 _ T65.heap _
                      rw [e65]
                      have kc0 : ((0 : Int32)).toInt = 0 := by decide
                      subst hv3
                      have hL : own_Lk B w.toInt ta.toInt = 0 := own_L_0 (by unfold own_U; omega) (by unfold own_D2 own_U; omega) (by unfold own_D3 own_U; omega) (by unfold own_D4 own_U; omega)
                      exact ⟨(0 : Int32), rfl, ⟨by omega, by rw [hW, own_W_no n (by omega) hL]; rfl⟩, N65a, rfl⟩
                · refine own_icmpYes (pc' := 102) X_ hx (hb hby dw_93) (own_yes_ne rfl (by decide) b61) (by decide) (by decide) ?_
                  refine own_iload (pc' := 104) X_ hx rfl (hb hby dw_102) rfl ?_
                  refine own_istore (pc' := 106) X_ hx #[.val (.ref a1), .val (.int u), .val (.int w), .val (.int ta), .val (.int v4), .val (.int (3 : Int32)), .val (.int (128 : Int32)), .val (.int (191 : Int32))] rfl (hb hby dw_104) rfl ?_
                  refine own_goto (pc' := 177) X_ hx (hb hby dw_106) (by decide) (by decide) ?_
                  refine own_iloadN (pc' := 178) X_ hx rfl (hb hby dw_177) rfl ?_
                  refine own_iload (pc' := 180) X_ hx rfl (hb hby dw_178) rfl ?_
                  obtain ⟨v70, hv70⟩ : ∃ z, ta + (3 : Int32) = z := ⟨_, rfl⟩
                  have f71 : (v70.toInt - (ta.toInt + 3)) % 4294967296 = 0 := by rw [← hv70]; exact c_iadd ta (3 : Int32)
                  have rv70 := rng32 v70
                  replace f71 : v70.toInt = ta.toInt + 3 := by omega
                  refine own_iadd (pc' := 181) X_ hx (z := v70) hv70 (hb hby dw_180) rfl ?_
                  refine own_iloadN (pc' := 182) X_ hx rfl (hb hby dw_181) rfl ?_
                  by_cases b72 : w.toInt < v70.toInt
                  · refine own_icmpYes (pc' := 199) X_ hx (hb hby dw_182) (own_yes_gt rfl rfl b72) (by decide) (by decide) ?_
                    refine own_iconst (pc' := 200) X_ hx (0 : Int32) (by decide) (hb hby dw_199) rfl ?_
                    refine own_ret X_ hx Bd.returns Bd.notSynchronized (Or.inl ⟨rfl, by simp, _, rfl⟩) (hb hby dw_200) rfl (by decide) (by decide) ?_
                    show Qw Z a1 u w kc B h0 n0 _ T_.heap _
                    rw [e_]
                    have kc0 : ((0 : Int32)).toInt = 0 := by decide
                    subst hv3
                    have hL : own_Lk B w.toInt ta.toInt = 0 := own_L_0 (by unfold own_U; omega) (by unfold own_D2 own_U; omega) (by unfold own_D3 own_U; omega) (by unfold own_D4 own_U; omega)
                    exact ⟨(0 : Int32), rfl, ⟨by omega, by rw [hW, own_W_no n (by omega) hL]; rfl⟩, N_, rfl⟩
                  · refine own_icmpNo (pc' := 185) X_ hx (own_no_gt rfl rfl b72) (hb hby dw_182) rfl ?_
                    refine own_aloadN (pc' := 186) X_ hx rfl rfl (hb hby dw_185) rfl ?_
                    refine own_iloadN (pc' := 187) X_ hx rfl (hb hby dw_186) rfl ?_
                    refine own_iload (pc' := 189) X_ hx rfl (hb hby dw_187) rfl ?_
                    refine own_iload (pc' := 191) X_ hx rfl (hb hby dw_189) rfl ?_
                    refine own_iload (pc' := 193) X_ hx rfl (hb hby dw_191) rfl ?_
                    have kq74 : (128 : Int32).toInt = 128 := by decide
                    have kq75 : (191 : Int32).toInt = 191 := by decide
                    obtain ⟨_, _, ⟨T73, L73, k73, n73⟩, -, X73, ⟨Lc73, hQ73, l73, y73, z73⟩, st73⟩ := Jvm.LawKit.callS X_ hx (y := (⟨"com/example/bookplate/bookplate/marc/Utf8", "continues", "([BIIII)Z"⟩ : MethodName)) hown (mvT hZ (hw _ (List.mem_of_getElem? (i := 24) rfl))) (mvT hZ (hw _ (List.mem_of_getElem? (i := 25) rfl))) (mvT hZ (hw _ (List.mem_of_getElem? (i := 22) rfl))) (mvT hZ (hw _ (List.mem_of_getElem? (i := 26) rfl))) (by decide) (backOf (W := 0) (rmc3 l Z a0 hw [] a1 ta (128 : Int32) (191 : Int32) kc B h0 n0 Z0 A_a1 hB (by omega)) hZ (hw _ (List.mem_of_getElem? (i := 26) rfl)) (hw _ (List.mem_of_getElem? (i := 22) rfl)) (by decide) (by decide)) (g := (mkF m 193 #[.val (.ref a1), .val (.int u), .val (.int w), .val (.int ta), .val (.int v4), .val (.int (3 : Int32)), .val (.int (128 : Int32)), .val (.int (191 : Int32))] [(.int (191 : Int32)), (.int (128 : Int32)), (.int (3 : Int32)), (.int ta), (.ref a1)])) rfl (by rw [hml]; rfl) (argsL := [(.ref a1), (.int ta), (.int (3 : Int32)), (.int (128 : Int32)), (.int (191 : Int32))]) (rest := []) (lenOf pd_4 rfl) rfl (by show 2 * 0 + _ ≤ _; exact Nat.le_of_eq rfl) (hb hby dw_193) (fun _ _ => ⟨rfl, e_, (by decide : 0 + 0 ≤ _), (by decide : 0 + 0 ≤ _)⟩)
                    dsimp only [Pt.U, Pt.locs, Pt.cells, Pt.slots] at X73 l73 y73 z73 st73 hQ73
                    subst y73 z73
                    obtain ⟨r_73, rfl, pp73, N73, e73⟩ := hQ73
                    have rr_73 := rng32 r_73
                    have N73a : Fr n0 L73 := by rw [l73]; exact Fr.app N_ N73
                    refine own_by st73 ?_
                    show own_Go p e below (Qw Z a1 u w kc B h0 n0) (own_Fr s ({ frames := 1, cells := 0, slots := 0, locals := 24 } : Room).cells ({ frames := 1, cells := 0, slots := 0, locals := 24 } : Room).slots) (T73.setTop (mkF m 196 #[.val (.ref a1), .val (.int u), .val (.int w), .val (.int ta), .val (.int v4), .val (.int (3 : Int32)), .val (.int (128 : Int32)), .val (.int (191 : Int32))] [(.int r_73)]))
                    rcases pp73 with ⟨hr73, pp73⟩ | ⟨hr73, pp73⟩
                    · obtain rfl : r_73 = (1 : Int32) := Int32.toInt_inj.mp hr73
                      refine own_ifYes (pc' := 201) X73 hx (hb hby dw_196) (by decide) (by decide) (by decide) ?_
                      refine own_iloadN (pc' := 202) X73 hx rfl (hb hby dw_201) rfl ?_
                      refine own_iload (pc' := 204) X73 hx rfl (hb hby dw_202) rfl ?_
                      obtain ⟨v76, hv76⟩ : ∃ z, ta + (3 : Int32) = z := ⟨_, rfl⟩
                      have f77 : (v76.toInt - (ta.toInt + 3)) % 4294967296 = 0 := by rw [← hv76]; exact c_iadd ta (3 : Int32)
                      have rv76 := rng32 v76
                      replace f77 : v76.toInt = ta.toInt + 3 := by omega
                      refine own_iadd (pc' := 205) X73 hx (z := v76) hv76 (hb hby dw_204) rfl ?_
                      refine own_istoreN (pc' := 206) X73 hx #[.val (.ref a1), .val (.int u), .val (.int w), .val (.int v76), .val (.int v4), .val (.int (3 : Int32)), .val (.int (128 : Int32)), .val (.int (191 : Int32))] rfl (hb hby dw_205) rfl ?_
                      refine own_goto (pc' := 2) X73 hx (hb hby dw_206) (by decide) (by decide) ?_
                      subst hv3
                      have hL : own_Lk B w.toInt ta.toInt = 3 := own_L_3 (by unfold own_D3 own_U; omega)
                      exact ih T73 _ X73 N73a e73 v76 (.val (.int v4)) (.val (.int (3 : Int32))) (.val (.int (128 : Int32))) (.val (.int (191 : Int32))) (One.val rfl) (One.val rfl) (One.val rfl) (One.val rfl) ⟨by omega, by omega, by omega⟩ (by rw [hW, own_W_on n (by omega) (by rw [hL]; decide), hL, show ta.toInt + 3 = v76.toInt from by omega])
                    · obtain rfl : r_73 = (0 : Int32) := Int32.toInt_inj.mp hr73
                      refine own_ifNo (pc' := 199) X73 hx (by decide) (hb hby dw_196) rfl ?_
                      refine own_iconst (pc' := 200) X73 hx (0 : Int32) (by decide) (hb hby dw_199) rfl ?_
                      refine own_ret X73 hx Bd.returns Bd.notSynchronized (Or.inl ⟨rfl, by simp, _, rfl⟩) (hb hby dw_200) rfl (by decide) (by decide) ?_
                      show Qw Z a1 u w kc B h0 n0 _ T73.heap _
                      rw [e73]
                      have kc0 : ((0 : Int32)).toInt = 0 := by decide
                      subst hv3
                      have hL : own_Lk B w.toInt ta.toInt = 0 := own_L_0 (by unfold own_U; omega) (by unfold own_D2 own_U; omega) (by unfold own_D3 own_U; omega) (by unfold own_D4 own_U; omega)
                      exact ⟨(0 : Int32), rfl, ⟨by omega, by rw [hW, own_W_no n (by omega) hL]; rfl⟩, N73a, rfl⟩
          · refine own_icmpNo (pc' := 45) X_ hx (own_no_gt rfl (by decide) b18) (hb hby dw_42) rfl ?_
            refine own_iconst (pc' := 46) X_ hx (2 : Int32) (by decide) (hb hby dw_45) rfl ?_
            refine own_istore (pc' := 48) X_ hx #[.val (.ref a1), .val (.int u), .val (.int w), .val (.int ta), .val (.int v4), .val (.int (2 : Int32)), .val (.int (128 : Int32)), .val (.int (191 : Int32))] rfl (hb hby dw_46) rfl ?_
            refine own_goto (pc' := 177) X_ hx (hb hby dw_48) (by decide) (by decide) ?_
            refine own_iloadN (pc' := 178) X_ hx rfl (hb hby dw_177) rfl ?_
            refine own_iload (pc' := 180) X_ hx rfl (hb hby dw_178) rfl ?_
            obtain ⟨v78, hv78⟩ : ∃ z, ta + (2 : Int32) = z := ⟨_, rfl⟩
            have f79 : (v78.toInt - (ta.toInt + 2)) % 4294967296 = 0 := by rw [← hv78]; exact c_iadd ta (2 : Int32)
            have rv78 := rng32 v78
            replace f79 : v78.toInt = ta.toInt + 2 := by omega
            refine own_iadd (pc' := 181) X_ hx (z := v78) hv78 (hb hby dw_180) rfl ?_
            refine own_iloadN (pc' := 182) X_ hx rfl (hb hby dw_181) rfl ?_
            by_cases b80 : w.toInt < v78.toInt
            · refine own_icmpYes (pc' := 199) X_ hx (hb hby dw_182) (own_yes_gt rfl rfl b80) (by decide) (by decide) ?_
              refine own_iconst (pc' := 200) X_ hx (0 : Int32) (by decide) (hb hby dw_199) rfl ?_
              refine own_ret X_ hx Bd.returns Bd.notSynchronized (Or.inl ⟨rfl, by simp, _, rfl⟩) (hb hby dw_200) rfl (by decide) (by decide) ?_
              show Qw Z a1 u w kc B h0 n0 _ T_.heap _
              rw [e_]
              have kc0 : ((0 : Int32)).toInt = 0 := by decide
              subst hv3
              have hL : own_Lk B w.toInt ta.toInt = 0 := own_L_0 (by unfold own_U; omega) (by unfold own_D2 own_U; omega) (by unfold own_D3 own_U; omega) (by unfold own_D4 own_U; omega)
              exact ⟨(0 : Int32), rfl, ⟨by omega, by rw [hW, own_W_no n (by omega) hL]; rfl⟩, N_, rfl⟩
            · refine own_icmpNo (pc' := 185) X_ hx (own_no_gt rfl rfl b80) (hb hby dw_182) rfl ?_
              refine own_aloadN (pc' := 186) X_ hx rfl rfl (hb hby dw_185) rfl ?_
              refine own_iloadN (pc' := 187) X_ hx rfl (hb hby dw_186) rfl ?_
              refine own_iload (pc' := 189) X_ hx rfl (hb hby dw_187) rfl ?_
              refine own_iload (pc' := 191) X_ hx rfl (hb hby dw_189) rfl ?_
              refine own_iload (pc' := 193) X_ hx rfl (hb hby dw_191) rfl ?_
              have kq82 : (128 : Int32).toInt = 128 := by decide
              have kq83 : (191 : Int32).toInt = 191 := by decide
              obtain ⟨_, _, ⟨T81, L81, k81, n81⟩, -, X81, ⟨Lc81, hQ81, l81, y81, z81⟩, st81⟩ := Jvm.LawKit.callS X_ hx (y := (⟨"com/example/bookplate/bookplate/marc/Utf8", "continues", "([BIIII)Z"⟩ : MethodName)) hown (mvT hZ (hw _ (List.mem_of_getElem? (i := 24) rfl))) (mvT hZ (hw _ (List.mem_of_getElem? (i := 25) rfl))) (mvT hZ (hw _ (List.mem_of_getElem? (i := 22) rfl))) (mvT hZ (hw _ (List.mem_of_getElem? (i := 26) rfl))) (by decide) (backOf (W := 0) (rmc2 l Z a0 hw [] a1 ta (128 : Int32) (191 : Int32) kc B h0 n0 Z0 A_a1 hB (by omega)) hZ (hw _ (List.mem_of_getElem? (i := 26) rfl)) (hw _ (List.mem_of_getElem? (i := 22) rfl)) (by decide) (by decide)) (g := (mkF m 193 #[.val (.ref a1), .val (.int u), .val (.int w), .val (.int ta), .val (.int v4), .val (.int (2 : Int32)), .val (.int (128 : Int32)), .val (.int (191 : Int32))] [(.int (191 : Int32)), (.int (128 : Int32)), (.int (2 : Int32)), (.int ta), (.ref a1)])) rfl (by rw [hml]; rfl) (argsL := [(.ref a1), (.int ta), (.int (2 : Int32)), (.int (128 : Int32)), (.int (191 : Int32))]) (rest := []) (lenOf pd_4 rfl) rfl (by show 2 * 0 + _ ≤ _; exact Nat.le_of_eq rfl) (hb hby dw_193) (fun _ _ => ⟨rfl, e_, (by decide : 0 + 0 ≤ _), (by decide : 0 + 0 ≤ _)⟩)
              dsimp only [Pt.U, Pt.locs, Pt.cells, Pt.slots] at X81 l81 y81 z81 st81 hQ81
              subst y81 z81
              obtain ⟨r_81, rfl, pp81, N81, e81⟩ := hQ81
              have rr_81 := rng32 r_81
              have N81a : Fr n0 L81 := by rw [l81]; exact Fr.app N_ N81
              refine own_by st81 ?_
              show own_Go p e below (Qw Z a1 u w kc B h0 n0) (own_Fr s ({ frames := 1, cells := 0, slots := 0, locals := 24 } : Room).cells ({ frames := 1, cells := 0, slots := 0, locals := 24 } : Room).slots) (T81.setTop (mkF m 196 #[.val (.ref a1), .val (.int u), .val (.int w), .val (.int ta), .val (.int v4), .val (.int (2 : Int32)), .val (.int (128 : Int32)), .val (.int (191 : Int32))] [(.int r_81)]))
              rcases pp81 with ⟨hr81, pp81⟩ | ⟨hr81, pp81⟩
              · obtain rfl : r_81 = (1 : Int32) := Int32.toInt_inj.mp hr81
                refine own_ifYes (pc' := 201) X81 hx (hb hby dw_196) (by decide) (by decide) (by decide) ?_
                refine own_iloadN (pc' := 202) X81 hx rfl (hb hby dw_201) rfl ?_
                refine own_iload (pc' := 204) X81 hx rfl (hb hby dw_202) rfl ?_
                obtain ⟨v84, hv84⟩ : ∃ z, ta + (2 : Int32) = z := ⟨_, rfl⟩
                have f85 : (v84.toInt - (ta.toInt + 2)) % 4294967296 = 0 := by rw [← hv84]; exact c_iadd ta (2 : Int32)
                have rv84 := rng32 v84
                replace f85 : v84.toInt = ta.toInt + 2 := by omega
                refine own_iadd (pc' := 205) X81 hx (z := v84) hv84 (hb hby dw_204) rfl ?_
                refine own_istoreN (pc' := 206) X81 hx #[.val (.ref a1), .val (.int u), .val (.int w), .val (.int v84), .val (.int v4), .val (.int (2 : Int32)), .val (.int (128 : Int32)), .val (.int (191 : Int32))] rfl (hb hby dw_205) rfl ?_
                refine own_goto (pc' := 2) X81 hx (hb hby dw_206) (by decide) (by decide) ?_
                subst hv3
                have hL : own_Lk B w.toInt ta.toInt = 2 := own_L_2 (by unfold own_D2 own_U; omega)
                exact ih T81 _ X81 N81a e81 v84 (.val (.int v4)) (.val (.int (2 : Int32))) (.val (.int (128 : Int32))) (.val (.int (191 : Int32))) (One.val rfl) (One.val rfl) (One.val rfl) (One.val rfl) ⟨by omega, by omega, by omega⟩ (by rw [hW, own_W_on n (by omega) (by rw [hL]; decide), hL, show ta.toInt + 2 = v84.toInt from by omega])
              · obtain rfl : r_81 = (0 : Int32) := Int32.toInt_inj.mp hr81
                refine own_ifNo (pc' := 199) X81 hx (by decide) (hb hby dw_196) rfl ?_
                refine own_iconst (pc' := 200) X81 hx (0 : Int32) (by decide) (hb hby dw_199) rfl ?_
                refine own_ret X81 hx Bd.returns Bd.notSynchronized (Or.inl ⟨rfl, by simp, _, rfl⟩) (hb hby dw_200) rfl (by decide) (by decide) ?_
                show Qw Z a1 u w kc B h0 n0 _ T81.heap _
                rw [e81]
                have kc0 : ((0 : Int32)).toInt = 0 := by decide
                subst hv3
                have hL : own_Lk B w.toInt ta.toInt = 0 := own_L_0 (by unfold own_U; omega) (by unfold own_D2 own_U; omega) (by unfold own_D3 own_U; omega) (by unfold own_D4 own_U; omega)
                exact ⟨(0 : Int32), rfl, ⟨by omega, by rw [hW, own_W_no n (by omega) hL]; rfl⟩, N81a, rfl⟩
      · refine own_icmpYes (pc' := 209) X_ hx (hb hby dw_4) (own_yes_ge rfl rfl b2) (by decide) (by decide) ?_
        refine own_iconst (pc' := 210) X_ hx (1 : Int32) (by decide) (hb hby dw_209) rfl ?_
        refine own_ret X_ hx Bd.returns Bd.notSynchronized (Or.inl ⟨rfl, by simp, _, rfl⟩) (hb hby dw_210) rfl (by decide) (by decide) ?_
        show Qw Z a1 u w kc B h0 n0 _ T_.heap _
        rw [e_]
        have kc0 : ((1 : Int32)).toInt = 1 := by decide
        exact ⟨(1 : Int32), rfl, ⟨by omega, by rw [hW, own_W_end _ (by omega)]; rfl⟩, N_, rfl⟩
  refine own_iloadN (pc' := 1) X0 hx rfl (hb hby dw_0) rfl ?_
  refine own_istoreN (pc' := 2) X0 hx #[.val (.ref a1), .val (.int u), .val (.int w), .val (.int u), .unset, .unset, .unset, .unset] rfl (hb hby dw_1) rfl ?_
  exact loop 6 s₁ _ X0 N0 e0 u .unset .unset .unset .unset One.u One.u One.u One.u ⟨by omega, by omega, by omega⟩ rfl
theorem ef_0 (m : MethodId) (x0 : Int32) (x1 : Int32) (x2 : Int32) : entryFrame m #[(.int x0), (.int x1), (.int x2)] maxLocals = mkF m 0 #[.val (.int x0), .val (.int x1), .val (.int x2), .unset, .unset, .unset, .unset, .unset, .unset, .unset] [] := by first | (simp [entryFrame, mkF, argsToLocals, Value.category, maxLocals]; done) | rfl
def Q0 (Z : State) (p1 : Int32) (p2 : Int32) (p3 : Int32) (h0 : Heap) (n0 : Nat) (v : Option Value) (h : Heap) (L : List Loc) : Prop := v = some (.int 1) ∧ Fr n0 L
set_option maxRecDepth 65536 in
set_option maxHeartbeats 40000000 in
theorem rm0 (l : Launch) (Z : State) (a0 : Array Value) (hw : ∀ d ∈ tables_1, d.before a0 Z = true) (ws : List Jvm.Cond) (p1 : Int32) (p2 : Int32) (p3 : Int32) (h0 : Heap) (n0 : Nat) (Z0 : n0 ≤ h0.size) :
    MetFree l x (head1 (Jvm.Cond.code x code maxLocals ret :: ws) room_1) (fun a U => a = #[(.int p1), (.int p2), (.int p3)] ∧ Z.Warmed39 U.vm ∧ U.heap = h0) (fun _ _ _ _ _ => True) (fun _ U o U' => ∃ v L, o = .returned v ∧ Q0 Z p1 p2 p3 h0 n0 v U'.heap L ∧ FrameEnd U o U' L room_1.cells room_1.slots) := by
  refine MetFree.of_bodySF (plainFor_of_name pn_0) hisR ?_
  intro p e s m args below meth c s₁ Bd hml0 hP hK
  obtain ⟨rfl, hZ, hh⟩ := hP
  have hx := Bd.exec
  have hby := Bd.bytes
  have hml : c.maxLocals = 10 := hml0
  have hown : s.vm.findClass "com/example/bookplate/bookplate/marc/Utf8IsWellFormedPinLaw" = some m.cls := findClass_of_methodNamed Bd.named
  have hnm := (name_of_methodNamed Bd.named Bd.method).1
  have X0 : Stand p l e room_1 s m #[(.int p1), (.int p2), (.int p3)] below meth c s₁ [] 0 0 := Stand.of_body Bd
  have e0 : s₁.heap = h0 := by rw [← hh, Bd.state]; rfl
  have N0 := Fr.nil n0
  change own_Go p e below (Q0 Z p1 p2 p3 h0 n0) (own_Fr s room_1.cells room_1.slots) (s₁.setTop (entryFrame m #[(.int p1), (.int p2), (.int p3)] maxLocals))
  rw [ef_0 m p1 p2 p3]
  have rp1 := rng32 p1
  have rp2 := rng32 p2
  have rp3 := rng32 p3
  refine own_bipush (pc' := 2) X0 hx (6 : Int32) (by decide) (hb hby at_0) rfl ?_
  obtain ⟨T1, h1, cA1, X1, e1, E1, Ar1, st1⟩ := newP X0 hx hZ (hw _ (List.mem_of_getElem? (i := 0) rfl)) e0 (g := (mkF m 2 #[.val (.int p1), .val (.int p2), .val (.int p3), .unset, .unset, .unset, .unset, .unset, .unset, .unset] [(.int (6 : Int32))])) rfl (hb hby at_2) (n := (6 : Int32)) rfl (by decide) (cap := 6) (by decide) (by decide) (by decide) (by decide)
  obtain ⟨a1, ga1⟩ : ∃ z, z = h0.size := ⟨_, rfl⟩
  rw [← ga1] at Ar1 st1
  have fr1 : n0 ≤ a1 := Nat.le_trans Z0 (Nat.le_of_eq ga1.symm)
  have Z2 : n0 ≤ h1.size := Nat.le_trans Z0 E1.1
  have A1 : Arv Z h1 a1 cA1 .byte (6 : Int32) [(.int (0 : Int32)), (.int (0 : Int32)), (.int (0 : Int32)), (.int (0 : Int32)), (.int (0 : Int32)), (.int (0 : Int32))] (.int (0 : Int32)) := (Arv.new Ar1 (by decide)).pad (fun i => pad_rep [] (.int (0 : Int32)) 6 i)
  refine own_by st1 ?_
  show own_Go p e below (Q0 Z p1 p2 p3 h0 n0) (own_Fr s room_1.cells room_1.slots) (T1.setTop (mkF m 4 #[.val (.int p1), .val (.int p2), .val (.int p3), .unset, .unset, .unset, .unset, .unset, .unset, .unset] [(.ref a1)]))
  refine own_astoreN (pc' := 5) X1 hx #[.val (.int p1), .val (.int p2), .val (.int p3), .val (.ref a1), .unset, .unset, .unset, .unset, .unset, .unset] rfl rfl (hb hby at_4) rfl ?_
  refine own_aloadN (pc' := 6) X1 hx rfl rfl (hb hby at_5) rfl ?_
  refine own_iconst (pc' := 7) X1 hx (0 : Int32) (by decide) (hb hby at_6) rfl ?_
  refine own_iloadN (pc' := 8) X1 hx rfl (hb hby at_7) rfl ?_
  obtain ⟨v3, hv3⟩ : ∃ z, p1.toInt8.toInt32 = z := ⟨_, rfl⟩
  have f4 : (v3.toInt - p1.toInt) % 256 = 0 ∧ -128 ≤ v3.toInt ∧ v3.toInt < 128 := by rw [← hv3]; exact c_i2b p1
  refine own_i2b (pc' := 9) X1 hx (z := v3) hv3 (hb hby at_8) rfl ?_
  obtain ⟨c5, B5, q5, s5, u5, H5, G5⟩ := id A1
  obtain ⟨T5, h5, X5, e5, W5, st5⟩ := stB X1 hx hZ e1 B5 (j := (0 : Int32)) (x := v3) (inb_of s5 (by decide)) (g := (mkF m 9 #[.val (.int p1), .val (.int p2), .val (.int p3), .val (.ref a1), .unset, .unset, .unset, .unset, .unset, .unset] [(.int v3), (.int (0 : Int32)), (.ref a1)])) rfl rfl (hb hby at_9)
  have m5 : nar .byte v3 = v3 := own_nb (by omega)
  rw [m5] at W5
  have A5 : Arv Z h5 a1 cA1 .byte (6 : Int32) [(.int v3), (.int (0 : Int32)), (.int (0 : Int32)), (.int (0 : Int32)), (.int (0 : Int32)), (.int (0 : Int32))] (.int (0 : Int32)) := Arv.set B5 q5 s5 u5 H5 G5 (own_fb (by omega)) W5 0 (by decide) (by simp)
  have Z6 : n0 ≤ h5.size := Nat.le_trans Z2 (Nat.le_of_eq W5.size.symm)
  have N7 := Fr.snoc X5 N0 fr1
  refine own_by st5 ?_
  show own_Go p e below (Q0 Z p1 p2 p3 h0 n0) (own_Fr s room_1.cells room_1.slots) (T5.setTop (mkF m 10 #[.val (.int p1), .val (.int p2), .val (.int p3), .val (.ref a1), .unset, .unset, .unset, .unset, .unset, .unset] []))
  refine own_aloadN (pc' := 11) X5 hx rfl rfl (hb hby at_10) rfl ?_
  refine own_iconst (pc' := 12) X5 hx (1 : Int32) (by decide) (hb hby at_11) rfl ?_
  refine own_iloadN (pc' := 13) X5 hx rfl (hb hby at_12) rfl ?_
  refine own_bipush (pc' := 15) X5 hx (8 : Int32) (by decide) (hb hby at_13) rfl ?_
  obtain ⟨v8, hv8⟩ : ∃ z, p1 >>> ((8 : Int32) &&& 31) = z := ⟨_, rfl⟩
  have f9 : v8.toInt = p1.toInt / 256 := by rw [← hv8]; exact c_ishr p1 (8 : Int32) 8 (by decide)
  refine own_ishr (pc' := 16) X5 hx (z := v8) hv8 (hb hby at_15) rfl ?_
  obtain ⟨v10, hv10⟩ : ∃ z, v8.toInt8.toInt32 = z := ⟨_, rfl⟩
  have f11 : (v10.toInt - v8.toInt) % 256 = 0 ∧ -128 ≤ v10.toInt ∧ v10.toInt < 128 := by rw [← hv10]; exact c_i2b v8
  refine own_i2b (pc' := 17) X5 hx (z := v10) hv10 (hb hby at_16) rfl ?_
  obtain ⟨c12, B12, q12, s12, u12, H12, G12⟩ := id A5
  obtain ⟨T12, h12, X12, e12, W12, st12⟩ := stB X5 hx hZ e5 B12 (j := (1 : Int32)) (x := v10) (inb_of s12 (by decide)) (g := (mkF m 17 #[.val (.int p1), .val (.int p2), .val (.int p3), .val (.ref a1), .unset, .unset, .unset, .unset, .unset, .unset] [(.int v10), (.int (1 : Int32)), (.ref a1)])) rfl rfl (hb hby at_17)
  have m12 : nar .byte v10 = v10 := own_nb (by omega)
  rw [m12] at W12
  have A12 : Arv Z h12 a1 cA1 .byte (6 : Int32) [(.int v3), (.int v10), (.int (0 : Int32)), (.int (0 : Int32)), (.int (0 : Int32)), (.int (0 : Int32))] (.int (0 : Int32)) := Arv.set B12 q12 s12 u12 H12 G12 (own_fb (by omega)) W12 1 (by decide) (by simp)
  have Z13 : n0 ≤ h12.size := Nat.le_trans Z6 (Nat.le_of_eq W12.size.symm)
  have N14 := Fr.snoc X12 N7 fr1
  refine own_by st12 ?_
  show own_Go p e below (Q0 Z p1 p2 p3 h0 n0) (own_Fr s room_1.cells room_1.slots) (T12.setTop (mkF m 18 #[.val (.int p1), .val (.int p2), .val (.int p3), .val (.ref a1), .unset, .unset, .unset, .unset, .unset, .unset] []))
  refine own_aloadN (pc' := 19) X12 hx rfl rfl (hb hby at_18) rfl ?_
  refine own_iconst (pc' := 20) X12 hx (2 : Int32) (by decide) (hb hby at_19) rfl ?_
  refine own_iloadN (pc' := 21) X12 hx rfl (hb hby at_20) rfl ?_
  refine own_bipush (pc' := 23) X12 hx (16 : Int32) (by decide) (hb hby at_21) rfl ?_
  obtain ⟨v15, hv15⟩ : ∃ z, p1 >>> ((16 : Int32) &&& 31) = z := ⟨_, rfl⟩
  have f16 : v15.toInt = p1.toInt / 65536 := by rw [← hv15]; exact c_ishr p1 (16 : Int32) 16 (by decide)
  refine own_ishr (pc' := 24) X12 hx (z := v15) hv15 (hb hby at_23) rfl ?_
  obtain ⟨v17, hv17⟩ : ∃ z, v15.toInt8.toInt32 = z := ⟨_, rfl⟩
  have f18 : (v17.toInt - v15.toInt) % 256 = 0 ∧ -128 ≤ v17.toInt ∧ v17.toInt < 128 := by rw [← hv17]; exact c_i2b v15
  refine own_i2b (pc' := 25) X12 hx (z := v17) hv17 (hb hby at_24) rfl ?_
  obtain ⟨c19, B19, q19, s19, u19, H19, G19⟩ := id A12
  obtain ⟨T19, h19, X19, e19, W19, st19⟩ := stB X12 hx hZ e12 B19 (j := (2 : Int32)) (x := v17) (inb_of s19 (by decide)) (g := (mkF m 25 #[.val (.int p1), .val (.int p2), .val (.int p3), .val (.ref a1), .unset, .unset, .unset, .unset, .unset, .unset] [(.int v17), (.int (2 : Int32)), (.ref a1)])) rfl rfl (hb hby at_25)
  have m19 : nar .byte v17 = v17 := own_nb (by omega)
  rw [m19] at W19
  have A19 : Arv Z h19 a1 cA1 .byte (6 : Int32) [(.int v3), (.int v10), (.int v17), (.int (0 : Int32)), (.int (0 : Int32)), (.int (0 : Int32))] (.int (0 : Int32)) := Arv.set B19 q19 s19 u19 H19 G19 (own_fb (by omega)) W19 2 (by decide) (by simp)
  have Z20 : n0 ≤ h19.size := Nat.le_trans Z13 (Nat.le_of_eq W19.size.symm)
  have N21 := Fr.snoc X19 N14 fr1
  refine own_by st19 ?_
  show own_Go p e below (Q0 Z p1 p2 p3 h0 n0) (own_Fr s room_1.cells room_1.slots) (T19.setTop (mkF m 26 #[.val (.int p1), .val (.int p2), .val (.int p3), .val (.ref a1), .unset, .unset, .unset, .unset, .unset, .unset] []))
  refine own_aloadN (pc' := 27) X19 hx rfl rfl (hb hby at_26) rfl ?_
  refine own_iconst (pc' := 28) X19 hx (3 : Int32) (by decide) (hb hby at_27) rfl ?_
  refine own_iloadN (pc' := 29) X19 hx rfl (hb hby at_28) rfl ?_
  refine own_bipush (pc' := 31) X19 hx (24 : Int32) (by decide) (hb hby at_29) rfl ?_
  obtain ⟨v22, hv22⟩ : ∃ z, p1 >>> ((24 : Int32) &&& 31) = z := ⟨_, rfl⟩
  have f23 : v22.toInt = p1.toInt / 16777216 := by rw [← hv22]; exact c_ishr p1 (24 : Int32) 24 (by decide)
  refine own_ishr (pc' := 32) X19 hx (z := v22) hv22 (hb hby at_31) rfl ?_
  obtain ⟨v24, hv24⟩ : ∃ z, v22.toInt8.toInt32 = z := ⟨_, rfl⟩
  have f25 : (v24.toInt - v22.toInt) % 256 = 0 ∧ -128 ≤ v24.toInt ∧ v24.toInt < 128 := by rw [← hv24]; exact c_i2b v22
  replace f25 : v24.toInt = v22.toInt := by omega
  refine own_i2b (pc' := 33) X19 hx (z := v24) hv24 (hb hby at_32) rfl ?_
  obtain ⟨c26, B26, q26, s26, u26, H26, G26⟩ := id A19
  obtain ⟨T26, h26, X26, e26, W26, st26⟩ := stB X19 hx hZ e19 B26 (j := (3 : Int32)) (x := v24) (inb_of s26 (by decide)) (g := (mkF m 33 #[.val (.int p1), .val (.int p2), .val (.int p3), .val (.ref a1), .unset, .unset, .unset, .unset, .unset, .unset] [(.int v24), (.int (3 : Int32)), (.ref a1)])) rfl rfl (hb hby at_33)
  have m26 : nar .byte v24 = v24 := own_nb (by omega)
  rw [m26] at W26
  have A26 : Arv Z h26 a1 cA1 .byte (6 : Int32) [(.int v3), (.int v10), (.int v17), (.int v24), (.int (0 : Int32)), (.int (0 : Int32))] (.int (0 : Int32)) := Arv.set B26 q26 s26 u26 H26 G26 (own_fb (by omega)) W26 3 (by decide) (by simp)
  have Z27 : n0 ≤ h26.size := Nat.le_trans Z20 (Nat.le_of_eq W26.size.symm)
  have N28 := Fr.snoc X26 N21 fr1
  refine own_by st26 ?_
  show own_Go p e below (Q0 Z p1 p2 p3 h0 n0) (own_Fr s room_1.cells room_1.slots) (T26.setTop (mkF m 34 #[.val (.int p1), .val (.int p2), .val (.int p3), .val (.ref a1), .unset, .unset, .unset, .unset, .unset, .unset] []))
  refine own_aloadN (pc' := 35) X26 hx rfl rfl (hb hby at_34) rfl ?_
  refine own_iconst (pc' := 36) X26 hx (4 : Int32) (by decide) (hb hby at_35) rfl ?_
  refine own_iloadN (pc' := 37) X26 hx rfl (hb hby at_36) rfl ?_
  obtain ⟨v29, hv29⟩ : ∃ z, p2.toInt8.toInt32 = z := ⟨_, rfl⟩
  have f30 : (v29.toInt - p2.toInt) % 256 = 0 ∧ -128 ≤ v29.toInt ∧ v29.toInt < 128 := by rw [← hv29]; exact c_i2b p2
  refine own_i2b (pc' := 38) X26 hx (z := v29) hv29 (hb hby at_37) rfl ?_
  obtain ⟨c31, B31, q31, s31, u31, H31, G31⟩ := id A26
  obtain ⟨T31, h31, X31, e31, W31, st31⟩ := stB X26 hx hZ e26 B31 (j := (4 : Int32)) (x := v29) (inb_of s31 (by decide)) (g := (mkF m 38 #[.val (.int p1), .val (.int p2), .val (.int p3), .val (.ref a1), .unset, .unset, .unset, .unset, .unset, .unset] [(.int v29), (.int (4 : Int32)), (.ref a1)])) rfl rfl (hb hby at_38)
  have m31 : nar .byte v29 = v29 := own_nb (by omega)
  rw [m31] at W31
  have A31 : Arv Z h31 a1 cA1 .byte (6 : Int32) [(.int v3), (.int v10), (.int v17), (.int v24), (.int v29), (.int (0 : Int32))] (.int (0 : Int32)) := Arv.set B31 q31 s31 u31 H31 G31 (own_fb (by omega)) W31 4 (by decide) (by simp)
  have Z32 : n0 ≤ h31.size := Nat.le_trans Z27 (Nat.le_of_eq W31.size.symm)
  have N33 := Fr.snoc X31 N28 fr1
  refine own_by st31 ?_
  show own_Go p e below (Q0 Z p1 p2 p3 h0 n0) (own_Fr s room_1.cells room_1.slots) (T31.setTop (mkF m 39 #[.val (.int p1), .val (.int p2), .val (.int p3), .val (.ref a1), .unset, .unset, .unset, .unset, .unset, .unset] []))
  refine own_aloadN (pc' := 40) X31 hx rfl rfl (hb hby at_39) rfl ?_
  refine own_iconst (pc' := 41) X31 hx (5 : Int32) (by decide) (hb hby at_40) rfl ?_
  refine own_iloadN (pc' := 42) X31 hx rfl (hb hby at_41) rfl ?_
  refine own_bipush (pc' := 44) X31 hx (8 : Int32) (by decide) (hb hby at_42) rfl ?_
  obtain ⟨v34, hv34⟩ : ∃ z, p2 >>> ((8 : Int32) &&& 31) = z := ⟨_, rfl⟩
  have f35 : v34.toInt = p2.toInt / 256 := by rw [← hv34]; exact c_ishr p2 (8 : Int32) 8 (by decide)
  refine own_ishr (pc' := 45) X31 hx (z := v34) hv34 (hb hby at_44) rfl ?_
  obtain ⟨v36, hv36⟩ : ∃ z, v34.toInt8.toInt32 = z := ⟨_, rfl⟩
  have f37 : (v36.toInt - v34.toInt) % 256 = 0 ∧ -128 ≤ v36.toInt ∧ v36.toInt < 128 := by rw [← hv36]; exact c_i2b v34
  refine own_i2b (pc' := 46) X31 hx (z := v36) hv36 (hb hby at_45) rfl ?_
  obtain ⟨c38, B38, q38, s38, u38, H38, G38⟩ := id A31
  obtain ⟨T38, h38, X38, e38, W38, st38⟩ := stB X31 hx hZ e31 B38 (j := (5 : Int32)) (x := v36) (inb_of s38 (by decide)) (g := (mkF m 46 #[.val (.int p1), .val (.int p2), .val (.int p3), .val (.ref a1), .unset, .unset, .unset, .unset, .unset, .unset] [(.int v36), (.int (5 : Int32)), (.ref a1)])) rfl rfl (hb hby at_46)
  have m38 : nar .byte v36 = v36 := own_nb (by omega)
  rw [m38] at W38
  have A38 : Arv Z h38 a1 cA1 .byte (6 : Int32) [(.int v3), (.int v10), (.int v17), (.int v24), (.int v29), (.int v36)] (.int (0 : Int32)) := Arv.set B38 q38 s38 u38 H38 G38 (own_fb (by omega)) W38 5 (by decide) (by simp)
  have Z39 : n0 ≤ h38.size := Nat.le_trans Z32 (Nat.le_of_eq W38.size.symm)
  have N40 := Fr.snoc X38 N33 fr1
  refine own_by st38 ?_
  show own_Go p e below (Q0 Z p1 p2 p3 h0 n0) (own_Fr s room_1.cells room_1.slots) (T38.setTop (mkF m 47 #[.val (.int p1), .val (.int p2), .val (.int p3), .val (.ref a1), .unset, .unset, .unset, .unset, .unset, .unset] []))
  refine own_iloadN (pc' := 48) X38 hx rfl (hb hby at_47) rfl ?_
  refine own_ldcInt (pc' := 50) X38 hx hZ hown (hw _ (List.mem_of_getElem? (i := 1) rfl)) (hb hby at_48) rfl ?_
  obtain ⟨v41, hv41⟩ : ∃ z, p3 &&& (2147483647 : Int32) = z := ⟨_, rfl⟩
  have f42 : v41.toInt = p3.toInt % 2147483648 := by rw [← hv41]; exact c_mask p3 (2147483647 : Int32) 31 (by decide) (by decide)
  refine own_iand (pc' := 51) X38 hx (z := v41) hv41 (hb hby at_50) rfl ?_
  refine own_bipush (pc' := 53) X38 hx (7 : Int32) (by decide) (hb hby at_51) rfl ?_
  obtain ⟨v43, hv43⟩ : ∃ z, v41 % (7 : Int32) = z := ⟨_, rfl⟩
  have f44 : v43.toInt = v41.toInt % 7 := by rw [← hv43]; exact (c_irem v41 (7 : Int32) 7 (by decide)).1 (by omega)
  refine own_irem (pc' := 54) X38 hx (z := v43) (by decide) hv43 (hb hby at_53) rfl ?_
  refine own_istore (pc' := 56) X38 hx #[.val (.int p1), .val (.int p2), .val (.int p3), .val (.ref a1), .val (.int v43), .unset, .unset, .unset, .unset, .unset] rfl (hb hby at_54) rfl ?_
  refine own_iloadN (pc' := 57) X38 hx rfl (hb hby at_56) rfl ?_
  refine own_bipush (pc' := 59) X38 hx (8 : Int32) (by decide) (hb hby at_57) rfl ?_
  obtain ⟨v45, hv45⟩ : ∃ z, (p3.toUInt32 >>> ((8 : Int32) &&& 31).toUInt32).toInt32 = z := ⟨_, rfl⟩
  have f46 : v45.toInt = (p3.toInt % 4294967296) / 256 := by rw [← hv45]; exact c_iushr p3 (8 : Int32) 8 (by decide) (by decide)
  refine own_iushr (pc' := 60) X38 hx (z := v45) hv45 (hb hby at_59) rfl ?_
  refine own_ldcInt (pc' := 62) X38 hx hZ hown (hw _ (List.mem_of_getElem? (i := 1) rfl)) (hb hby at_60) rfl ?_
  obtain ⟨v47, hv47⟩ : ∃ z, v45 &&& (2147483647 : Int32) = z := ⟨_, rfl⟩
  have f48 : v47.toInt = v45.toInt % 2147483648 := by rw [← hv47]; exact c_mask v45 (2147483647 : Int32) 31 (by decide) (by decide)
  refine own_iand (pc' := 63) X38 hx (z := v47) hv47 (hb hby at_62) rfl ?_
  refine own_bipush (pc' := 65) X38 hx (7 : Int32) (by decide) (hb hby at_63) rfl ?_
  obtain ⟨v49, hv49⟩ : ∃ z, v47 % (7 : Int32) = z := ⟨_, rfl⟩
  have f50 : v49.toInt = v47.toInt % 7 := by rw [← hv49]; exact (c_irem v47 (7 : Int32) 7 (by decide)).1 (by omega)
  refine own_irem (pc' := 66) X38 hx (z := v49) (by decide) hv49 (hb hby at_65) rfl ?_
  refine own_istore (pc' := 68) X38 hx #[.val (.int p1), .val (.int p2), .val (.int p3), .val (.ref a1), .val (.int v43), .val (.int v49), .unset, .unset, .unset, .unset] rfl (hb hby at_66) rfl ?_
  refine own_iload (pc' := 70) X38 hx rfl (hb hby at_68) rfl ?_
  refine own_iload (pc' := 72) X38 hx rfl (hb hby at_70) rfl ?_
  obtain ⟨_, _, ⟨T51, L51, k51, n51⟩, -, X51, ⟨Lc51, hQ51, l51, y51, z51⟩, st51⟩ := Jvm.LawKit.callS X38 hx (y := (⟨"java/lang/Math", "min", "(II)I"⟩ : MethodName)) hown (mvT hZ (hw _ (List.mem_of_getElem? (i := 2) rfl))) (mvT hZ (hw _ (List.mem_of_getElem? (i := 3) rfl))) (mvT hZ (hw _ (List.mem_of_getElem? (i := 4) rfl))) (mvT hZ (hw _ (List.mem_of_getElem? (i := 5) rfl))) (by decide) (backOf (W := 0) (rmm l Z a0 hw [] v43 v49 h38 n0 Z39 ) hZ (hw _ (List.mem_of_getElem? (i := 5) rfl)) (hw _ (List.mem_of_getElem? (i := 4) rfl)) (by decide) (by decide)) (g := (mkF m 72 #[.val (.int p1), .val (.int p2), .val (.int p3), .val (.ref a1), .val (.int v43), .val (.int v49), .unset, .unset, .unset, .unset] [(.int v49), (.int v43)])) rfl (by rw [hml]; rfl) (argsL := [(.int v43), (.int v49)]) (rest := []) (lenOf pd_0 rfl) rfl (by show 2 * 0 + _ ≤ _; exact Nat.le_of_eq rfl) (hb hby at_72) (fun _ _ => ⟨rfl, e38, (by decide : 1 + 0 ≤ _), (by decide : 6 + 0 ≤ _)⟩)
  dsimp only [Pt.U, Pt.locs, Pt.cells, Pt.slots] at X51 l51 y51 z51 st51 hQ51
  subst y51 z51
  obtain ⟨o51, rfl, pp51, N51, e51⟩ := hQ51
  have N51a : Fr n0 L51 := by rw [l51]; exact Fr.app N40 N51
  refine own_by st51 ?_
  show own_Go p e below (Q0 Z p1 p2 p3 h0 n0) (own_Fr s room_1.cells room_1.slots) (T51.setTop (mkF m 75 #[.val (.int p1), .val (.int p2), .val (.int p3), .val (.ref a1), .val (.int v43), .val (.int v49), .unset, .unset, .unset, .unset] [(.int o51)]))
  refine own_istore (pc' := 77) X51 hx #[.val (.int p1), .val (.int p2), .val (.int p3), .val (.ref a1), .val (.int v43), .val (.int v49), .val (.int o51), .unset, .unset, .unset] rfl (hb hby at_75) rfl ?_
  refine own_iload (pc' := 79) X51 hx rfl (hb hby at_77) rfl ?_
  refine own_iload (pc' := 81) X51 hx rfl (hb hby at_79) rfl ?_
  obtain ⟨_, _, ⟨T52, L52, k52, n52⟩, -, X52, ⟨Lc52, hQ52, l52, y52, z52⟩, st52⟩ := Jvm.LawKit.callS X51 hx (y := (⟨"java/lang/Math", "max", "(II)I"⟩ : MethodName)) hown (mvT hZ (hw _ (List.mem_of_getElem? (i := 6) rfl))) (mvT hZ (hw _ (List.mem_of_getElem? (i := 7) rfl))) (mvT hZ (hw _ (List.mem_of_getElem? (i := 4) rfl))) (mvT hZ (hw _ (List.mem_of_getElem? (i := 8) rfl))) (by decide) (backOf (W := 0) (rmM l Z a0 hw [] v43 v49 h38 n0 Z39 ) hZ (hw _ (List.mem_of_getElem? (i := 8) rfl)) (hw _ (List.mem_of_getElem? (i := 4) rfl)) (by decide) (by decide)) (g := (mkF m 81 #[.val (.int p1), .val (.int p2), .val (.int p3), .val (.ref a1), .val (.int v43), .val (.int v49), .val (.int o51), .unset, .unset, .unset] [(.int v49), (.int v43)])) rfl (by rw [hml]; rfl) (argsL := [(.int v43), (.int v49)]) (rest := []) (lenOf pd_0 rfl) rfl (by show 2 * 0 + _ ≤ _; exact Nat.le_of_eq rfl) (hb hby at_81) (fun _ _ => ⟨rfl, e51, (by decide : 1 + 0 ≤ _), (by decide : 6 + 0 ≤ _)⟩)
  dsimp only [Pt.U, Pt.locs, Pt.cells, Pt.slots] at X52 l52 y52 z52 st52 hQ52
  subst y52 z52
  obtain ⟨o52, rfl, pp52, N52, e52⟩ := hQ52
  have N52a : Fr n0 L52 := by rw [l52]; exact Fr.app N51a N52
  refine own_by st52 ?_
  show own_Go p e below (Q0 Z p1 p2 p3 h0 n0) (own_Fr s room_1.cells room_1.slots) (T52.setTop (mkF m 84 #[.val (.int p1), .val (.int p2), .val (.int p3), .val (.ref a1), .val (.int v43), .val (.int v49), .val (.int o51), .unset, .unset, .unset] [(.int o52)]))
  refine own_istore (pc' := 86) X52 hx #[.val (.int p1), .val (.int p2), .val (.int p3), .val (.ref a1), .val (.int v43), .val (.int v49), .val (.int o51), .val (.int o52), .unset, .unset] rfl (hb hby at_84) rfl ?_
  have hft : 0 ≤ o51.toInt ∧ o51.toInt ≤ o52.toInt ∧ o52.toInt ≤ 6 := by omega
  have hb0 : -128 ≤ v3.toInt ∧ v3.toInt < 128 := by omega
  have hb1 : -128 ≤ v10.toInt ∧ v10.toInt < 128 := by omega
  have hb2 : -128 ≤ v17.toInt ∧ v17.toInt < 128 := by omega
  have hb3 : -128 ≤ v24.toInt ∧ v24.toInt < 128 := by omega
  have hb4 : -128 ≤ v29.toInt ∧ v29.toInt < 128 := by omega
  have hb5 : -128 ≤ v36.toInt ∧ v36.toInt < 128 := by omega
  clear f4 f9 f11 f16 f18 f23 f25 f30 f35 f37 f42 f44 f46 f48 f50 pp51 pp52
  refine own_bipush (pc' := 88) X52 hx (7 : Int32) (by decide) (hb hby at_86) rfl ?_
  obtain ⟨T53, h53, cA53, X53, e53, E53, Ar53, st53⟩ := newP X52 hx hZ (hw _ (List.mem_of_getElem? (i := 9) rfl)) e52 (g := (mkF m 88 #[.val (.int p1), .val (.int p2), .val (.int p3), .val (.ref a1), .val (.int v43), .val (.int v49), .val (.int o51), .val (.int o52), .unset, .unset] [(.int (7 : Int32))])) rfl (hb hby at_88) (n := (7 : Int32)) rfl (by decide) (cap := 7) (by decide) (by decide) (by decide) (by decide)
  obtain ⟨a53, ga53⟩ : ∃ z, z = h38.size := ⟨_, rfl⟩
  rw [← ga53] at Ar53 st53
  have n54 : a1 ≠ a53 := Nat.ne_of_lt (ga53.symm ▸ A38.lt)
  have A55 : Arv Z h53 a1 cA1 .byte (6 : Int32) [(.int v3), (.int v10), (.int v17), (.int v24), (.int v29), (.int v36)] (.int (0 : Int32)) := A38.ext E53
  have fr53 : n0 ≤ a53 := Nat.le_trans Z39 (Nat.le_of_eq ga53.symm)
  have Z56 : n0 ≤ h53.size := Nat.le_trans Z39 E53.1
  have A53 : Arv Z h53 a53 cA53 .boolean (7 : Int32) [(.int (0 : Int32)), (.int (0 : Int32)), (.int (0 : Int32)), (.int (0 : Int32)), (.int (0 : Int32)), (.int (0 : Int32)), (.int (0 : Int32))] (.int (0 : Int32)) := (Arv.new Ar53 (by decide)).pad (fun i => pad_rep [] (.int (0 : Int32)) 7 i)
  refine own_by st53 ?_
  show own_Go p e below (Q0 Z p1 p2 p3 h0 n0) (own_Fr s room_1.cells room_1.slots) (T53.setTop (mkF m 90 #[.val (.int p1), .val (.int p2), .val (.int p3), .val (.ref a1), .val (.int v43), .val (.int v49), .val (.int o51), .val (.int o52), .unset, .unset] [(.ref a53)]))
  refine own_astore (pc' := 92) X53 hx #[.val (.int p1), .val (.int p2), .val (.int p3), .val (.ref a1), .val (.int v43), .val (.int v49), .val (.int o51), .val (.int o52), .val (.ref a53), .unset] rfl rfl (hb hby at_90) rfl ?_
  refine own_aload (pc' := 94) X53 hx rfl rfl (hb hby at_92) rfl ?_
  refine own_bipush (pc' := 96) X53 hx (6 : Int32) (by decide) (hb hby at_94) rfl ?_
  refine own_aloadN (pc' := 97) X53 hx rfl rfl (hb hby at_96) rfl ?_
  refine own_bipush (pc' := 99) X53 hx (6 : Int32) (by decide) (hb hby at_97) rfl ?_
  refine own_iload (pc' := 101) X53 hx rfl (hb hby at_99) rfl ?_
  refine own_aload (pc' := 103) X53 hx rfl rfl (hb hby at_101) rfl ?_
  have kq58 : (6 : Int32).toInt = 6 := by decide
  obtain ⟨_, _, ⟨T57, L57, k57, n57⟩, -, X57, ⟨Lc57, hQ57, l57, y57, z57⟩, st57⟩ := Jvm.LawKit.callS X53 hx (y := (⟨"com/example/bookplate/bookplate/marc/Utf8IsWellFormedPinLaw", "next", "([BII[Z)Z"⟩ : MethodName)) hown (mvT hZ (hw _ (List.mem_of_getElem? (i := 10) rfl))) (mvT hZ (hw _ (List.mem_of_getElem? (i := 11) rfl))) (mvT hZ (hw _ (List.mem_of_getElem? (i := 12) rfl))) (mvT hZ (hw _ (List.mem_of_getElem? (i := 13) rfl))) (by decide) (backOf (W := 2) (rmn l Z a0 hw [] a1 (6 : Int32) o52 a53 cA1 cA53 (own_sel6 v3 v10 v17 v24 v29 v36) (own_sel7 (0 : Int32) (0 : Int32) (0 : Int32) (0 : Int32) (0 : Int32) (0 : Int32) (0 : Int32)) h53 n0 Z56 A55 A53 (own_sel6_r (P := fun z => -128 ≤ z.toInt ∧ z.toInt < 128) (show -128 ≤ v3.toInt ∧ v3.toInt < 128 by omega) (show -128 ≤ v10.toInt ∧ v10.toInt < 128 by omega) (show -128 ≤ v17.toInt ∧ v17.toInt < 128 by omega) (show -128 ≤ v24.toInt ∧ v24.toInt < 128 by omega) (show -128 ≤ v29.toInt ∧ v29.toInt < 128 by omega) (show -128 ≤ v36.toInt ∧ v36.toInt < 128 by omega)) (own_sel7_r (P := fun z => z.toInt = 0 ∨ z.toInt = 1) (show (0 : Int32).toInt = 0 ∨ (0 : Int32).toInt = 1 by decide) (show (0 : Int32).toInt = 0 ∨ (0 : Int32).toInt = 1 by decide) (show (0 : Int32).toInt = 0 ∨ (0 : Int32).toInt = 1 by decide) (show (0 : Int32).toInt = 0 ∨ (0 : Int32).toInt = 1 by decide) (show (0 : Int32).toInt = 0 ∨ (0 : Int32).toInt = 1 by decide) (show (0 : Int32).toInt = 0 ∨ (0 : Int32).toInt = 1 by decide) (show (0 : Int32).toInt = 0 ∨ (0 : Int32).toInt = 1 by decide)) (by omega)) hZ (hw _ (List.mem_of_getElem? (i := 13) rfl)) (hw _ (List.mem_of_getElem? (i := 12) rfl)) (by decide) (by decide)) (g := (mkF m 103 #[.val (.int p1), .val (.int p2), .val (.int p3), .val (.ref a1), .val (.int v43), .val (.int v49), .val (.int o51), .val (.int o52), .val (.ref a53), .unset] [(.ref a53), (.int o52), (.int (6 : Int32)), (.ref a1), (.int (6 : Int32)), (.ref a53)])) rfl (by rw [hml]; rfl) (argsL := [(.ref a1), (.int (6 : Int32)), (.int o52), (.ref a53)]) (rest := [(.int (6 : Int32)), (.ref a53)]) (lenOf pd_3 rfl) rfl (by show 2 * 0 + _ ≤ _; exact Nat.le_of_eq rfl) (hb hby at_103) (fun _ _ => ⟨rfl, e53, (by decide : 2 + 0 ≤ _), (by decide : 13 + 0 ≤ _)⟩)
  dsimp only [Pt.U, Pt.locs, Pt.cells, Pt.slots] at X57 l57 y57 z57 st57 hQ57
  subst y57 z57
  obtain ⟨r_57, rfl, pp57, N57, e57⟩ := hQ57
  have rr_57 := rng32 r_57
  have N57a : Fr n0 L57 := by rw [l57]; exact Fr.app N52a N57
  refine own_by st57 ?_
  show own_Go p e below (Q0 Z p1 p2 p3 h0 n0) (own_Fr s room_1.cells room_1.slots) (T57.setTop (mkF m 106 #[.val (.int p1), .val (.int p2), .val (.int p3), .val (.ref a1), .val (.int v43), .val (.int v49), .val (.int o51), .val (.int o52), .val (.ref a53), .unset] [(.int r_57), (.int (6 : Int32)), (.ref a53)]))
  obtain ⟨c59, B59, q59, s59, u59, H59, G59⟩ := id A53
  obtain ⟨T59, h59, X59, e59, W59, st59⟩ := stZ X57 hx hZ e57 B59 (j := (6 : Int32)) (x := r_57) (inb_of s59 (by decide)) (g := (mkF m 106 #[.val (.int p1), .val (.int p2), .val (.int p3), .val (.ref a1), .val (.int v43), .val (.int v49), .val (.int o51), .val (.int o52), .val (.ref a53), .unset] [(.int r_57), (.int (6 : Int32)), (.ref a53)])) rfl rfl (hb hby at_106)
  have m59 : nar .boolean r_57 = r_57 := own_nbool (by omega)
  rw [m59] at W59
  have A59 : Arv Z h59 a53 cA53 .boolean (7 : Int32) [(.int (0 : Int32)), (.int (0 : Int32)), (.int (0 : Int32)), (.int (0 : Int32)), (.int (0 : Int32)), (.int (0 : Int32)), (.int r_57)] (.int (0 : Int32)) := Arv.set B59 q59 s59 u59 H59 G59 (own_fbool (by omega)) W59 6 (by decide) (by simp)
  have A60 : Arv Z h59 a1 cA1 .byte (6 : Int32) [(.int v3), (.int v10), (.int v17), (.int v24), (.int v29), (.int v36)] (.int (0 : Int32)) := A55.other W59 n54
  have Z61 : n0 ≤ h59.size := Nat.le_trans Z56 (Nat.le_of_eq W59.size.symm)
  have N62 := Fr.snoc X59 N57a fr53
  refine own_by st59 ?_
  show own_Go p e below (Q0 Z p1 p2 p3 h0 n0) (own_Fr s room_1.cells room_1.slots) (T59.setTop (mkF m 107 #[.val (.int p1), .val (.int p2), .val (.int p3), .val (.ref a1), .val (.int v43), .val (.int v49), .val (.int o51), .val (.int o52), .val (.ref a53), .unset] []))
  refine own_aload (pc' := 109) X59 hx rfl rfl (hb hby at_107) rfl ?_
  refine own_iconst (pc' := 110) X59 hx (5 : Int32) (by decide) (hb hby at_109) rfl ?_
  refine own_aloadN (pc' := 111) X59 hx rfl rfl (hb hby at_110) rfl ?_
  refine own_iconst (pc' := 112) X59 hx (5 : Int32) (by decide) (hb hby at_111) rfl ?_
  refine own_iload (pc' := 114) X59 hx rfl (hb hby at_112) rfl ?_
  refine own_aload (pc' := 116) X59 hx rfl rfl (hb hby at_114) rfl ?_
  have kq64 : (5 : Int32).toInt = 5 := by decide
  obtain ⟨_, _, ⟨T63, L63, k63, n63⟩, -, X63, ⟨Lc63, hQ63, l63, y63, z63⟩, st63⟩ := Jvm.LawKit.callS X59 hx (y := (⟨"com/example/bookplate/bookplate/marc/Utf8IsWellFormedPinLaw", "next", "([BII[Z)Z"⟩ : MethodName)) hown (mvT hZ (hw _ (List.mem_of_getElem? (i := 10) rfl))) (mvT hZ (hw _ (List.mem_of_getElem? (i := 11) rfl))) (mvT hZ (hw _ (List.mem_of_getElem? (i := 12) rfl))) (mvT hZ (hw _ (List.mem_of_getElem? (i := 13) rfl))) (by decide) (backOf (W := 2) (rmn l Z a0 hw [] a1 (5 : Int32) o52 a53 cA1 cA53 (own_sel6 v3 v10 v17 v24 v29 v36) (own_sel7 (0 : Int32) (0 : Int32) (0 : Int32) (0 : Int32) (0 : Int32) (0 : Int32) r_57) h59 n0 Z61 A60 A59 (own_sel6_r (P := fun z => -128 ≤ z.toInt ∧ z.toInt < 128) (show -128 ≤ v3.toInt ∧ v3.toInt < 128 by omega) (show -128 ≤ v10.toInt ∧ v10.toInt < 128 by omega) (show -128 ≤ v17.toInt ∧ v17.toInt < 128 by omega) (show -128 ≤ v24.toInt ∧ v24.toInt < 128 by omega) (show -128 ≤ v29.toInt ∧ v29.toInt < 128 by omega) (show -128 ≤ v36.toInt ∧ v36.toInt < 128 by omega)) (own_sel7_r (P := fun z => z.toInt = 0 ∨ z.toInt = 1) (show (0 : Int32).toInt = 0 ∨ (0 : Int32).toInt = 1 by decide) (show (0 : Int32).toInt = 0 ∨ (0 : Int32).toInt = 1 by decide) (show (0 : Int32).toInt = 0 ∨ (0 : Int32).toInt = 1 by decide) (show (0 : Int32).toInt = 0 ∨ (0 : Int32).toInt = 1 by decide) (show (0 : Int32).toInt = 0 ∨ (0 : Int32).toInt = 1 by decide) (show (0 : Int32).toInt = 0 ∨ (0 : Int32).toInt = 1 by decide) (show r_57.toInt = 0 ∨ r_57.toInt = 1 by omega)) (by omega)) hZ (hw _ (List.mem_of_getElem? (i := 13) rfl)) (hw _ (List.mem_of_getElem? (i := 12) rfl)) (by decide) (by decide)) (g := (mkF m 116 #[.val (.int p1), .val (.int p2), .val (.int p3), .val (.ref a1), .val (.int v43), .val (.int v49), .val (.int o51), .val (.int o52), .val (.ref a53), .unset] [(.ref a53), (.int o52), (.int (5 : Int32)), (.ref a1), (.int (5 : Int32)), (.ref a53)])) rfl (by rw [hml]; rfl) (argsL := [(.ref a1), (.int (5 : Int32)), (.int o52), (.ref a53)]) (rest := [(.int (5 : Int32)), (.ref a53)]) (lenOf pd_3 rfl) rfl (by show 2 * 0 + _ ≤ _; exact Nat.le_of_eq rfl) (hb hby at_116) (fun _ _ => ⟨rfl, e59, (by decide : 2 + 0 ≤ _), (by decide : 13 + 0 ≤ _)⟩)
  dsimp only [Pt.U, Pt.locs, Pt.cells, Pt.slots] at X63 l63 y63 z63 st63 hQ63
  subst y63 z63
  obtain ⟨r_63, rfl, pp63, N63, e63⟩ := hQ63
  have rr_63 := rng32 r_63
  have N63a : Fr n0 L63 := by rw [l63]; exact Fr.app N62 N63
  refine own_by st63 ?_
  show own_Go p e below (Q0 Z p1 p2 p3 h0 n0) (own_Fr s room_1.cells room_1.slots) (T63.setTop (mkF m 119 #[.val (.int p1), .val (.int p2), .val (.int p3), .val (.ref a1), .val (.int v43), .val (.int v49), .val (.int o51), .val (.int o52), .val (.ref a53), .unset] [(.int r_63), (.int (5 : Int32)), (.ref a53)]))
  obtain ⟨c65, B65, q65, s65, u65, H65, G65⟩ := id A59
  obtain ⟨T65, h65, X65, e65, W65, st65⟩ := stZ X63 hx hZ e63 B65 (j := (5 : Int32)) (x := r_63) (inb_of s65 (by decide)) (g := (mkF m 119 #[.val (.int p1), .val (.int p2), .val (.int p3), .val (.ref a1), .val (.int v43), .val (.int v49), .val (.int o51), .val (.int o52), .val (.ref a53), .unset] [(.int r_63), (.int (5 : Int32)), (.ref a53)])) rfl rfl (hb hby at_119)
  have m65 : nar .boolean r_63 = r_63 := own_nbool (by omega)
  rw [m65] at W65
  have A65 : Arv Z h65 a53 cA53 .boolean (7 : Int32) [(.int (0 : Int32)), (.int (0 : Int32)), (.int (0 : Int32)), (.int (0 : Int32)), (.int (0 : Int32)), (.int r_63), (.int r_57)] (.int (0 : Int32)) := Arv.set B65 q65 s65 u65 H65 G65 (own_fbool (by omega)) W65 5 (by decide) (by simp)
  have A66 : Arv Z h65 a1 cA1 .byte (6 : Int32) [(.int v3), (.int v10), (.int v17), (.int v24), (.int v29), (.int v36)] (.int (0 : Int32)) := A60.other W65 n54
  have Z67 : n0 ≤ h65.size := Nat.le_trans Z61 (Nat.le_of_eq W65.size.symm)
  have N68 := Fr.snoc X65 N63a fr53
  refine own_by st65 ?_
  show own_Go p e below (Q0 Z p1 p2 p3 h0 n0) (own_Fr s room_1.cells room_1.slots) (T65.setTop (mkF m 120 #[.val (.int p1), .val (.int p2), .val (.int p3), .val (.ref a1), .val (.int v43), .val (.int v49), .val (.int o51), .val (.int o52), .val (.ref a53), .unset] []))
  refine own_aload (pc' := 122) X65 hx rfl rfl (hb hby at_120) rfl ?_
  refine own_iconst (pc' := 123) X65 hx (4 : Int32) (by decide) (hb hby at_122) rfl ?_
  refine own_aloadN (pc' := 124) X65 hx rfl rfl (hb hby at_123) rfl ?_
  refine own_iconst (pc' := 125) X65 hx (4 : Int32) (by decide) (hb hby at_124) rfl ?_
  refine own_iload (pc' := 127) X65 hx rfl (hb hby at_125) rfl ?_
  refine own_aload (pc' := 129) X65 hx rfl rfl (hb hby at_127) rfl ?_
  have kq70 : (4 : Int32).toInt = 4 := by decide
  obtain ⟨_, _, ⟨T69, L69, k69, n69⟩, -, X69, ⟨Lc69, hQ69, l69, y69, z69⟩, st69⟩ := Jvm.LawKit.callS X65 hx (y := (⟨"com/example/bookplate/bookplate/marc/Utf8IsWellFormedPinLaw", "next", "([BII[Z)Z"⟩ : MethodName)) hown (mvT hZ (hw _ (List.mem_of_getElem? (i := 10) rfl))) (mvT hZ (hw _ (List.mem_of_getElem? (i := 11) rfl))) (mvT hZ (hw _ (List.mem_of_getElem? (i := 12) rfl))) (mvT hZ (hw _ (List.mem_of_getElem? (i := 13) rfl))) (by decide) (backOf (W := 2) (rmn l Z a0 hw [] a1 (4 : Int32) o52 a53 cA1 cA53 (own_sel6 v3 v10 v17 v24 v29 v36) (own_sel7 (0 : Int32) (0 : Int32) (0 : Int32) (0 : Int32) (0 : Int32) r_63 r_57) h65 n0 Z67 A66 A65 (own_sel6_r (P := fun z => -128 ≤ z.toInt ∧ z.toInt < 128) (show -128 ≤ v3.toInt ∧ v3.toInt < 128 by omega) (show -128 ≤ v10.toInt ∧ v10.toInt < 128 by omega) (show -128 ≤ v17.toInt ∧ v17.toInt < 128 by omega) (show -128 ≤ v24.toInt ∧ v24.toInt < 128 by omega) (show -128 ≤ v29.toInt ∧ v29.toInt < 128 by omega) (show -128 ≤ v36.toInt ∧ v36.toInt < 128 by omega)) (own_sel7_r (P := fun z => z.toInt = 0 ∨ z.toInt = 1) (show (0 : Int32).toInt = 0 ∨ (0 : Int32).toInt = 1 by decide) (show (0 : Int32).toInt = 0 ∨ (0 : Int32).toInt = 1 by decide) (show (0 : Int32).toInt = 0 ∨ (0 : Int32).toInt = 1 by decide) (show (0 : Int32).toInt = 0 ∨ (0 : Int32).toInt = 1 by decide) (show (0 : Int32).toInt = 0 ∨ (0 : Int32).toInt = 1 by decide) (show r_63.toInt = 0 ∨ r_63.toInt = 1 by omega) (show r_57.toInt = 0 ∨ r_57.toInt = 1 by omega)) (by omega)) hZ (hw _ (List.mem_of_getElem? (i := 13) rfl)) (hw _ (List.mem_of_getElem? (i := 12) rfl)) (by decide) (by decide)) (g := (mkF m 129 #[.val (.int p1), .val (.int p2), .val (.int p3), .val (.ref a1), .val (.int v43), .val (.int v49), .val (.int o51), .val (.int o52), .val (.ref a53), .unset] [(.ref a53), (.int o52), (.int (4 : Int32)), (.ref a1), (.int (4 : Int32)), (.ref a53)])) rfl (by rw [hml]; rfl) (argsL := [(.ref a1), (.int (4 : Int32)), (.int o52), (.ref a53)]) (rest := [(.int (4 : Int32)), (.ref a53)]) (lenOf pd_3 rfl) rfl (by show 2 * 0 + _ ≤ _; exact Nat.le_of_eq rfl) (hb hby at_129) (fun _ _ => ⟨rfl, e65, (by decide : 2 + 0 ≤ _), (by decide : 13 + 0 ≤ _)⟩)
  dsimp only [Pt.U, Pt.locs, Pt.cells, Pt.slots] at X69 l69 y69 z69 st69 hQ69
  subst y69 z69
  obtain ⟨r_69, rfl, pp69, N69, e69⟩ := hQ69
  have rr_69 := rng32 r_69
  have N69a : Fr n0 L69 := by rw [l69]; exact Fr.app N68 N69
  refine own_by st69 ?_
  show own_Go p e below (Q0 Z p1 p2 p3 h0 n0) (own_Fr s room_1.cells room_1.slots) (T69.setTop (mkF m 132 #[.val (.int p1), .val (.int p2), .val (.int p3), .val (.ref a1), .val (.int v43), .val (.int v49), .val (.int o51), .val (.int o52), .val (.ref a53), .unset] [(.int r_69), (.int (4 : Int32)), (.ref a53)]))
  obtain ⟨c71, B71, q71, s71, u71, H71, G71⟩ := id A65
  obtain ⟨T71, h71, X71, e71, W71, st71⟩ := stZ X69 hx hZ e69 B71 (j := (4 : Int32)) (x := r_69) (inb_of s71 (by decide)) (g := (mkF m 132 #[.val (.int p1), .val (.int p2), .val (.int p3), .val (.ref a1), .val (.int v43), .val (.int v49), .val (.int o51), .val (.int o52), .val (.ref a53), .unset] [(.int r_69), (.int (4 : Int32)), (.ref a53)])) rfl rfl (hb hby at_132)
  have m71 : nar .boolean r_69 = r_69 := own_nbool (by omega)
  rw [m71] at W71
  have A71 : Arv Z h71 a53 cA53 .boolean (7 : Int32) [(.int (0 : Int32)), (.int (0 : Int32)), (.int (0 : Int32)), (.int (0 : Int32)), (.int r_69), (.int r_63), (.int r_57)] (.int (0 : Int32)) := Arv.set B71 q71 s71 u71 H71 G71 (own_fbool (by omega)) W71 4 (by decide) (by simp)
  have A72 : Arv Z h71 a1 cA1 .byte (6 : Int32) [(.int v3), (.int v10), (.int v17), (.int v24), (.int v29), (.int v36)] (.int (0 : Int32)) := A66.other W71 n54
  have Z73 : n0 ≤ h71.size := Nat.le_trans Z67 (Nat.le_of_eq W71.size.symm)
  have N74 := Fr.snoc X71 N69a fr53
  refine own_by st71 ?_
  show own_Go p e below (Q0 Z p1 p2 p3 h0 n0) (own_Fr s room_1.cells room_1.slots) (T71.setTop (mkF m 133 #[.val (.int p1), .val (.int p2), .val (.int p3), .val (.ref a1), .val (.int v43), .val (.int v49), .val (.int o51), .val (.int o52), .val (.ref a53), .unset] []))
  refine own_aload (pc' := 135) X71 hx rfl rfl (hb hby at_133) rfl ?_
  refine own_iconst (pc' := 136) X71 hx (3 : Int32) (by decide) (hb hby at_135) rfl ?_
  refine own_aloadN (pc' := 137) X71 hx rfl rfl (hb hby at_136) rfl ?_
  refine own_iconst (pc' := 138) X71 hx (3 : Int32) (by decide) (hb hby at_137) rfl ?_
  refine own_iload (pc' := 140) X71 hx rfl (hb hby at_138) rfl ?_
  refine own_aload (pc' := 142) X71 hx rfl rfl (hb hby at_140) rfl ?_
  have kq76 : (3 : Int32).toInt = 3 := by decide
  obtain ⟨_, _, ⟨T75, L75, k75, n75⟩, -, X75, ⟨Lc75, hQ75, l75, y75, z75⟩, st75⟩ := Jvm.LawKit.callS X71 hx (y := (⟨"com/example/bookplate/bookplate/marc/Utf8IsWellFormedPinLaw", "next", "([BII[Z)Z"⟩ : MethodName)) hown (mvT hZ (hw _ (List.mem_of_getElem? (i := 10) rfl))) (mvT hZ (hw _ (List.mem_of_getElem? (i := 11) rfl))) (mvT hZ (hw _ (List.mem_of_getElem? (i := 12) rfl))) (mvT hZ (hw _ (List.mem_of_getElem? (i := 13) rfl))) (by decide) (backOf (W := 2) (rmn l Z a0 hw [] a1 (3 : Int32) o52 a53 cA1 cA53 (own_sel6 v3 v10 v17 v24 v29 v36) (own_sel7 (0 : Int32) (0 : Int32) (0 : Int32) (0 : Int32) r_69 r_63 r_57) h71 n0 Z73 A72 A71 (own_sel6_r (P := fun z => -128 ≤ z.toInt ∧ z.toInt < 128) (show -128 ≤ v3.toInt ∧ v3.toInt < 128 by omega) (show -128 ≤ v10.toInt ∧ v10.toInt < 128 by omega) (show -128 ≤ v17.toInt ∧ v17.toInt < 128 by omega) (show -128 ≤ v24.toInt ∧ v24.toInt < 128 by omega) (show -128 ≤ v29.toInt ∧ v29.toInt < 128 by omega) (show -128 ≤ v36.toInt ∧ v36.toInt < 128 by omega)) (own_sel7_r (P := fun z => z.toInt = 0 ∨ z.toInt = 1) (show (0 : Int32).toInt = 0 ∨ (0 : Int32).toInt = 1 by decide) (show (0 : Int32).toInt = 0 ∨ (0 : Int32).toInt = 1 by decide) (show (0 : Int32).toInt = 0 ∨ (0 : Int32).toInt = 1 by decide) (show (0 : Int32).toInt = 0 ∨ (0 : Int32).toInt = 1 by decide) (show r_69.toInt = 0 ∨ r_69.toInt = 1 by omega) (show r_63.toInt = 0 ∨ r_63.toInt = 1 by omega) (show r_57.toInt = 0 ∨ r_57.toInt = 1 by omega)) (by omega)) hZ (hw _ (List.mem_of_getElem? (i := 13) rfl)) (hw _ (List.mem_of_getElem? (i := 12) rfl)) (by decide) (by decide)) (g := (mkF m 142 #[.val (.int p1), .val (.int p2), .val (.int p3), .val (.ref a1), .val (.int v43), .val (.int v49), .val (.int o51), .val (.int o52), .val (.ref a53), .unset] [(.ref a53), (.int o52), (.int (3 : Int32)), (.ref a1), (.int (3 : Int32)), (.ref a53)])) rfl (by rw [hml]; rfl) (argsL := [(.ref a1), (.int (3 : Int32)), (.int o52), (.ref a53)]) (rest := [(.int (3 : Int32)), (.ref a53)]) (lenOf pd_3 rfl) rfl (by show 2 * 0 + _ ≤ _; exact Nat.le_of_eq rfl) (hb hby at_142) (fun _ _ => ⟨rfl, e71, (by decide : 2 + 0 ≤ _), (by decide : 13 + 0 ≤ _)⟩)
  dsimp only [Pt.U, Pt.locs, Pt.cells, Pt.slots] at X75 l75 y75 z75 st75 hQ75
  subst y75 z75
  obtain ⟨r_75, rfl, pp75, N75, e75⟩ := hQ75
  have rr_75 := rng32 r_75
  have N75a : Fr n0 L75 := by rw [l75]; exact Fr.app N74 N75
  refine own_by st75 ?_
  show own_Go p e below (Q0 Z p1 p2 p3 h0 n0) (own_Fr s room_1.cells room_1.slots) (T75.setTop (mkF m 145 #[.val (.int p1), .val (.int p2), .val (.int p3), .val (.ref a1), .val (.int v43), .val (.int v49), .val (.int o51), .val (.int o52), .val (.ref a53), .unset] [(.int r_75), (.int (3 : Int32)), (.ref a53)]))
  obtain ⟨c77, B77, q77, s77, u77, H77, G77⟩ := id A71
  obtain ⟨T77, h77, X77, e77, W77, st77⟩ := stZ X75 hx hZ e75 B77 (j := (3 : Int32)) (x := r_75) (inb_of s77 (by decide)) (g := (mkF m 145 #[.val (.int p1), .val (.int p2), .val (.int p3), .val (.ref a1), .val (.int v43), .val (.int v49), .val (.int o51), .val (.int o52), .val (.ref a53), .unset] [(.int r_75), (.int (3 : Int32)), (.ref a53)])) rfl rfl (hb hby at_145)
  have m77 : nar .boolean r_75 = r_75 := own_nbool (by omega)
  rw [m77] at W77
  have A77 : Arv Z h77 a53 cA53 .boolean (7 : Int32) [(.int (0 : Int32)), (.int (0 : Int32)), (.int (0 : Int32)), (.int r_75), (.int r_69), (.int r_63), (.int r_57)] (.int (0 : Int32)) := Arv.set B77 q77 s77 u77 H77 G77 (own_fbool (by omega)) W77 3 (by decide) (by simp)
  have A78 : Arv Z h77 a1 cA1 .byte (6 : Int32) [(.int v3), (.int v10), (.int v17), (.int v24), (.int v29), (.int v36)] (.int (0 : Int32)) := A72.other W77 n54
  have Z79 : n0 ≤ h77.size := Nat.le_trans Z73 (Nat.le_of_eq W77.size.symm)
  have N80 := Fr.snoc X77 N75a fr53
  refine own_by st77 ?_
  show own_Go p e below (Q0 Z p1 p2 p3 h0 n0) (own_Fr s room_1.cells room_1.slots) (T77.setTop (mkF m 146 #[.val (.int p1), .val (.int p2), .val (.int p3), .val (.ref a1), .val (.int v43), .val (.int v49), .val (.int o51), .val (.int o52), .val (.ref a53), .unset] []))
  refine own_aload (pc' := 148) X77 hx rfl rfl (hb hby at_146) rfl ?_
  refine own_iconst (pc' := 149) X77 hx (2 : Int32) (by decide) (hb hby at_148) rfl ?_
  refine own_aloadN (pc' := 150) X77 hx rfl rfl (hb hby at_149) rfl ?_
  refine own_iconst (pc' := 151) X77 hx (2 : Int32) (by decide) (hb hby at_150) rfl ?_
  refine own_iload (pc' := 153) X77 hx rfl (hb hby at_151) rfl ?_
  refine own_aload (pc' := 155) X77 hx rfl rfl (hb hby at_153) rfl ?_
  have kq82 : (2 : Int32).toInt = 2 := by decide
  obtain ⟨_, _, ⟨T81, L81, k81, n81⟩, -, X81, ⟨Lc81, hQ81, l81, y81, z81⟩, st81⟩ := Jvm.LawKit.callS X77 hx (y := (⟨"com/example/bookplate/bookplate/marc/Utf8IsWellFormedPinLaw", "next", "([BII[Z)Z"⟩ : MethodName)) hown (mvT hZ (hw _ (List.mem_of_getElem? (i := 10) rfl))) (mvT hZ (hw _ (List.mem_of_getElem? (i := 11) rfl))) (mvT hZ (hw _ (List.mem_of_getElem? (i := 12) rfl))) (mvT hZ (hw _ (List.mem_of_getElem? (i := 13) rfl))) (by decide) (backOf (W := 2) (rmn l Z a0 hw [] a1 (2 : Int32) o52 a53 cA1 cA53 (own_sel6 v3 v10 v17 v24 v29 v36) (own_sel7 (0 : Int32) (0 : Int32) (0 : Int32) r_75 r_69 r_63 r_57) h77 n0 Z79 A78 A77 (own_sel6_r (P := fun z => -128 ≤ z.toInt ∧ z.toInt < 128) (show -128 ≤ v3.toInt ∧ v3.toInt < 128 by omega) (show -128 ≤ v10.toInt ∧ v10.toInt < 128 by omega) (show -128 ≤ v17.toInt ∧ v17.toInt < 128 by omega) (show -128 ≤ v24.toInt ∧ v24.toInt < 128 by omega) (show -128 ≤ v29.toInt ∧ v29.toInt < 128 by omega) (show -128 ≤ v36.toInt ∧ v36.toInt < 128 by omega)) (own_sel7_r (P := fun z => z.toInt = 0 ∨ z.toInt = 1) (show (0 : Int32).toInt = 0 ∨ (0 : Int32).toInt = 1 by decide) (show (0 : Int32).toInt = 0 ∨ (0 : Int32).toInt = 1 by decide) (show (0 : Int32).toInt = 0 ∨ (0 : Int32).toInt = 1 by decide) (show r_75.toInt = 0 ∨ r_75.toInt = 1 by omega) (show r_69.toInt = 0 ∨ r_69.toInt = 1 by omega) (show r_63.toInt = 0 ∨ r_63.toInt = 1 by omega) (show r_57.toInt = 0 ∨ r_57.toInt = 1 by omega)) (by omega)) hZ (hw _ (List.mem_of_getElem? (i := 13) rfl)) (hw _ (List.mem_of_getElem? (i := 12) rfl)) (by decide) (by decide)) (g := (mkF m 155 #[.val (.int p1), .val (.int p2), .val (.int p3), .val (.ref a1), .val (.int v43), .val (.int v49), .val (.int o51), .val (.int o52), .val (.ref a53), .unset] [(.ref a53), (.int o52), (.int (2 : Int32)), (.ref a1), (.int (2 : Int32)), (.ref a53)])) rfl (by rw [hml]; rfl) (argsL := [(.ref a1), (.int (2 : Int32)), (.int o52), (.ref a53)]) (rest := [(.int (2 : Int32)), (.ref a53)]) (lenOf pd_3 rfl) rfl (by show 2 * 0 + _ ≤ _; exact Nat.le_of_eq rfl) (hb hby at_155) (fun _ _ => ⟨rfl, e77, (by decide : 2 + 0 ≤ _), (by decide : 13 + 0 ≤ _)⟩)
  dsimp only [Pt.U, Pt.locs, Pt.cells, Pt.slots] at X81 l81 y81 z81 st81 hQ81
  subst y81 z81
  obtain ⟨r_81, rfl, pp81, N81, e81⟩ := hQ81
  have rr_81 := rng32 r_81
  have N81a : Fr n0 L81 := by rw [l81]; exact Fr.app N80 N81
  refine own_by st81 ?_
  show own_Go p e below (Q0 Z p1 p2 p3 h0 n0) (own_Fr s room_1.cells room_1.slots) (T81.setTop (mkF m 158 #[.val (.int p1), .val (.int p2), .val (.int p3), .val (.ref a1), .val (.int v43), .val (.int v49), .val (.int o51), .val (.int o52), .val (.ref a53), .unset] [(.int r_81), (.int (2 : Int32)), (.ref a53)]))
  obtain ⟨c83, B83, q83, s83, u83, H83, G83⟩ := id A77
  obtain ⟨T83, h83, X83, e83, W83, st83⟩ := stZ X81 hx hZ e81 B83 (j := (2 : Int32)) (x := r_81) (inb_of s83 (by decide)) (g := (mkF m 158 #[.val (.int p1), .val (.int p2), .val (.int p3), .val (.ref a1), .val (.int v43), .val (.int v49), .val (.int o51), .val (.int o52), .val (.ref a53), .unset] [(.int r_81), (.int (2 : Int32)), (.ref a53)])) rfl rfl (hb hby at_158)
  have m83 : nar .boolean r_81 = r_81 := own_nbool (by omega)
  rw [m83] at W83
  have A83 : Arv Z h83 a53 cA53 .boolean (7 : Int32) [(.int (0 : Int32)), (.int (0 : Int32)), (.int r_81), (.int r_75), (.int r_69), (.int r_63), (.int r_57)] (.int (0 : Int32)) := Arv.set B83 q83 s83 u83 H83 G83 (own_fbool (by omega)) W83 2 (by decide) (by simp)
  have A84 : Arv Z h83 a1 cA1 .byte (6 : Int32) [(.int v3), (.int v10), (.int v17), (.int v24), (.int v29), (.int v36)] (.int (0 : Int32)) := A78.other W83 n54
  have Z85 : n0 ≤ h83.size := Nat.le_trans Z79 (Nat.le_of_eq W83.size.symm)
  have N86 := Fr.snoc X83 N81a fr53
  refine own_by st83 ?_
  show own_Go p e below (Q0 Z p1 p2 p3 h0 n0) (own_Fr s room_1.cells room_1.slots) (T83.setTop (mkF m 159 #[.val (.int p1), .val (.int p2), .val (.int p3), .val (.ref a1), .val (.int v43), .val (.int v49), .val (.int o51), .val (.int o52), .val (.ref a53), .unset] []))
  refine own_aload (pc' := 161) X83 hx rfl rfl (hb hby at_159) rfl ?_
  refine own_iconst (pc' := 162) X83 hx (1 : Int32) (by decide) (hb hby at_161) rfl ?_
  refine own_aloadN (pc' := 163) X83 hx rfl rfl (hb hby at_162) rfl ?_
  refine own_iconst (pc' := 164) X83 hx (1 : Int32) (by decide) (hb hby at_163) rfl ?_
  refine own_iload (pc' := 166) X83 hx rfl (hb hby at_164) rfl ?_
  refine own_aload (pc' := 168) X83 hx rfl rfl (hb hby at_166) rfl ?_
  have kq88 : (1 : Int32).toInt = 1 := by decide
  obtain ⟨_, _, ⟨T87, L87, k87, n87⟩, -, X87, ⟨Lc87, hQ87, l87, y87, z87⟩, st87⟩ := Jvm.LawKit.callS X83 hx (y := (⟨"com/example/bookplate/bookplate/marc/Utf8IsWellFormedPinLaw", "next", "([BII[Z)Z"⟩ : MethodName)) hown (mvT hZ (hw _ (List.mem_of_getElem? (i := 10) rfl))) (mvT hZ (hw _ (List.mem_of_getElem? (i := 11) rfl))) (mvT hZ (hw _ (List.mem_of_getElem? (i := 12) rfl))) (mvT hZ (hw _ (List.mem_of_getElem? (i := 13) rfl))) (by decide) (backOf (W := 2) (rmn l Z a0 hw [] a1 (1 : Int32) o52 a53 cA1 cA53 (own_sel6 v3 v10 v17 v24 v29 v36) (own_sel7 (0 : Int32) (0 : Int32) r_81 r_75 r_69 r_63 r_57) h83 n0 Z85 A84 A83 (own_sel6_r (P := fun z => -128 ≤ z.toInt ∧ z.toInt < 128) (show -128 ≤ v3.toInt ∧ v3.toInt < 128 by omega) (show -128 ≤ v10.toInt ∧ v10.toInt < 128 by omega) (show -128 ≤ v17.toInt ∧ v17.toInt < 128 by omega) (show -128 ≤ v24.toInt ∧ v24.toInt < 128 by omega) (show -128 ≤ v29.toInt ∧ v29.toInt < 128 by omega) (show -128 ≤ v36.toInt ∧ v36.toInt < 128 by omega)) (own_sel7_r (P := fun z => z.toInt = 0 ∨ z.toInt = 1) (show (0 : Int32).toInt = 0 ∨ (0 : Int32).toInt = 1 by decide) (show (0 : Int32).toInt = 0 ∨ (0 : Int32).toInt = 1 by decide) (show r_81.toInt = 0 ∨ r_81.toInt = 1 by omega) (show r_75.toInt = 0 ∨ r_75.toInt = 1 by omega) (show r_69.toInt = 0 ∨ r_69.toInt = 1 by omega) (show r_63.toInt = 0 ∨ r_63.toInt = 1 by omega) (show r_57.toInt = 0 ∨ r_57.toInt = 1 by omega)) (by omega)) hZ (hw _ (List.mem_of_getElem? (i := 13) rfl)) (hw _ (List.mem_of_getElem? (i := 12) rfl)) (by decide) (by decide)) (g := (mkF m 168 #[.val (.int p1), .val (.int p2), .val (.int p3), .val (.ref a1), .val (.int v43), .val (.int v49), .val (.int o51), .val (.int o52), .val (.ref a53), .unset] [(.ref a53), (.int o52), (.int (1 : Int32)), (.ref a1), (.int (1 : Int32)), (.ref a53)])) rfl (by rw [hml]; rfl) (argsL := [(.ref a1), (.int (1 : Int32)), (.int o52), (.ref a53)]) (rest := [(.int (1 : Int32)), (.ref a53)]) (lenOf pd_3 rfl) rfl (by show 2 * 0 + _ ≤ _; exact Nat.le_of_eq rfl) (hb hby at_168) (fun _ _ => ⟨rfl, e83, (by decide : 2 + 0 ≤ _), (by decide : 13 + 0 ≤ _)⟩)
  dsimp only [Pt.U, Pt.locs, Pt.cells, Pt.slots] at X87 l87 y87 z87 st87 hQ87
  subst y87 z87
  obtain ⟨r_87, rfl, pp87, N87, e87⟩ := hQ87
  have rr_87 := rng32 r_87
  have N87a : Fr n0 L87 := by rw [l87]; exact Fr.app N86 N87
  refine own_by st87 ?_
  show own_Go p e below (Q0 Z p1 p2 p3 h0 n0) (own_Fr s room_1.cells room_1.slots) (T87.setTop (mkF m 171 #[.val (.int p1), .val (.int p2), .val (.int p3), .val (.ref a1), .val (.int v43), .val (.int v49), .val (.int o51), .val (.int o52), .val (.ref a53), .unset] [(.int r_87), (.int (1 : Int32)), (.ref a53)]))
  obtain ⟨c89, B89, q89, s89, u89, H89, G89⟩ := id A83
  obtain ⟨T89, h89, X89, e89, W89, st89⟩ := stZ X87 hx hZ e87 B89 (j := (1 : Int32)) (x := r_87) (inb_of s89 (by decide)) (g := (mkF m 171 #[.val (.int p1), .val (.int p2), .val (.int p3), .val (.ref a1), .val (.int v43), .val (.int v49), .val (.int o51), .val (.int o52), .val (.ref a53), .unset] [(.int r_87), (.int (1 : Int32)), (.ref a53)])) rfl rfl (hb hby at_171)
  have m89 : nar .boolean r_87 = r_87 := own_nbool (by omega)
  rw [m89] at W89
  have A89 : Arv Z h89 a53 cA53 .boolean (7 : Int32) [(.int (0 : Int32)), (.int r_87), (.int r_81), (.int r_75), (.int r_69), (.int r_63), (.int r_57)] (.int (0 : Int32)) := Arv.set B89 q89 s89 u89 H89 G89 (own_fbool (by omega)) W89 1 (by decide) (by simp)
  have A90 : Arv Z h89 a1 cA1 .byte (6 : Int32) [(.int v3), (.int v10), (.int v17), (.int v24), (.int v29), (.int v36)] (.int (0 : Int32)) := A84.other W89 n54
  have Z91 : n0 ≤ h89.size := Nat.le_trans Z85 (Nat.le_of_eq W89.size.symm)
  have N92 := Fr.snoc X89 N87a fr53
  refine own_by st89 ?_
  show own_Go p e below (Q0 Z p1 p2 p3 h0 n0) (own_Fr s room_1.cells room_1.slots) (T89.setTop (mkF m 172 #[.val (.int p1), .val (.int p2), .val (.int p3), .val (.ref a1), .val (.int v43), .val (.int v49), .val (.int o51), .val (.int o52), .val (.ref a53), .unset] []))
  refine own_aload (pc' := 174) X89 hx rfl rfl (hb hby at_172) rfl ?_
  refine own_iconst (pc' := 175) X89 hx (0 : Int32) (by decide) (hb hby at_174) rfl ?_
  refine own_aloadN (pc' := 176) X89 hx rfl rfl (hb hby at_175) rfl ?_
  refine own_iconst (pc' := 177) X89 hx (0 : Int32) (by decide) (hb hby at_176) rfl ?_
  refine own_iload (pc' := 179) X89 hx rfl (hb hby at_177) rfl ?_
  refine own_aload (pc' := 181) X89 hx rfl rfl (hb hby at_179) rfl ?_
  have kq94 : (0 : Int32).toInt = 0 := by decide
  obtain ⟨_, _, ⟨T93, L93, k93, n93⟩, -, X93, ⟨Lc93, hQ93, l93, y93, z93⟩, st93⟩ := Jvm.LawKit.callS X89 hx (y := (⟨"com/example/bookplate/bookplate/marc/Utf8IsWellFormedPinLaw", "next", "([BII[Z)Z"⟩ : MethodName)) hown (mvT hZ (hw _ (List.mem_of_getElem? (i := 10) rfl))) (mvT hZ (hw _ (List.mem_of_getElem? (i := 11) rfl))) (mvT hZ (hw _ (List.mem_of_getElem? (i := 12) rfl))) (mvT hZ (hw _ (List.mem_of_getElem? (i := 13) rfl))) (by decide) (backOf (W := 2) (rmn l Z a0 hw [] a1 (0 : Int32) o52 a53 cA1 cA53 (own_sel6 v3 v10 v17 v24 v29 v36) (own_sel7 (0 : Int32) r_87 r_81 r_75 r_69 r_63 r_57) h89 n0 Z91 A90 A89 (own_sel6_r (P := fun z => -128 ≤ z.toInt ∧ z.toInt < 128) (show -128 ≤ v3.toInt ∧ v3.toInt < 128 by omega) (show -128 ≤ v10.toInt ∧ v10.toInt < 128 by omega) (show -128 ≤ v17.toInt ∧ v17.toInt < 128 by omega) (show -128 ≤ v24.toInt ∧ v24.toInt < 128 by omega) (show -128 ≤ v29.toInt ∧ v29.toInt < 128 by omega) (show -128 ≤ v36.toInt ∧ v36.toInt < 128 by omega)) (own_sel7_r (P := fun z => z.toInt = 0 ∨ z.toInt = 1) (show (0 : Int32).toInt = 0 ∨ (0 : Int32).toInt = 1 by decide) (show r_87.toInt = 0 ∨ r_87.toInt = 1 by omega) (show r_81.toInt = 0 ∨ r_81.toInt = 1 by omega) (show r_75.toInt = 0 ∨ r_75.toInt = 1 by omega) (show r_69.toInt = 0 ∨ r_69.toInt = 1 by omega) (show r_63.toInt = 0 ∨ r_63.toInt = 1 by omega) (show r_57.toInt = 0 ∨ r_57.toInt = 1 by omega)) (by omega)) hZ (hw _ (List.mem_of_getElem? (i := 13) rfl)) (hw _ (List.mem_of_getElem? (i := 12) rfl)) (by decide) (by decide)) (g := (mkF m 181 #[.val (.int p1), .val (.int p2), .val (.int p3), .val (.ref a1), .val (.int v43), .val (.int v49), .val (.int o51), .val (.int o52), .val (.ref a53), .unset] [(.ref a53), (.int o52), (.int (0 : Int32)), (.ref a1), (.int (0 : Int32)), (.ref a53)])) rfl (by rw [hml]; rfl) (argsL := [(.ref a1), (.int (0 : Int32)), (.int o52), (.ref a53)]) (rest := [(.int (0 : Int32)), (.ref a53)]) (lenOf pd_3 rfl) rfl (by show 2 * 0 + _ ≤ _; exact Nat.le_of_eq rfl) (hb hby at_181) (fun _ _ => ⟨rfl, e89, (by decide : 2 + 0 ≤ _), (by decide : 13 + 0 ≤ _)⟩)
  dsimp only [Pt.U, Pt.locs, Pt.cells, Pt.slots] at X93 l93 y93 z93 st93 hQ93
  subst y93 z93
  obtain ⟨r_93, rfl, pp93, N93, e93⟩ := hQ93
  have rr_93 := rng32 r_93
  have N93a : Fr n0 L93 := by rw [l93]; exact Fr.app N92 N93
  refine own_by st93 ?_
  show own_Go p e below (Q0 Z p1 p2 p3 h0 n0) (own_Fr s room_1.cells room_1.slots) (T93.setTop (mkF m 184 #[.val (.int p1), .val (.int p2), .val (.int p3), .val (.ref a1), .val (.int v43), .val (.int v49), .val (.int o51), .val (.int o52), .val (.ref a53), .unset] [(.int r_93), (.int (0 : Int32)), (.ref a53)]))
  obtain ⟨c95, B95, q95, s95, u95, H95, G95⟩ := id A89
  obtain ⟨T95, h95, X95, e95, W95, st95⟩ := stZ X93 hx hZ e93 B95 (j := (0 : Int32)) (x := r_93) (inb_of s95 (by decide)) (g := (mkF m 184 #[.val (.int p1), .val (.int p2), .val (.int p3), .val (.ref a1), .val (.int v43), .val (.int v49), .val (.int o51), .val (.int o52), .val (.ref a53), .unset] [(.int r_93), (.int (0 : Int32)), (.ref a53)])) rfl rfl (hb hby at_184)
  have m95 : nar .boolean r_93 = r_93 := own_nbool (by omega)
  rw [m95] at W95
  have A95 : Arv Z h95 a53 cA53 .boolean (7 : Int32) [(.int r_93), (.int r_87), (.int r_81), (.int r_75), (.int r_69), (.int r_63), (.int r_57)] (.int (0 : Int32)) := Arv.set B95 q95 s95 u95 H95 G95 (own_fbool (by omega)) W95 0 (by decide) (by simp)
  have A96 : Arv Z h95 a1 cA1 .byte (6 : Int32) [(.int v3), (.int v10), (.int v17), (.int v24), (.int v29), (.int v36)] (.int (0 : Int32)) := A90.other W95 n54
  have Z97 : n0 ≤ h95.size := Nat.le_trans Z91 (Nat.le_of_eq W95.size.symm)
  have N98 := Fr.snoc X95 N93a fr53
  refine own_by st95 ?_
  show own_Go p e below (Q0 Z p1 p2 p3 h0 n0) (own_Fr s room_1.cells room_1.slots) (T95.setTop (mkF m 185 #[.val (.int p1), .val (.int p2), .val (.int p3), .val (.ref a1), .val (.int v43), .val (.int v49), .val (.int o51), .val (.int o52), .val (.ref a53), .unset] []))
  refine own_aload (pc' := 187) X95 hx rfl rfl (hb hby at_185) rfl ?_
  refine own_iload (pc' := 189) X95 hx rfl (hb hby at_187) rfl ?_
  obtain ⟨v99, hv99⟩ : ∃ z, (own_sel7 r_93 r_87 r_81 r_75 r_69 r_63 r_57) o51.toInt = z := ⟨_, rfl⟩
  obtain ⟨c99, B99, q99, s99, u99, H99, G99⟩ := id A95
  have i99 := inb_of s99 (j := o51) (own_inb (n := 7) rfl (by decide) (by omega))
  refine own_by (X95.baloadBooleans hx (j := o51) (v := (.int v99)) (by rw [e95]; exact B99.1) (State.isArrayOf_alike hZ.alike B99.2.1) B99.2.2 i99 (H99.at i99 ((own_at7 (B := (own_sel7 r_93 r_87 r_81 r_75 r_69 r_63 r_57)) rfl (by omega)).trans (by rw [hv99]))) (g := (mkF m 189 #[.val (.int p1), .val (.int p2), .val (.int p3), .val (.ref a1), .val (.int v43), .val (.int v49), .val (.int o51), .val (.int o52), .val (.ref a53), .unset] [(.int o51), (.ref a53)])) rfl rfl (hb hby at_189)) ?_
  show own_Go p e below (Q0 Z p1 p2 p3 h0 n0) (own_Fr s room_1.cells room_1.slots) (T95.setTop (mkF m 190 #[.val (.int p1), .val (.int p2), .val (.int p3), .val (.ref a1), .val (.int v43), .val (.int v49), .val (.int o51), .val (.int o52), .val (.ref a53), .unset] [(.int v99)]))
  refine own_istore (pc' := 192) X95 hx #[.val (.int p1), .val (.int p2), .val (.int p3), .val (.ref a1), .val (.int v43), .val (.int v49), .val (.int o51), .val (.int o52), .val (.ref a53), .val (.int v99)] rfl (hb hby at_190) rfl ?_
  refine own_aloadN (pc' := 193) X95 hx rfl rfl (hb hby at_192) rfl ?_
  refine own_iload (pc' := 195) X95 hx rfl (hb hby at_193) rfl ?_
  refine own_iload (pc' := 197) X95 hx rfl (hb hby at_195) rfl ?_
  obtain ⟨_, _, ⟨T100, L100, k100, n100⟩, -, X100, ⟨Lc100, hQ100, l100, y100, z100⟩, st100⟩ := Jvm.LawKit.callS X95 hx (y := (⟨"com/example/bookplate/bookplate/marc/Utf8", "isWellFormed", "([BII)Z"⟩ : MethodName)) hown (mvT hZ (hw _ (List.mem_of_getElem? (i := 20) rfl))) (mvT hZ (hw _ (List.mem_of_getElem? (i := 21) rfl))) (mvT hZ (hw _ (List.mem_of_getElem? (i := 22) rfl))) (mvT hZ (hw _ (List.mem_of_getElem? (i := 23) rfl))) (by decide) (backOf (W := 0) (rmw l Z a0 hw [] a1 o51 o52 cA1 (own_sel6 v3 v10 v17 v24 v29 v36) h95 n0 Z97 A96 (own_sel6_r (P := fun z => -128 ≤ z.toInt ∧ z.toInt < 128) (show -128 ≤ v3.toInt ∧ v3.toInt < 128 by omega) (show -128 ≤ v10.toInt ∧ v10.toInt < 128 by omega) (show -128 ≤ v17.toInt ∧ v17.toInt < 128 by omega) (show -128 ≤ v24.toInt ∧ v24.toInt < 128 by omega) (show -128 ≤ v29.toInt ∧ v29.toInt < 128 by omega) (show -128 ≤ v36.toInt ∧ v36.toInt < 128 by omega)) (by omega)) hZ (hw _ (List.mem_of_getElem? (i := 23) rfl)) (hw _ (List.mem_of_getElem? (i := 22) rfl)) (by decide) (by decide)) (g := (mkF m 197 #[.val (.int p1), .val (.int p2), .val (.int p3), .val (.ref a1), .val (.int v43), .val (.int v49), .val (.int o51), .val (.int o52), .val (.ref a53), .val (.int v99)] [(.int o52), (.int o51), (.ref a1)])) rfl (by rw [hml]; rfl) (argsL := [(.ref a1), (.int o51), (.int o52)]) (rest := []) (lenOf pd_2 rfl) rfl (by show 2 * 0 + _ ≤ _; exact Nat.le_of_eq rfl) (hb hby at_197) (fun _ _ => ⟨rfl, e95, (by decide : 2 + 0 ≤ _), (by decide : 13 + 0 ≤ _)⟩)
  dsimp only [Pt.U, Pt.locs, Pt.cells, Pt.slots] at X100 l100 y100 z100 st100 hQ100
  subst y100 z100
  obtain ⟨r_100, rfl, pp100, N100, e100⟩ := hQ100
  have rr_100 := rng32 r_100
  have N100a : Fr n0 L100 := by rw [l100]; exact Fr.app N98 N100
  refine own_by st100 ?_
  show own_Go p e below (Q0 Z p1 p2 p3 h0 n0) (own_Fr s room_1.cells room_1.slots) (T100.setTop (mkF m 200 #[.val (.int p1), .val (.int p2), .val (.int p3), .val (.ref a1), .val (.int v43), .val (.int v49), .val (.int o51), .val (.int o52), .val (.ref a53), .val (.int v99)] [(.int r_100)]))
  refine own_iload (pc' := 202) X100 hx rfl (hb hby at_200) rfl ?_
  have b101 : r_100.toInt = v99.toInt := by rw [pp100.2, ← hv99]; exact (own_final ⟨by omega, by omega, by omega⟩ pp57.2 pp63.2 pp69.2 pp75.2 pp81.2 pp87.2 pp93.2).symm
  refine own_icmpNo (pc' := 205) X100 hx (own_no_ne rfl rfl b101) (hb hby at_202) rfl ?_
  refine own_iconst (pc' := 206) X100 hx (1 : Int32) (by decide) (hb hby at_205) rfl ?_
  refine own_goto (pc' := 210) X100 hx (hb hby at_206) (by decide) (by decide) ?_
  refine own_ret X100 hx Bd.returns Bd.notSynchronized (Or.inl ⟨rfl, by simp, _, rfl⟩) (hb hby at_210) rfl (by decide) (by decide) ?_
  show Q0 Z p1 p2 p3 h0 n0 _ T100.heap _
  rw [e100]
  exact ⟨rfl, N100a⟩
set_option maxRecDepth 65536 in
set_option maxHeartbeats 40000000 in
theorem comes_1 {Post : Tables → Env → Array Value → State → Outcome → State → Prop} (hpost : ∀ tb e args s v u, (limb_1_1.after args s (.returned v) u = true ∧ limb_1_2.after args s (.returned v) u = true ∧ True) → FrameEnd s (.returned v) u (Jvm.fieldLocs frame_1_writes args s ++ Jvm.arrayLocs frame_1_arrays args s ++ Jvm.staticLocs frame_1_statics s) 16 128 → Post tb e args s (.returned v) u) :
    ArmFor flags0 classFile x code maxLocals ret World_1 tables_1 room_1 Calls_1 rest_1 Pre_1 Post := by
  intro l hfl _ _ p e ha hc hk s m args below hf hA hF happ hP
  obtain ⟨hcalls, hrest, hpre⟩ := hP
  obtain ⟨-, -, -, hnamed, -, -, -, hat⟩ := (Spec.applies_iff hf).mp happ
  obtain ⟨hg, hn⟩ := and_e (Cond.before_iff.mp (show (Jvm.Cond.and given_1 narrow_1).before args s = true from hpre))
  obtain ⟨g0, gr0⟩ := and_e hg
  obtain ⟨g1, gr1⟩ := and_e gr0
  obtain ⟨g2, gr2⟩ := and_e gr1
  obtain ⟨w0, w1, w2, rfl⟩ : ∃ w0 w1 w2 : Value, args = #[w0, w1, w2] := by
    have hs : args.size = 3 := by simpa [Cond.value, given_1] using g0
    obtain ⟨L⟩ := args
    match L, hs with
    | [w0, w1, w2], _ => exact ⟨w0, w1, w2, rfl⟩
  have hw := fun d (hd : d ∈ tables_1) => atoms_spec (ws := Jvm.Cond.code x code maxLocals ret :: tables_1) hat d (List.mem_cons_of_mem _ hd)
  obtain ⟨i0, ev0⟩ := is_v g1
  obtain rfl : w0 = (.int i0) := Option.some.inj ev0
  obtain ⟨i1, ev1⟩ := is_v g2
  obtain rfl : w1 = (.int i1) := Option.some.inj ev1
  obtain ⟨i2, ev2⟩ := is_v gr2
  obtain rfl : w2 = (.int i2) := Option.some.inj ev2
  obtain ⟨n, o, h1, h2, h3, _, L, rfl, ⟨rfl, N⟩, hq⟩ := rm0 l s _ hw tables_1 i0 i1 i2  s.heap s.heap.size (Nat.le_refl _)  p e ha hc hk s m _ below hf ((Spec.applies_iff_loose hf).mp happ).1 ⟨rfl, State.Warmed39.refl s, rfl⟩ trivial
  refine ⟨n, _, h1, h2, h3, hpost _ _ _ _ _ _ ⟨Cond.after_iff.mpr rfl, Cond.after_iff.mpr (eq_i res_at (Term.int_eval (1)) rfl), trivial⟩ ⟨hq.1, hq.2.1, (hq.2.2.sift fun y hy => Or.inr (N y hy)).mono (by decide) (by decide)⟩⟩
theorem main_1_1 : Claimed_1_1 := comes_1 fun _ _ _ _ _ _ h hF => ⟨h.1, hF⟩
theorem main_1_2 : Claimed_1_2 := comes_1 fun _ _ _ _ _ _ h hF => ⟨h.2.1, hF⟩
end Jvm.Pilot.@@N@@
namespace Jvm.Pilot.@@N@@
open Jvm Jvm.ClassFile Sem Op Lib Jvm.Free Jvm.Stand Jvm.Pilot.@@N@@.Jvm.D
/-! MADE BY PROGRAM (witnessworld.py) out of the Statement's table words and the real class files: 12 classes; the members and pool entries that the words name. The judged class is class 1, her method 1. -/
namespace start1
open Jvm.ClassFile
def u (s : String) : CpInfo := .utf8 (stringToUtf16 s)
/-- a pool by its gaps: so many unusable entries, then the entry; so many at the end -/
def gap : Nat → List CpInfo → List CpInfo
  | 0, r => r
  | n + 1, r => .unusable :: gap n r
def poolList (es : List (Nat × CpInfo)) (last : Nat) : List CpInfo := es.foldr (fun e r => gap e.1 (e.2 :: r)) (gap last [])
def pool (es : List (Nat × CpInfo)) (last : Nat) : Array CpInfo := ⟨poolList es last⟩
def fileOf (pool : Array CpInfo) (this : Nat) (attrs : Array Attribute := #[]) (ms : Array MethodInfo := #[]) (fl : Nat := 33) (sup : Nat := 0) (ifs : Array Nat := #[]) (fds : Array FieldInfo := #[]) : ClassFile where
  minorVersion := 0
  majorVersion := 65
  constantPool := pool
  accessFlags := fl
  thisClass := this
  superClass := sup
  interfaces := ifs
  fields := fds
  methods := ms
  attributes := attrs
def plain (name : String) (sup : Option ClassId) : Class where
  name := name
  kind := .ordinary
  loader := none
  accessFlags := 33
  super := sup
  interfaces := #[]
  cf := none
  fields := #[]
  methods := #[]
  instanceTypes := #[]
  staticTypes := #[]
  resolved := #[]
  callSites := []
  init := .initialized
  statics := none
  mirror := none

def pool0 : Array CpInfo := pool [(5, u "<init>"), (0, u "()V"), (1, .class_ 10), (1, u "java/lang/Object")] 113

def k0m0 : Method := { name := "<init>", desc := "()V", sig := { parameters := [], returnType := none }, accessFlags := 1, code := none }
/-- java/lang/Object -/
def k0 : Class := { plain "java/lang/Object" none with
  accessFlags := 33
  interfaces := #[]
  cf := some (fileOf pool0 8 #[] #[{ accessFlags := 1, nameIndex := 5, descriptorIndex := 6, attributes := #[] }] 33 0 #[] #[])
  fields := #[]
  methods := #[k0m0]
  instanceTypes := #[]
  staticTypes := #[]
  resolved := Array.replicate 124 none
  statics := none }

def pool1 : Array CpInfo := pool [(2, .class_ 4), (1, u "java/lang/Object"), (0, u "<init>"), (0, u "()V"), (0, .integer 2147483647), (0, .methodref 9 10), (0, .class_ 11), (0, .nameAndType 12 13), (0, u "java/lang/Math"), (0, u "min"), (0, u "(II)I"), (0, .methodref 9 15), (0, .nameAndType 16 13), (0, u "max"), (0, .methodref 18 19), (0, .class_ 20), (0, .nameAndType 21 22), (0, u "com/example/bookplate/bookplate/marc/Utf8IsWellFormedPinLaw"), (0, u "next"), (0, u "([BII[Z)Z"), (0, .methodref 24 25), (0, .class_ 26), (0, .nameAndType 27 28), (0, u "com/example/bookplate/bookplate/marc/Utf8"), (0, u "isWellFormed"), (0, u "([BII)Z"), (0, .methodref 18 30), (0, .nameAndType 31 28), (0, u "charOk"), (0, .methodref 18 33), (0, .nameAndType 34 35), (0, u "len"), (0, u "(I)I"), (0, .integer 55296), (0, .integer 57343), (0, .integer 65536), (0, .integer 1114111), (2, u "law"), (0, u "(III)Z")] 7

def k1m0 : Method := { name := "<init>", desc := "()V", sig := { parameters := [], returnType := none }, accessFlags := 2, code := none }
def k1c1 : Code := { maxStack := 6, maxLocals := 10, code := code, exceptionTable := #[], attributes := #[] }
def k1m1 : Method := { name := "law", desc := "(III)Z", sig := { parameters := [.int, .int, .int], returnType := some .boolean }, accessFlags := 9, code := some k1c1 }
def k1c2 : Code := { maxStack := 4, maxLocals := 4, code := method_3_code, exceptionTable := #[], attributes := #[] }
def k1m2 : Method := { name := "next", desc := "([BII[Z)Z", sig := { parameters := [(.array .byte), .int, .int, (.array .boolean)], returnType := some .boolean }, accessFlags := 10, code := some k1c2 }
def k1c3 : Code := { maxStack := 2, maxLocals := 1, code := method_4_code, exceptionTable := #[], attributes := #[] }
def k1m3 : Method := { name := "len", desc := "(I)I", sig := { parameters := [.int], returnType := some .int }, accessFlags := 10, code := some k1c3 }
def k1c4 : Code := { maxStack := 3, maxLocals := 9, code := method_5_code, exceptionTable := #[], attributes := #[] }
def k1m4 : Method := { name := "charOk", desc := "([BII)Z", sig := { parameters := [(.array .byte), .int, .int], returnType := some .boolean }, accessFlags := 10, code := some k1c4 }
/-- com/example/bookplate/bookplate/marc/Utf8IsWellFormedPinLaw -/
def k1 : Class := { plain "com/example/bookplate/bookplate/marc/Utf8IsWellFormedPinLaw" (some 0) with
  accessFlags := 49
  interfaces := #[]
  cf := some (fileOf pool1 18 #[] #[{ accessFlags := 2, nameIndex := 5, descriptorIndex := 6, attributes := #[] }, { accessFlags := 9, nameIndex := 42, descriptorIndex := 43, attributes := #[] }, { accessFlags := 10, nameIndex := 21, descriptorIndex := 22, attributes := #[] }, { accessFlags := 10, nameIndex := 34, descriptorIndex := 35, attributes := #[] }, { accessFlags := 10, nameIndex := 31, descriptorIndex := 28, attributes := #[] }] 49 2 #[] #[])
  fields := #[]
  methods := #[k1m0, k1m1, k1m2, k1m3, k1m4]
  instanceTypes := #[]
  staticTypes := #[]
  resolved := Array.replicate 51 none
  statics := none }

def pool2 : Array CpInfo := pool [(1, .class_ 2), (0, u "java/lang/Math"), (1, .class_ 6), (1, u "java/lang/Object"), (0, u "<init>"), (0, u "()V"), (89, .class_ 100), (1, u "java/lang/Math$RandomNumberGeneratorHolder"), (71, u "negativeZeroFloatBits"), (0, u "J"), (2, u "negativeZeroDoubleBits"), (21, u "max"), (2, u "min"), (43, u "$assertionsDisabled"), (0, u "Z"), (88, u "(II)I"), (2, u "twoToTheDoubleScaleDown"), (0, u "D"), (4, u "twoToTheDoubleScaleUp"), (9, u "E"), (3, u "PI"), (2, u "TAU"), (2, u "DEGREES_TO_RADIANS"), (0, u "RADIANS_TO_DEGREES")] 94

def k2m0 : Method := { name := "<init>", desc := "()V", sig := { parameters := [], returnType := none }, accessFlags := 2, code := none }
def k2c1 : Code := { maxStack := 2, maxLocals := 2, code := jdk_29_method_65_code, exceptionTable := #[], attributes := #[] }
def k2m1 : Method := { name := "max", desc := "(II)I", sig := { parameters := [.int, .int], returnType := some .int }, accessFlags := 9, code := some k2c1 }
def k2c2 : Code := { maxStack := 2, maxLocals := 2, code := jdk_29_method_69_code, exceptionTable := #[], attributes := #[] }
def k2m2 : Method := { name := "min", desc := "(II)I", sig := { parameters := [.int, .int], returnType := some .int }, accessFlags := 9, code := some k2c2 }
/-- java/lang/Math -/
def k2 : Class := { plain "java/lang/Math" (some 0) with
  accessFlags := 49
  interfaces := #[]
  cf := some (fileOf pool2 1 #[.nestMembers #[98]] #[{ accessFlags := 2, nameIndex := 7, descriptorIndex := 8, attributes := #[] }, { accessFlags := 9, nameIndex := 198, descriptorIndex := 335, attributes := #[] }, { accessFlags := 9, nameIndex := 201, descriptorIndex := 335, attributes := #[] }] 49 4 #[] #[{ accessFlags := 25, nameIndex := 354, descriptorIndex := 339, attributes := #[] }, { accessFlags := 25, nameIndex := 358, descriptorIndex := 339, attributes := #[] }, { accessFlags := 25, nameIndex := 361, descriptorIndex := 339, attributes := #[] }, { accessFlags := 26, nameIndex := 364, descriptorIndex := 339, attributes := #[] }, { accessFlags := 26, nameIndex := 365, descriptorIndex := 339, attributes := #[] }, { accessFlags := 26, nameIndex := 172, descriptorIndex := 173, attributes := #[] }, { accessFlags := 26, nameIndex := 176, descriptorIndex := 173, attributes := #[] }, { accessFlags := 8, nameIndex := 344, descriptorIndex := 339, attributes := #[] }, { accessFlags := 8, nameIndex := 338, descriptorIndex := 339, attributes := #[] }, { accessFlags := 4120, nameIndex := 245, descriptorIndex := 246, attributes := #[] }])
  fields := #[{ name := "E", type := .double, accessFlags := 25, slot := 0, constantValue := 0 }, { name := "PI", type := .double, accessFlags := 25, slot := 1, constantValue := 0 }, { name := "TAU", type := .double, accessFlags := 25, slot := 2, constantValue := 0 }, { name := "DEGREES_TO_RADIANS", type := .double, accessFlags := 26, slot := 3, constantValue := 0 }, { name := "RADIANS_TO_DEGREES", type := .double, accessFlags := 26, slot := 4, constantValue := 0 }, { name := "negativeZeroFloatBits", type := .long, accessFlags := 26, slot := 5, constantValue := 0 }, { name := "negativeZeroDoubleBits", type := .long, accessFlags := 26, slot := 6, constantValue := 0 }, { name := "twoToTheDoubleScaleUp", type := .double, accessFlags := 8, slot := 7, constantValue := 0 }, { name := "twoToTheDoubleScaleDown", type := .double, accessFlags := 8, slot := 8, constantValue := 0 }, { name := "$assertionsDisabled", type := .boolean, accessFlags := 4120, slot := 9, constantValue := 0 }]
  methods := #[k2m0, k2m1, k2m2]
  instanceTypes := #[]
  staticTypes := #[.double, .double, .double, .double, .double, .long, .long, .double, .double, .boolean]
  resolved := Array.replicate 460 none
  statics := none }

def pool3 : Array CpInfo := pool [(2, .class_ 4), (1, u "java/lang/Object"), (0, u "<init>"), (0, u "()V"), (0, .methodref 8 9), (0, .class_ 10), (0, .nameAndType 11 12), (0, u "com/example/bookplate/bookplate/marc/Utf8"), (0, u "continues"), (0, u "([BIIII)Z"), (2, u "isWellFormed"), (0, u "([BII)Z")] 5

def k3m0 : Method := { name := "<init>", desc := "()V", sig := { parameters := [], returnType := none }, accessFlags := 2, code := none }
def k3c1 : Code := { maxStack := 5, maxLocals := 8, code := prog_24_method_2_code, exceptionTable := #[], attributes := #[] }
def k3m1 : Method := { name := "isWellFormed", desc := "([BII)Z", sig := { parameters := [(.array .byte), .int, .int], returnType := some .boolean }, accessFlags := 8, code := some k3c1 }
def k3c2 : Code := { maxStack := 3, maxLocals := 7, code := prog_24_method_3_code, exceptionTable := #[], attributes := #[] }
def k3m2 : Method := { name := "continues", desc := "([BIIII)Z", sig := { parameters := [(.array .byte), .int, .int, .int, .int], returnType := some .boolean }, accessFlags := 10, code := some k3c2 }
/-- com/example/bookplate/bookplate/marc/Utf8 -/
def k3 : Class := { plain "com/example/bookplate/bookplate/marc/Utf8" (some 0) with
  accessFlags := 48
  interfaces := #[]
  cf := some (fileOf pool3 8 #[] #[{ accessFlags := 2, nameIndex := 5, descriptorIndex := 6, attributes := #[] }, { accessFlags := 8, nameIndex := 15, descriptorIndex := 16, attributes := #[] }, { accessFlags := 10, nameIndex := 11, descriptorIndex := 12, attributes := #[] }] 48 2 #[] #[])
  fields := #[]
  methods := #[k3m0, k3m1, k3m2]
  instanceTypes := #[]
  staticTypes := #[]
  resolved := Array.replicate 22 none
  statics := none }

def pool4 : Array CpInfo := pool [(1, u "java/lang/Cloneable"), (0, .class_ 1), (0, u "java/lang/Object"), (0, .class_ 3)] 3

/-- java/lang/Cloneable -/
def k4 : Class := { plain "java/lang/Cloneable" (some 0) with
  accessFlags := 1537
  interfaces := #[]
  cf := some (fileOf pool4 2 #[] #[] 1537 4 #[] #[])
  fields := #[]
  methods := #[]
  instanceTypes := #[]
  staticTypes := #[]
  resolved := Array.replicate 8 none
  statics := none }

def pool5 : Array CpInfo := pool [(1, u "java/io/Serializable"), (0, .class_ 1), (0, u "java/lang/Object"), (0, .class_ 3)] 3

/-- java/io/Serializable -/
def k5 : Class := { plain "java/io/Serializable" (some 0) with
  accessFlags := 1537
  interfaces := #[]
  cf := some (fileOf pool5 2 #[] #[] 1537 4 #[] #[])
  fields := #[]
  methods := #[]
  instanceTypes := #[]
  staticTypes := #[]
  resolved := Array.replicate 8 none
  statics := none }

/-- the primitive boolean -/
def k6 : Class := { plain "boolean" none with kind := .primitive 'Z', accessFlags := 0x411 }
/-- [Z -/
def k7 : Class := { plain "[Z" (some 0) with kind := .array 6 .boolean, interfaces := #[4, 5], accessFlags := 1041 }

/-- the primitive byte -/
def k8 : Class := { plain "byte" none with kind := .primitive 'B', accessFlags := 0x411 }
/-- [B -/
def k9 : Class := { plain "[B" (some 0) with kind := .array 8 .byte, interfaces := #[4, 5], accessFlags := 1041 }

/-- the primitive int -/
def k10 : Class := { plain "int" none with kind := .primitive 'I', accessFlags := 0x411 }
/-- [I -/
def k11 : Class := { plain "[I" (some 0) with kind := .array 10 .int, interfaces := #[4, 5], accessFlags := 1041 }

def heap : Heap := #[]
def classes : Array Class := #[k0, k1, k2, k3, k4, k5, k6, k7, k8, k9, k10, k11]
def interned : List (Array UInt16 × Addr) := []
def slotsUsed : Nat := 0
def theMethod : MethodId := ⟨1, 1⟩
def args0 : Array Value := #[.int 65, .int 3, .int 7]
def aboutOver (below : List Frame) : State where
  vm := { classes := classes, interned := interned.toArray }
  heap := heap
  slotsUsed := slotsUsed
  threads := #[{ frames := .invoking theMethod args0 :: below }]
def below0 : List Frame := [.native { method := ⟨0, 0⟩, args := #[] }]
def about1 : State := aboutOver below0
def p0 : Program := .bare "" "" ""
def e0 : Env := launch0.env 0 0 0
theorem w_frames : about1.frames = Frame.invoking theMethod args0 :: below0 := rfl
set_option maxRecDepth 65536 in
theorem w_args : argsFit about1.vm theMethod args0 = true := by decide +kernel
set_option maxRecDepth 65536 in
theorem w_heap : heapFits about1 = true := by decide +kernel
set_option maxRecDepth 65536 in
theorem w_runnable : about1.curStatus? = some .runnable := by decide +kernel
set_option maxRecDepth 65536 in
theorem w_alone : about1.alone = true := by decide +kernel
set_option maxRecDepth 65536 in
theorem w_named : about1.methodNamed? x = some theMethod := by decide +kernel
set_option maxRecDepth 65536 in
theorem w_hears : about1.hears theMethod below0 = true := by decide +kernel
set_option maxRecDepth 65536 in
theorem w_ripe : about1.ripe theMethod args0 below0 = true := by decide +kernel
theorem w_running : about1.status = .running := rfl
set_option maxRecDepth 65536 in
theorem w_room : about1.hasRoom e0.platform room_1 = true :=
  launch0.hasRoom_least _ room_1 (by decide +kernel) (by decide +kernel) (by decide +kernel) (by decide +kernel) (by decide +kernel) (by decide +kernel)
theorem allAtoms_all (ts : List Jvm.Cond) (a : Array Jvm.Value) (st : Jvm.State) : (allAtoms ts).before a st = ts.all (fun c => c.before a st) := by
  induction ts with
  | nil => rfl
  | cons c t ih =>
    show (Jvm.Cond.and c (allAtoms t)).before a st = _
    rw [Jvm.Cond.before_and, ih, List.all_cons]
def words1 : List Jvm.Cond := Jvm.Cond.code x code maxLocals ret :: tables_1
/-- a 'code' word, met by the world's own term for the bytes: nothing is compared byte by byte -/
theorem code_word {y : MethodName} {bytes : ByteArray} {mx : Nat} {rt : Option FieldType} {a : Array Value} {s : State} {m : MethodId} {meth : Method} {c : Code} (h1 : s.methodNamed? y = some m) (h2 : s.vm.method? m = some meth) (h3 : meth.code = some c) (h4 : c.code = bytes)
    (h5 : (c.maxLocals == mx && c.exceptionTable.isEmpty && decide (c.maxStack ≤ mostOperands) && decide (meth.sig.returnType = rt) && !meth.locks && decide (parseMethodDescriptor y.desc = some meth.sig)) = true) : (Jvm.Cond.code y bytes mx rt).before a s = true := by
  simp only [Bool.and_eq_true, beq_iff_eq, Bool.not_eq_true', decide_eq_true_eq] at h5
  obtain ⟨⟨⟨⟨⟨g1, g2⟩, g3⟩, g4⟩, g5⟩, g6⟩ := h5
  simp [Cond.before, Cond.holds, Cond.value, h1, h2, h3, h4, g1, g2, g3, g4, g5, g6]
def isCode : Jvm.Cond → Bool
  | .code _ _ _ _ => true
  | _ => false
theorem all_split {L : List Jvm.Cond} {P : Jvm.Cond → Bool} (h1 : L.all (fun c => isCode c || P c) = true) (h2 : ∀ c ∈ L.filter isCode, P c = true) : L.all P = true := by
  refine List.all_eq_true.mpr fun c hc => ?_
  have h := List.all_eq_true.mp h1 c hc
  rcases Bool.eq_false_or_eq_true (isCode c) with hi | hi
  · exact h2 c (List.mem_filter.mpr ⟨hc, hi⟩)
  · simpa [hi] using h
set_option maxRecDepth 65536 in
theorem w_c0 : (Jvm.Cond.code x code maxLocals ret).before args0 about1 = true := code_word (m := ⟨1, 1⟩) (meth := k1m1) (c := k1c1) (by decide +kernel) rfl rfl rfl (by decide +kernel)
set_option maxRecDepth 65536 in
theorem w_c1 : (Jvm.Cond.code ({ cls := "java/lang/Math", name := "min", desc := "(II)I" } : Jvm.MethodName) jdk_29_method_69_code (2 : Nat) (Option.some Jvm.ClassFile.FieldType.int)).before args0 about1 = true := code_word (m := ⟨2, 2⟩) (meth := k2m2) (c := k2c2) (by decide +kernel) rfl rfl rfl (by decide +kernel)
set_option maxRecDepth 65536 in
theorem w_c2 : (Jvm.Cond.code ({ cls := "java/lang/Math", name := "max", desc := "(II)I" } : Jvm.MethodName) jdk_29_method_65_code (2 : Nat) (Option.some Jvm.ClassFile.FieldType.int)).before args0 about1 = true := code_word (m := ⟨2, 1⟩) (meth := k2m1) (c := k2c1) (by decide +kernel) rfl rfl rfl (by decide +kernel)
set_option maxRecDepth 65536 in
theorem w_c3 : (Jvm.Cond.code ({ cls := "com/example/bookplate/bookplate/marc/Utf8IsWellFormedPinLaw", name := "next", desc := "([BII[Z)Z" } : Jvm.MethodName) method_3_code (4 : Nat) (Option.some Jvm.ClassFile.FieldType.boolean)).before args0 about1 = true := code_word (m := ⟨1, 2⟩) (meth := k1m2) (c := k1c2) (by decide +kernel) rfl rfl rfl (by decide +kernel)
set_option maxRecDepth 65536 in
theorem w_c4 : (Jvm.Cond.code ({ cls := "com/example/bookplate/bookplate/marc/Utf8IsWellFormedPinLaw", name := "charOk", desc := "([BII)Z" } : Jvm.MethodName) method_5_code (9 : Nat) (Option.some Jvm.ClassFile.FieldType.boolean)).before args0 about1 = true := code_word (m := ⟨1, 4⟩) (meth := k1m4) (c := k1c4) (by decide +kernel) rfl rfl rfl (by decide +kernel)
set_option maxRecDepth 65536 in
theorem w_c5 : (Jvm.Cond.code ({ cls := "com/example/bookplate/bookplate/marc/Utf8IsWellFormedPinLaw", name := "len", desc := "(I)I" } : Jvm.MethodName) method_4_code (1 : Nat) (Option.some Jvm.ClassFile.FieldType.int)).before args0 about1 = true := code_word (m := ⟨1, 3⟩) (meth := k1m3) (c := k1c3) (by decide +kernel) rfl rfl rfl (by decide +kernel)
set_option maxRecDepth 65536 in
theorem w_c6 : (Jvm.Cond.code ({ cls := "com/example/bookplate/bookplate/marc/Utf8", name := "isWellFormed", desc := "([BII)Z" } : Jvm.MethodName) prog_24_method_2_code (8 : Nat) (Option.some Jvm.ClassFile.FieldType.boolean)).before args0 about1 = true := code_word (m := ⟨3, 1⟩) (meth := k3m1) (c := k3c1) (by decide +kernel) rfl rfl rfl (by decide +kernel)
set_option maxRecDepth 65536 in
theorem w_c7 : (Jvm.Cond.code ({ cls := "com/example/bookplate/bookplate/marc/Utf8", name := "continues", desc := "([BIIII)Z" } : Jvm.MethodName) prog_24_method_3_code (7 : Nat) (Option.some Jvm.ClassFile.FieldType.boolean)).before args0 about1 = true := code_word (m := ⟨3, 2⟩) (meth := k3m2) (c := k3c2) (by decide +kernel) rfl rfl rfl (by decide +kernel)
def codes1 : List Jvm.Cond := [Jvm.Cond.code x code maxLocals ret, Jvm.Cond.code ({ cls := "java/lang/Math", name := "min", desc := "(II)I" } : Jvm.MethodName) jdk_29_method_69_code (2 : Nat) (Option.some Jvm.ClassFile.FieldType.int), Jvm.Cond.code ({ cls := "java/lang/Math", name := "max", desc := "(II)I" } : Jvm.MethodName) jdk_29_method_65_code (2 : Nat) (Option.some Jvm.ClassFile.FieldType.int), Jvm.Cond.code ({ cls := "com/example/bookplate/bookplate/marc/Utf8IsWellFormedPinLaw", name := "next", desc := "([BII[Z)Z" } : Jvm.MethodName) method_3_code (4 : Nat) (Option.some Jvm.ClassFile.FieldType.boolean), Jvm.Cond.code ({ cls := "com/example/bookplate/bookplate/marc/Utf8IsWellFormedPinLaw", name := "charOk", desc := "([BII)Z" } : Jvm.MethodName) method_5_code (9 : Nat) (Option.some Jvm.ClassFile.FieldType.boolean), Jvm.Cond.code ({ cls := "com/example/bookplate/bookplate/marc/Utf8IsWellFormedPinLaw", name := "len", desc := "(I)I" } : Jvm.MethodName) method_4_code (1 : Nat) (Option.some Jvm.ClassFile.FieldType.int), Jvm.Cond.code ({ cls := "com/example/bookplate/bookplate/marc/Utf8", name := "isWellFormed", desc := "([BII)Z" } : Jvm.MethodName) prog_24_method_2_code (8 : Nat) (Option.some Jvm.ClassFile.FieldType.boolean), Jvm.Cond.code ({ cls := "com/example/bookplate/bookplate/marc/Utf8", name := "continues", desc := "([BIIII)Z" } : Jvm.MethodName) prog_24_method_3_code (7 : Nat) (Option.some Jvm.ClassFile.FieldType.boolean)]
set_option maxRecDepth 65536 in
theorem codes_eq : words1.filter isCode = codes1 := rfl
theorem w_codes : ∀ c ∈ words1.filter isCode, c.before args0 about1 = true := by
  rw [codes_eq]
  intro c hc
  simp only [codes1, List.mem_cons, List.not_mem_nil, or_false] at hc
  rcases hc with rfl | rfl | rfl | rfl | rfl | rfl | rfl | rfl
  · exact w_c0
  · exact w_c1
  · exact w_c2
  · exact w_c3
  · exact w_c4
  · exact w_c5
  · exact w_c6
  · exact w_c7
set_option maxRecDepth 65536 in
theorem w_t1 : (words1.take 24).all (fun c => isCode c || c.before args0 about1) = true := by decide +kernel
set_option maxRecDepth 65536 in
theorem w_t2 : (words1.drop 24).all (fun c => isCode c || c.before args0 about1) = true := by decide +kernel
theorem w_tables : (allAtoms (Jvm.Cond.code x code maxLocals ret :: tables_1)).before args0 about1 = true := by
  rw [allAtoms_all]
  show words1.all (fun c => c.before args0 about1) = true
  refine all_split ?_ w_codes
  rw [← List.take_append_drop 24 words1, List.all_append, w_t1, w_t2]
  rfl
set_option maxRecDepth 65536 in
theorem w_case : (Jvm.Cond.and given_1 narrow_1).before args0 about1 = true := by decide +kernel
theorem w_applies : (headSpec (Jvm.Cond.code x code maxLocals ret :: tables_1) room_1).applies x e0.platform about1 = true :=
  (Spec.applies_iff w_frames).mpr ⟨w_running, w_runnable, w_alone, w_named, w_hears, w_ripe, w_room, w_tables⟩
theorem atStart : AtStart classFile x code maxLocals ret World_1 tables_1 room_1 Calls_1 rest_1 Pre_1 launch0 p0 e0 about1 theMethod args0 below0 :=
  ⟨lists_1, trivial, launch0.admits_env _ _ _, launch0.least_env, fairChoices_fair.cas, fairChoices_fair.clock, w_frames, w_args, w_heap, w_applies, trivial, trivial, w_case⟩
end start1
theorem witness_1 : WitnessClaimed_1 := ⟨start1.p0, start1.e0, start1.about1, start1.theMethod, start1.args0, start1.below0, start1.atStart⟩
end Jvm.Pilot.@@N@@
