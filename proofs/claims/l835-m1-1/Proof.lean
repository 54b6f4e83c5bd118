import JvmDerived
import JvmDerived.Pilot.@@N@@Statement
import JvmDerived.Pilot.@@N@@Code
set_option linter.unusedVariables false
set_option linter.unusedSimpArgs false
namespace Jvm.Pilot.@@N@@
open Jvm Jvm.ClassFile Sem Op Lib Jvm.Free Jvm.Stand Jvm.LawKit Jvm.RoadKit Bundle Jvm.Pilot.@@N@@.Jvm.D
section OwnKit
variable {p : Program} {l : Launch} {e : Env} {R : Room} {s : State} {m : MethodId} {args : Array Value} {below : List Frame} {meth : Method} {c : Code} {T : State} {locs : List Loc} {cells slots : Nat}
/-- from U the walk comes to its end, and there Q holds -/
def own_Go (p : Program) (e : Env) (below : List Frame) (Q : Option Value → Heap → List Loc → Prop) (F : List Loc → Outcome → State → Prop) (U : State) : Prop :=
  ∃ t o, Steps p.tables e below U t ∧ t.status = .running ∧ Ended t below o ∧ ∃ v L, o = .returned v ∧ Q v t.heap L ∧ F L o t
def own_Fr (s : State) (C S : Nat) (L : List Loc) (o : Outcome) (t : State) : Prop := FrameEnd s o t L C S
def own_FrW (s : State) (C S : Nat) (L : List Loc) (o : Outcome) (t : State) : Prop := ReturnedEndW s o t L C S
variable {Q : Option Value → Heap → List Loc → Prop} {F : List Loc → Outcome → State → Prop} {C S : Nat}
theorem own_by {U U' : State} (k : ∀ t, Steps p.tables e below U' t → Steps p.tables e below U t) (h : own_Go p e below Q F U') : own_Go p e below Q F U := by
  obtain ⟨t, o, h1, h2⟩ := h
  exact ⟨t, o, k t h1, h2⟩
theorem own_via {U U' : State} (k : Steps p.tables e below U U') (h : own_Go p e below Q F U') : own_Go p e below Q F U := own_by (fun _ q => k.trans q) h
theorem own_ret (X : Stand p l e R s m args below meth c T locs cells slots) (hx : p.tables.exec = Jvm.exec) {pc : Nat} {Ls : Array Slot} {w : Value} {t : FieldType} {i : Instr} {rest : List Value} (hret : meth.sig.returnType = some t) (hlocks : meth.locks = false)
    (hi : (i = .ireturn ∧ (t = .int ∨ t = .boolean ∨ t = .byte ∨ t = .char ∨ t = .short) ∧ ∃ z, w = .int z) ∨ (i = .lreturn ∧ t = .long ∧ ∃ z, w = .long z) ∨ (i = .dreturn ∧ t = .double ∧ ∃ z, w = .double z) ∨ (i = .freturn ∧ t = .float ∧ ∃ z, w = .float z) ∨ (i = .areturn ∧ t.isReference = true ∧ w.isRef = true))
    (hd : decode c.code pc = .ok (i, 1)) (hn : narrow t w = w) (hc : cells ≤ C) (hs : slots ≤ S) (hQ : Q (some w) T.heap locs) : own_Go p e below Q (own_Fr s C S) (T.setTop (mkF m pc Ls (w :: rest))) := by
  obtain ⟨fs, hr, hrun, hended, hW, hsame⟩ := X.leave (v := some w) (fun h => by rw [hret] at h; cases h) hlocks
  exact ⟨_, _, retOut X hx hret hn hi hd hr, hrun, hended, _, _, rfl, hQ, ⟨_, rfl⟩, hW, hsame.mono hc hs⟩
theorem own_ret0 (X : Stand p l e R s m args below meth c T locs cells slots) (hx : p.tables.exec = Jvm.exec) {pc : Nat} {Ls : Array Slot} {st : List Value} (hret : meth.sig.returnType = none) (hlocks : meth.locks = false)
    (hd : decode c.code pc = .ok (.return_, 1)) (hst : st = []) (hc : cells ≤ C) (hs : slots ≤ S) (hQ : Q none T.heap locs) : own_Go p e below Q (own_Fr s C S) (T.setTop (mkF m pc Ls st)) := by
  subst hst
  obtain ⟨fs, hr, hrun, hended, hW, hsame⟩ := X.leave (v := none) (fun _ => rfl) hlocks
  exact ⟨_, _, X.returnOut hx hret hd hr, hrun, hended, _, _, rfl, hQ, ⟨_, rfl⟩, hW, hsame.mono hc hs⟩
theorem own_retW {s : State} {vm₁ : Vm} {nn : Nat} (X : Stand p l e R (s.setVm vm₁) m args below meth c T locs cells slots) (hx : p.tables.exec = Jvm.exec) {pc : Nat} {Ls : Array Slot} {w : Value} {t : FieldType} {i : Instr} {rest : List Value} (hret : meth.sig.returnType = some t) (hlocks : meth.locks = false) (hS : s.Since vm₁ nn) (hk : nn ≤ T.heap.size)
    (hi : (i = .ireturn ∧ (t = .int ∨ t = .boolean ∨ t = .byte ∨ t = .char ∨ t = .short) ∧ ∃ z, w = .int z) ∨ (i = .lreturn ∧ t = .long ∧ ∃ z, w = .long z) ∨ (i = .dreturn ∧ t = .double ∧ ∃ z, w = .double z) ∨ (i = .freturn ∧ t = .float ∧ ∃ z, w = .float z) ∨ (i = .areturn ∧ t.isReference = true ∧ w.isRef = true))
    (hd : decode c.code pc = .ok (i, 1)) (hn : narrow t w = w) (hc : cells ≤ C) (hs : slots ≤ S) (hQ : Q (some w) T.heap locs) : own_Go p e below Q (own_FrW s C S) (T.setTop (mkF m pc Ls (w :: rest))) := by
  obtain ⟨fs, hr, hrun, hended, hW⟩ := X.leaveW hS hk (v := some w) (fun h => by rw [hret] at h; cases h) hlocks
  exact ⟨_, _, retOut X hx hret hn hi hd hr, hrun, hended, _, _, rfl, hQ, hW.1, hW.2.1, hW.2.2.1, hW.2.2.2.mono hc hs⟩
theorem own_nz {z : Int32} (h : z.toInt = 0 ∨ z.toInt = 1) : narrow .boolean (.int z) = .int z := by
  rcases h with h | h
  · obtain rfl : z = 0 := Int32.toInt_inj.mp h
    rfl
  · obtain rfl : z = 1 := Int32.toInt_inj.mp h
    rfl
theorem own_nb {z : Int32} (h : -128 ≤ z.toInt ∧ z.toInt < 128) : nar .byte z = z := by
  have q := c_i2b z
  exact Int32.toInt_inj.mp (by show z.toInt8.toInt32.toInt = z.toInt; omega)
theorem own_fb {z : Int32} (h : -128 ≤ z.toInt ∧ z.toInt < 128) : fits .byte (.int z) = true := by
  have q := fits_nar_byte z
  rw [show z.toInt8.toInt32 = z from own_nb h] at q
  exact q
theorem own_b01 {z : Int32} (h : z.toInt = 0 ∨ z.toInt = 1) : z = 0 ∨ z = 1 := h.imp (fun q => Int32.toInt_inj.mp q) (fun q => Int32.toInt_inj.mp q)
theorem own_nbool {z : Int32} (h : z.toInt = 0 ∨ z.toInt = 1) : nar .boolean z = z := by rcases own_b01 h with rfl | rfl <;> decide
theorem own_fbool {z : Int32} (h : z.toInt = 0 ∨ z.toInt = 1) : fits .boolean (.int z) = true := by rcases own_b01 h with rfl | rfl <;> decide
theorem own_lt {x y : Int32} : x.toInt < y.toInt ↔ x < y := Int32.lt_iff_toInt_lt.symm
theorem own_yes_lt {x y : Int32} {a b : Int} (ha : x.toInt = a) (hb : y.toInt = b) (h : a < b) : if_icmp.holds .lt x y = true := by subst ha hb; exact (tlt (own_lt.mp h)).1
theorem own_no_lt {x y : Int32} {a b : Int} (ha : x.toInt = a) (hb : y.toInt = b) (h : ¬ a < b) : if_icmp.holds .lt x y = false := by subst ha hb; exact (flt (fun q => h (own_lt.mpr q))).1
theorem own_yes_ge {x y : Int32} {a b : Int} (ha : x.toInt = a) (hb : y.toInt = b) (h : ¬ a < b) : if_icmp.holds .ge x y = true := by subst ha hb; exact (flt (fun q => h (own_lt.mpr q))).2.1
theorem own_no_ge {x y : Int32} {a b : Int} (ha : x.toInt = a) (hb : y.toInt = b) (h : a < b) : if_icmp.holds .ge x y = false := by subst ha hb; exact (tlt (own_lt.mp h)).2.1
theorem own_yes_gt {x y : Int32} {a b : Int} (ha : x.toInt = a) (hb : y.toInt = b) (h : b < a) : if_icmp.holds .gt x y = true := by subst ha hb; exact (tlt (own_lt.mp h)).2.2.1
theorem own_no_gt {x y : Int32} {a b : Int} (ha : x.toInt = a) (hb : y.toInt = b) (h : ¬ b < a) : if_icmp.holds .gt x y = false := by subst ha hb; exact (flt (fun q => h (own_lt.mpr q))).2.2.1
theorem own_yes_le {x y : Int32} {a b : Int} (ha : x.toInt = a) (hb : y.toInt = b) (h : ¬ b < a) : if_icmp.holds .le x y = true := by subst ha hb; exact (flt (fun q => h (own_lt.mpr q))).2.2.2
theorem own_no_le {x y : Int32} {a b : Int} (ha : x.toInt = a) (hb : y.toInt = b) (h : b < a) : if_icmp.holds .le x y = false := by subst ha hb; exact (tlt (own_lt.mp h)).2.2.2
theorem own_yes_eq {x y : Int32} {a b : Int} (ha : x.toInt = a) (hb : y.toInt = b) (h : a = b) : if_icmp.holds .eq x y = true := by subst ha hb; exact (teq (Int32.toInt_inj.mp h)).1
theorem own_no_eq {x y : Int32} {a b : Int} (ha : x.toInt = a) (hb : y.toInt = b) (h : ¬ a = b) : if_icmp.holds .eq x y = false := by subst ha hb; exact (feq (fun q => h (congrArg Int32.toInt q))).1
theorem own_yes_ne {x y : Int32} {a b : Int} (ha : x.toInt = a) (hb : y.toInt = b) (h : ¬ a = b) : if_icmp.holds .ne x y = true := by subst ha hb; exact (feq (fun q => h (congrArg Int32.toInt q))).2
theorem own_no_ne {x y : Int32} {a b : Int} (ha : x.toInt = a) (hb : y.toInt = b) (h : a = b) : if_icmp.holds .ne x y = false := by subst ha hb; exact (teq (Int32.toInt_inj.mp h)).2
theorem own_z {cd : ClassFile.Cond} {x : Int32} {b : Bool} (h : if_icmp.holds cd x 0 = b) : ifCond.holds cd x = b := (if0 cd x).trans h
theorem own_lcm {x y : Int64} {a b : Int} (ha : x.toInt = a) (hb : y.toInt = b) : (a < b ∧ (lcmpW x y).toInt = -1) ∨ (a = b ∧ (lcmpW x y).toInt = 0) ∨ (b < a ∧ (lcmpW x y).toInt = 1) := by
  subst ha hb
  obtain ⟨h1, h2, h3⟩ := c_lcmp x y
  omega
theorem own_ne0 {x : Int32} {a : Int} (ha : x.toInt = a) (h : ¬ a = 0) : x ≠ 0 := fun q => h (by rw [← ha, q]; rfl)
theorem own_iloadN (X : Stand p l e R s m args below meth c T locs cells slots) (hx : p.tables.exec = Jvm.exec) {pc pc' : Nat} {Ls : Array Slot} {st : List Value} {k : Fin 4} {v : Int32} (hl : Ls[k.val]? = some (.val (.int v))) (hd : decode c.code pc = .ok (.iload_n k, 1)) (hp : pc + 1 = pc') (h : own_Go p e below Q F (T.setTop (mkF m pc' Ls (.int v :: st)))) : own_Go p e below Q F (T.setTop (mkF m pc Ls st)) := by
  subst hp
  exact own_by (fun _ q => XS.iloadN X.here hx rfl hd hl q) h
theorem own_iload (X : Stand p l e R s m args below meth c T locs cells slots) (hx : p.tables.exec = Jvm.exec) {pc pc' : Nat} {Ls : Array Slot} {st : List Value} {k : Nat} {v : Int32} (hl : Ls[k]? = some (.val (.int v))) (hd : decode c.code pc = .ok (.iload k, 2)) (hp : pc + 2 = pc') (h : own_Go p e below Q F (T.setTop (mkF m pc' Ls (.int v :: st)))) : own_Go p e below Q F (T.setTop (mkF m pc Ls st)) := by
  subst hp
  exact own_by (fun _ q => XS.iload X.here hx rfl hd hl q) h
theorem own_lloadN (X : Stand p l e R s m args below meth c T locs cells slots) (hx : p.tables.exec = Jvm.exec) {pc pc' : Nat} {Ls : Array Slot} {st : List Value} {k : Fin 4} {v : Int64} (hl : Ls[k.val]? = some (.val (.long v))) (hd : decode c.code pc = .ok (.lload_n k, 1)) (hp : pc + 1 = pc') (h : own_Go p e below Q F (T.setTop (mkF m pc' Ls (.long v :: st)))) : own_Go p e below Q F (T.setTop (mkF m pc Ls st)) := by
  subst hp
  exact own_by (fun _ q => XS.lloadN X.here hx rfl hd hl q) h
theorem own_lload (X : Stand p l e R s m args below meth c T locs cells slots) (hx : p.tables.exec = Jvm.exec) {pc pc' : Nat} {Ls : Array Slot} {st : List Value} {k : Nat} {v : Int64} (hl : Ls[k]? = some (.val (.long v))) (hd : decode c.code pc = .ok (.lload k, 2)) (hp : pc + 2 = pc') (h : own_Go p e below Q F (T.setTop (mkF m pc' Ls (.long v :: st)))) : own_Go p e below Q F (T.setTop (mkF m pc Ls st)) := by
  subst hp
  exact own_by (fun _ q => XS.lload X.here hx rfl hd hl q) h
theorem own_aloadN (X : Stand p l e R s m args below meth c T locs cells slots) (hx : p.tables.exec = Jvm.exec) {pc pc' : Nat} {Ls : Array Slot} {st : List Value} {k : Fin 4} {v : Value} (hl : Ls[k.val]? = some (.val v)) (hv : v.isRef = true) (hd : decode c.code pc = .ok (.aload_n k, 1)) (hp : pc + 1 = pc') (h : own_Go p e below Q F (T.setTop (mkF m pc' Ls (v :: st)))) : own_Go p e below Q F (T.setTop (mkF m pc Ls st)) := by
  subst hp
  exact own_by (fun _ q => XS.aloadN X.here hx rfl hd hl hv q) h
theorem own_aload (X : Stand p l e R s m args below meth c T locs cells slots) (hx : p.tables.exec = Jvm.exec) {pc pc' : Nat} {Ls : Array Slot} {st : List Value} {k : Nat} {v : Value} (hl : Ls[k]? = some (.val v)) (hv : v.isRef = true) (hd : decode c.code pc = .ok (.aload k, 2)) (hp : pc + 2 = pc') (h : own_Go p e below Q F (T.setTop (mkF m pc' Ls (v :: st)))) : own_Go p e below Q F (T.setTop (mkF m pc Ls st)) := by
  subst hp
  exact own_by (fun _ q => XS.aload X.here hx rfl hd hl hv q) h
theorem own_iconst (X : Stand p l e R s m args below meth c T locs cells slots) (hx : p.tables.exec = Jvm.exec) {pc pc' : Nat} {Ls : Array Slot} {st : List Value} {i : Int} (z : Int32) (hz : Int32.ofInt i = z) (hd : decode c.code pc = .ok (.iconst i, 1)) (hp : pc + 1 = pc') (h : own_Go p e below Q F (T.setTop (mkF m pc' Ls (.int z :: st)))) : own_Go p e below Q F (T.setTop (mkF m pc Ls st)) := by
  subst hp hz
  exact own_by (fun _ q => XS.iconst X.here hx rfl hd q) h
theorem own_bipush (X : Stand p l e R s m args below meth c T locs cells slots) (hx : p.tables.exec = Jvm.exec) {pc pc' : Nat} {Ls : Array Slot} {st : List Value} {i : Int} (z : Int32) (hz : (Int8.ofInt i).toInt32 = z) (hd : decode c.code pc = .ok (.bipush i, 2)) (hp : pc + 2 = pc') (h : own_Go p e below Q F (T.setTop (mkF m pc' Ls (.int z :: st)))) : own_Go p e below Q F (T.setTop (mkF m pc Ls st)) := by
  subst hp hz
  exact own_by (fun _ q => XS.bipush X.here hx rfl hd q) h
theorem own_sipush (X : Stand p l e R s m args below meth c T locs cells slots) (hx : p.tables.exec = Jvm.exec) {pc pc' : Nat} {Ls : Array Slot} {st : List Value} {i : Int} (z : Int32) (hz : (Int16.ofInt i).toInt32 = z) (hd : decode c.code pc = .ok (.sipush i, 3)) (hp : pc + 3 = pc') (h : own_Go p e below Q F (T.setTop (mkF m pc' Ls (.int z :: st)))) : own_Go p e below Q F (T.setTop (mkF m pc Ls st)) := by
  subst hp hz
  exact own_by (fun _ q => XS.sipush X.here hx rfl hd q) h
theorem own_lconst (X : Stand p l e R s m args below meth c T locs cells slots) (hx : p.tables.exec = Jvm.exec) {pc pc' : Nat} {Ls : Array Slot} {st : List Value} {k : Fin 2} (z : Int64) (hz : Int64.ofNat k = z) (hd : decode c.code pc = .ok (.lconst k, 1)) (hp : pc + 1 = pc') (h : own_Go p e below Q F (T.setTop (mkF m pc' Ls (.long z :: st)))) : own_Go p e below Q F (T.setTop (mkF m pc Ls st)) := by
  subst hp hz
  exact own_by (fun _ q => XS.lconst X.here hx rfl hd q) h
theorem own_aconstNull (X : Stand p l e R s m args below meth c T locs cells slots) (hx : p.tables.exec = Jvm.exec) {pc pc' : Nat} {Ls : Array Slot} {st : List Value}  (hd : decode c.code pc = .ok (.aconst_null, 1)) (hp : pc + 1 = pc') (h : own_Go p e below Q F (T.setTop (mkF m pc' Ls (.null :: st)))) : own_Go p e below Q F (T.setTop (mkF m pc Ls st)) := by
  subst hp
  exact own_by (fun _ q => XS.aconstNull X.here hx rfl hd q) h
theorem own_iadd (X : Stand p l e R s m args below meth c T locs cells slots) (hx : p.tables.exec = Jvm.exec) {pc pc' : Nat} {Ls : Array Slot} {st : List Value} {x y z : Int32} (hz : x + y = z) (hd : decode c.code pc = .ok (.iadd, 1)) (hp : pc + 1 = pc') (h : own_Go p e below Q F (T.setTop (mkF m pc' Ls (.int z :: st)))) : own_Go p e below Q F (T.setTop (mkF m pc Ls (.int y :: .int x :: st))) := by
  subst hp hz
  exact own_by (fun _ q => XS.iadd X.here hx rfl hd rfl q) h
theorem own_isub (X : Stand p l e R s m args below meth c T locs cells slots) (hx : p.tables.exec = Jvm.exec) {pc pc' : Nat} {Ls : Array Slot} {st : List Value} {x y z : Int32} (hz : x - y = z) (hd : decode c.code pc = .ok (.isub, 1)) (hp : pc + 1 = pc') (h : own_Go p e below Q F (T.setTop (mkF m pc' Ls (.int z :: st)))) : own_Go p e below Q F (T.setTop (mkF m pc Ls (.int y :: .int x :: st))) := by
  subst hp hz
  exact own_by (fun _ q => XS.isub X.here hx rfl hd rfl q) h
theorem own_imul (X : Stand p l e R s m args below meth c T locs cells slots) (hx : p.tables.exec = Jvm.exec) {pc pc' : Nat} {Ls : Array Slot} {st : List Value} {x y z : Int32} (hz : x * y = z) (hd : decode c.code pc = .ok (.imul, 1)) (hp : pc + 1 = pc') (h : own_Go p e below Q F (T.setTop (mkF m pc' Ls (.int z :: st)))) : own_Go p e below Q F (T.setTop (mkF m pc Ls (.int y :: .int x :: st))) := by
  subst hp hz
  exact own_by (fun _ q => XS.imul X.here hx rfl hd rfl q) h
theorem own_iand (X : Stand p l e R s m args below meth c T locs cells slots) (hx : p.tables.exec = Jvm.exec) {pc pc' : Nat} {Ls : Array Slot} {st : List Value} {x y z : Int32} (hz : x &&& y = z) (hd : decode c.code pc = .ok (.iand, 1)) (hp : pc + 1 = pc') (h : own_Go p e below Q F (T.setTop (mkF m pc' Ls (.int z :: st)))) : own_Go p e below Q F (T.setTop (mkF m pc Ls (.int y :: .int x :: st))) := by
  subst hp hz
  exact own_by (fun _ q => XS.iand X.here hx rfl hd rfl q) h
theorem own_ior (X : Stand p l e R s m args below meth c T locs cells slots) (hx : p.tables.exec = Jvm.exec) {pc pc' : Nat} {Ls : Array Slot} {st : List Value} {x y z : Int32} (hz : x ||| y = z) (hd : decode c.code pc = .ok (.ior, 1)) (hp : pc + 1 = pc') (h : own_Go p e below Q F (T.setTop (mkF m pc' Ls (.int z :: st)))) : own_Go p e below Q F (T.setTop (mkF m pc Ls (.int y :: .int x :: st))) := by
  subst hp hz
  exact own_by (fun _ q => XS.ior X.here hx rfl hd rfl q) h
theorem own_ixor (X : Stand p l e R s m args below meth c T locs cells slots) (hx : p.tables.exec = Jvm.exec) {pc pc' : Nat} {Ls : Array Slot} {st : List Value} {x y z : Int32} (hz : x ^^^ y = z) (hd : decode c.code pc = .ok (.ixor, 1)) (hp : pc + 1 = pc') (h : own_Go p e below Q F (T.setTop (mkF m pc' Ls (.int z :: st)))) : own_Go p e below Q F (T.setTop (mkF m pc Ls (.int y :: .int x :: st))) := by
  subst hp hz
  exact own_by (fun _ q => XS.ixor X.here hx rfl hd rfl q) h
theorem own_ishl (X : Stand p l e R s m args below meth c T locs cells slots) (hx : p.tables.exec = Jvm.exec) {pc pc' : Nat} {Ls : Array Slot} {st : List Value} {x y z : Int32} (hz : x <<< (y &&& 31) = z) (hd : decode c.code pc = .ok (.ishl, 1)) (hp : pc + 1 = pc') (h : own_Go p e below Q F (T.setTop (mkF m pc' Ls (.int z :: st)))) : own_Go p e below Q F (T.setTop (mkF m pc Ls (.int y :: .int x :: st))) := by
  subst hp hz
  exact own_by (fun _ q => XS.ishl X.here hx rfl hd rfl q) h
theorem own_ishr (X : Stand p l e R s m args below meth c T locs cells slots) (hx : p.tables.exec = Jvm.exec) {pc pc' : Nat} {Ls : Array Slot} {st : List Value} {x y z : Int32} (hz : x >>> (y &&& 31) = z) (hd : decode c.code pc = .ok (.ishr, 1)) (hp : pc + 1 = pc') (h : own_Go p e below Q F (T.setTop (mkF m pc' Ls (.int z :: st)))) : own_Go p e below Q F (T.setTop (mkF m pc Ls (.int y :: .int x :: st))) := by
  subst hp hz
  exact own_by (fun _ q => XS.ishr X.here hx rfl hd rfl q) h
theorem own_iushr (X : Stand p l e R s m args below meth c T locs cells slots) (hx : p.tables.exec = Jvm.exec) {pc pc' : Nat} {Ls : Array Slot} {st : List Value} {x y z : Int32} (hz : (x.toUInt32 >>> (y &&& 31).toUInt32).toInt32 = z) (hd : decode c.code pc = .ok (.iushr, 1)) (hp : pc + 1 = pc') (h : own_Go p e below Q F (T.setTop (mkF m pc' Ls (.int z :: st)))) : own_Go p e below Q F (T.setTop (mkF m pc Ls (.int y :: .int x :: st))) := by
  subst hp hz
  exact own_by (fun _ q => XS.iushr X.here hx rfl hd rfl q) h
theorem own_idiv (X : Stand p l e R s m args below meth c T locs cells slots) (hx : p.tables.exec = Jvm.exec) {pc pc' : Nat} {Ls : Array Slot} {st : List Value} {x y z : Int32} (hy : y ≠ 0) (hz : x / y = z) (hd : decode c.code pc = .ok (.idiv, 1)) (hp : pc + 1 = pc') (h : own_Go p e below Q F (T.setTop (mkF m pc' Ls (.int z :: st)))) : own_Go p e below Q F (T.setTop (mkF m pc Ls (.int y :: .int x :: st))) := by
  subst hp hz
  exact own_by (fun _ q => XS.idiv X.here hx rfl hd rfl hy q) h
theorem own_irem (X : Stand p l e R s m args below meth c T locs cells slots) (hx : p.tables.exec = Jvm.exec) {pc pc' : Nat} {Ls : Array Slot} {st : List Value} {x y z : Int32} (hy : y ≠ 0) (hz : x % y = z) (hd : decode c.code pc = .ok (.irem, 1)) (hp : pc + 1 = pc') (h : own_Go p e below Q F (T.setTop (mkF m pc' Ls (.int z :: st)))) : own_Go p e below Q F (T.setTop (mkF m pc Ls (.int y :: .int x :: st))) := by
  subst hp hz
  exact own_by (fun _ q => iremM X hx rfl hd rfl hy q) h
theorem own_ladd (X : Stand p l e R s m args below meth c T locs cells slots) (hx : p.tables.exec = Jvm.exec) {pc pc' : Nat} {Ls : Array Slot} {st : List Value} {x y z : Int64} (hz : x + y = z) (hd : decode c.code pc = .ok (.ladd, 1)) (hp : pc + 1 = pc') (h : own_Go p e below Q F (T.setTop (mkF m pc' Ls (.long z :: st)))) : own_Go p e below Q F (T.setTop (mkF m pc Ls (.long y :: .long x :: st))) := by
  subst hp hz
  exact own_by (fun _ q => XS.ladd X.here hx rfl hd rfl q) h
theorem own_lsub (X : Stand p l e R s m args below meth c T locs cells slots) (hx : p.tables.exec = Jvm.exec) {pc pc' : Nat} {Ls : Array Slot} {st : List Value} {x y z : Int64} (hz : x - y = z) (hd : decode c.code pc = .ok (.lsub, 1)) (hp : pc + 1 = pc') (h : own_Go p e below Q F (T.setTop (mkF m pc' Ls (.long z :: st)))) : own_Go p e below Q F (T.setTop (mkF m pc Ls (.long y :: .long x :: st))) := by
  subst hp hz
  exact own_by (fun _ q => XS.lsub X.here hx rfl hd rfl q) h
theorem own_lmul (X : Stand p l e R s m args below meth c T locs cells slots) (hx : p.tables.exec = Jvm.exec) {pc pc' : Nat} {Ls : Array Slot} {st : List Value} {x y z : Int64} (hz : x * y = z) (hd : decode c.code pc = .ok (.lmul, 1)) (hp : pc + 1 = pc') (h : own_Go p e below Q F (T.setTop (mkF m pc' Ls (.long z :: st)))) : own_Go p e below Q F (T.setTop (mkF m pc Ls (.long y :: .long x :: st))) := by
  subst hp hz
  exact own_by (fun _ q => XS.lmul X.here hx rfl hd rfl q) h
theorem own_land (X : Stand p l e R s m args below meth c T locs cells slots) (hx : p.tables.exec = Jvm.exec) {pc pc' : Nat} {Ls : Array Slot} {st : List Value} {x y z : Int64} (hz : x &&& y = z) (hd : decode c.code pc = .ok (.land, 1)) (hp : pc + 1 = pc') (h : own_Go p e below Q F (T.setTop (mkF m pc' Ls (.long z :: st)))) : own_Go p e below Q F (T.setTop (mkF m pc Ls (.long y :: .long x :: st))) := by
  subst hp hz
  exact own_by (fun _ q => XS.land X.here hx rfl hd rfl q) h
theorem own_lor (X : Stand p l e R s m args below meth c T locs cells slots) (hx : p.tables.exec = Jvm.exec) {pc pc' : Nat} {Ls : Array Slot} {st : List Value} {x y z : Int64} (hz : x ||| y = z) (hd : decode c.code pc = .ok (.lor, 1)) (hp : pc + 1 = pc') (h : own_Go p e below Q F (T.setTop (mkF m pc' Ls (.long z :: st)))) : own_Go p e below Q F (T.setTop (mkF m pc Ls (.long y :: .long x :: st))) := by
  subst hp hz
  exact own_by (fun _ q => XS.lor X.here hx rfl hd rfl q) h
theorem own_lcmp (X : Stand p l e R s m args below meth c T locs cells slots) (hx : p.tables.exec = Jvm.exec) {pc pc' : Nat} {Ls : Array Slot} {st : List Value} {x y : Int64} {z : Int32} (hz : lcmpW x y = z) (hd : decode c.code pc = .ok (.lcmp, 1)) (hp : pc + 1 = pc') (h : own_Go p e below Q F (T.setTop (mkF m pc' Ls (.int z :: st)))) : own_Go p e below Q F (T.setTop (mkF m pc Ls (.long y :: .long x :: st))) := by
  subst hp hz
  exact own_by (fun _ q => XS.lcmp X.here hx rfl hd rfl q) h
theorem own_ineg (X : Stand p l e R s m args below meth c T locs cells slots) (hx : p.tables.exec = Jvm.exec) {pc pc' : Nat} {Ls : Array Slot} {st : List Value} {x z : Int32} (hz : -x = z) (hd : decode c.code pc = .ok (.ineg, 1)) (hp : pc + 1 = pc') (h : own_Go p e below Q F (T.setTop (mkF m pc' Ls (.int z :: st)))) : own_Go p e below Q F (T.setTop (mkF m pc Ls (.int x :: st))) := by
  subst hp hz
  exact own_by (fun _ q => XS.ineg X.here hx rfl hd rfl q) h
theorem own_i2l (X : Stand p l e R s m args below meth c T locs cells slots) (hx : p.tables.exec = Jvm.exec) {pc pc' : Nat} {Ls : Array Slot} {st : List Value} {x : Int32} {z : Int64} (hz : x.toInt64 = z) (hd : decode c.code pc = .ok (.i2l, 1)) (hp : pc + 1 = pc') (h : own_Go p e below Q F (T.setTop (mkF m pc' Ls (.long z :: st)))) : own_Go p e below Q F (T.setTop (mkF m pc Ls (.int x :: st))) := by
  subst hp hz
  exact own_by (fun _ q => XS.i2l X.here hx rfl hd rfl q) h
theorem own_l2i (X : Stand p l e R s m args below meth c T locs cells slots) (hx : p.tables.exec = Jvm.exec) {pc pc' : Nat} {Ls : Array Slot} {st : List Value} {x : Int64} {z : Int32} (hz : x.toInt32 = z) (hd : decode c.code pc = .ok (.l2i, 1)) (hp : pc + 1 = pc') (h : own_Go p e below Q F (T.setTop (mkF m pc' Ls (.int z :: st)))) : own_Go p e below Q F (T.setTop (mkF m pc Ls (.long x :: st))) := by
  subst hp hz
  exact own_by (fun _ q => XS.l2i X.here hx rfl hd rfl q) h
theorem own_i2b (X : Stand p l e R s m args below meth c T locs cells slots) (hx : p.tables.exec = Jvm.exec) {pc pc' : Nat} {Ls : Array Slot} {st : List Value} {x z : Int32} (hz : x.toInt8.toInt32 = z) (hd : decode c.code pc = .ok (.i2b, 1)) (hp : pc + 1 = pc') (h : own_Go p e below Q F (T.setTop (mkF m pc' Ls (.int z :: st)))) : own_Go p e below Q F (T.setTop (mkF m pc Ls (.int x :: st))) := by
  subst hp hz
  exact own_by (fun _ q => XS.i2b X.here hx rfl hd rfl q) h
theorem own_i2c (X : Stand p l e R s m args below meth c T locs cells slots) (hx : p.tables.exec = Jvm.exec) {pc pc' : Nat} {Ls : Array Slot} {st : List Value} {x z : Int32} (hz : x.toUInt32.toUInt16.toUInt32.toInt32 = z) (hd : decode c.code pc = .ok (.i2c, 1)) (hp : pc + 1 = pc') (h : own_Go p e below Q F (T.setTop (mkF m pc' Ls (.int z :: st)))) : own_Go p e below Q F (T.setTop (mkF m pc Ls (.int x :: st))) := by
  subst hp hz
  exact own_by (fun _ q => XS.i2c X.here hx rfl hd rfl q) h
theorem own_i2s (X : Stand p l e R s m args below meth c T locs cells slots) (hx : p.tables.exec = Jvm.exec) {pc pc' : Nat} {Ls : Array Slot} {st : List Value} {x z : Int32} (hz : x.toInt16.toInt32 = z) (hd : decode c.code pc = .ok (.i2s, 1)) (hp : pc + 1 = pc') (h : own_Go p e below Q F (T.setTop (mkF m pc' Ls (.int z :: st)))) : own_Go p e below Q F (T.setTop (mkF m pc Ls (.int x :: st))) := by
  subst hp hz
  exact own_by (fun _ q => XS.i2s X.here hx rfl hd rfl q) h
theorem own_dup (X : Stand p l e R s m args below meth c T locs cells slots) (hx : p.tables.exec = Jvm.exec) {pc pc' : Nat} {Ls : Array Slot} {st : List Value} {x : Value} (hc : x.category = 1) (hd : decode c.code pc = .ok (.dup, 1)) (hp : pc + 1 = pc') (h : own_Go p e below Q F (T.setTop (mkF m pc' Ls (x :: x :: st)))) : own_Go p e below Q F (T.setTop (mkF m pc Ls (x :: st))) := by
  subst hp
  exact own_by (fun _ q => XS.dup X.here hx rfl hd rfl hc q) h
theorem own_dupX1 (X : Stand p l e R s m args below meth c T locs cells slots) (hx : p.tables.exec = Jvm.exec) {pc pc' : Nat} {Ls : Array Slot} {st : List Value} {x y : Value} (hc : x.category = 1) (hc2 : y.category = 1) (hd : decode c.code pc = .ok (.dup_x1, 1)) (hp : pc + 1 = pc') (h : own_Go p e below Q F (T.setTop (mkF m pc' Ls (x :: y :: x :: st)))) : own_Go p e below Q F (T.setTop (mkF m pc Ls (x :: y :: st))) := by
  subst hp
  exact own_by (fun _ q => XS.dupX1 X.here hx rfl hd rfl hc hc2 q) h
theorem own_pop (X : Stand p l e R s m args below meth c T locs cells slots) (hx : p.tables.exec = Jvm.exec) {pc pc' : Nat} {Ls : Array Slot} {st : List Value} {x : Value} (hc : x.category = 1) (hd : decode c.code pc = .ok (.pop, 1)) (hp : pc + 1 = pc') (h : own_Go p e below Q F (T.setTop (mkF m pc' Ls st))) : own_Go p e below Q F (T.setTop (mkF m pc Ls (x :: st))) := by
  subst hp
  exact own_by (fun _ q => XS.pop X.here hx rfl hd rfl hc q) h
theorem own_istoreN (X : Stand p l e R s m args below meth c T locs cells slots) (hx : p.tables.exec = Jvm.exec) {pc pc' : Nat} {Ls : Array Slot} {st : List Value} {k : Fin 4} {x : Int32} (L' : Array Slot) (hl : storeLocals Ls k.val (.int x) = some L') (hd : decode c.code pc = .ok (.istore_n k, 1)) (hp : pc + 1 = pc') (h : own_Go p e below Q F (T.setTop (mkF m pc' L' st))) : own_Go p e below Q F (T.setTop (mkF m pc Ls (.int x :: st))) := by
  subst hp
  exact own_by (fun _ q => XS.istoreN X.here hx rfl hd rfl hl q) h
theorem own_istore (X : Stand p l e R s m args below meth c T locs cells slots) (hx : p.tables.exec = Jvm.exec) {pc pc' : Nat} {Ls : Array Slot} {st : List Value} {k : Nat} {x : Int32} (L' : Array Slot) (hl : storeLocals Ls k (.int x) = some L') (hd : decode c.code pc = .ok (.istore k, 2)) (hp : pc + 2 = pc') (h : own_Go p e below Q F (T.setTop (mkF m pc' L' st))) : own_Go p e below Q F (T.setTop (mkF m pc Ls (.int x :: st))) := by
  subst hp
  exact own_by (fun _ q => XS.istore X.here hx rfl hd rfl hl q) h
theorem own_lstoreN (X : Stand p l e R s m args below meth c T locs cells slots) (hx : p.tables.exec = Jvm.exec) {pc pc' : Nat} {Ls : Array Slot} {st : List Value} {k : Fin 4} {x : Int64} (L' : Array Slot) (hl : storeLocals Ls k.val (.long x) = some L') (hd : decode c.code pc = .ok (.lstore_n k, 1)) (hp : pc + 1 = pc') (h : own_Go p e below Q F (T.setTop (mkF m pc' L' st))) : own_Go p e below Q F (T.setTop (mkF m pc Ls (.long x :: st))) := by
  subst hp
  exact own_by (fun _ q => XS.lstoreN X.here hx rfl hd rfl hl q) h
theorem own_lstore (X : Stand p l e R s m args below meth c T locs cells slots) (hx : p.tables.exec = Jvm.exec) {pc pc' : Nat} {Ls : Array Slot} {st : List Value} {k : Nat} {x : Int64} (L' : Array Slot) (hl : storeLocals Ls k (.long x) = some L') (hd : decode c.code pc = .ok (.lstore k, 2)) (hp : pc + 2 = pc') (h : own_Go p e below Q F (T.setTop (mkF m pc' L' st))) : own_Go p e below Q F (T.setTop (mkF m pc Ls (.long x :: st))) := by
  subst hp
  exact own_by (fun _ q => XS.lstore X.here hx rfl hd rfl hl q) h
theorem own_astoreN (X : Stand p l e R s m args below meth c T locs cells slots) (hx : p.tables.exec = Jvm.exec) {pc pc' : Nat} {Ls : Array Slot} {st : List Value} {k : Fin 4} {x : Value} (L' : Array Slot) (hv : x.isRef = true) (hl : storeLocals Ls k.val x = some L') (hd : decode c.code pc = .ok (.astore_n k, 1)) (hp : pc + 1 = pc') (h : own_Go p e below Q F (T.setTop (mkF m pc' L' st))) : own_Go p e below Q F (T.setTop (mkF m pc Ls (x :: st))) := by
  subst hp
  exact own_by (fun _ q => XS.astoreN X.here hx rfl hd rfl hv hl q) h
theorem own_astore (X : Stand p l e R s m args below meth c T locs cells slots) (hx : p.tables.exec = Jvm.exec) {pc pc' : Nat} {Ls : Array Slot} {st : List Value} {k : Nat} {x : Value} (L' : Array Slot) (hv : x.isRef = true) (hl : storeLocals Ls k x = some L') (hd : decode c.code pc = .ok (.astore k, 2)) (hp : pc + 2 = pc') (h : own_Go p e below Q F (T.setTop (mkF m pc' L' st))) : own_Go p e below Q F (T.setTop (mkF m pc Ls (x :: st))) := by
  subst hp
  exact own_by (fun _ q => XS.astore X.here hx rfl hd rfl hv hl q) h
theorem own_iinc (X : Stand p l e R s m args below meth c T locs cells slots) (hx : p.tables.exec = Jvm.exec) {pc pc' : Nat} {Ls : Array Slot} {st : List Value} {k : Nat} {cst : Int} {x z : Int32} (L' : Array Slot) (hv : Ls[k]? = some (.val (.int x))) (hz : x + Int32.ofInt cst = z) (hl : storeLocals Ls k (.int z) = some L') (hd : decode c.code pc = .ok (.iinc k cst, 3)) (hp : pc + 3 = pc') (h : own_Go p e below Q F (T.setTop (mkF m pc' L' st))) : own_Go p e below Q F (T.setTop (mkF m pc Ls st)) := by
  subst hp hz
  exact own_by (fun _ q => XS.iinc X.here hx rfl hd hv hl q) h
theorem own_goto (X : Stand p l e R s m args below meth c T locs cells slots) (hx : p.tables.exec = Jvm.exec) {pc pc' : Nat} {Ls : Array Slot} {st : List Value} {o : Int}  (hd : decode c.code pc = .ok (.goto o, 3))  (ho : 0 ≤ (pc : Int) + o) (hp : ((pc : Int) + o).toNat = pc') (h : own_Go p e below Q F (T.setTop (mkF m pc' Ls st))) : own_Go p e below Q F (T.setTop (mkF m pc Ls st)) := by
  exact own_by (fun _ q => XS.goto X.here hx rfl rfl hd ho hp q) h
theorem own_ifYes (X : Stand p l e R s m args below meth c T locs cells slots) (hx : p.tables.exec = Jvm.exec) {pc pc' : Nat} {Ls : Array Slot} {st : List Value} {o : Int} {cd : ClassFile.Cond} {x : Int32} (hd : decode c.code pc = .ok (.ifCond cd o, 3)) (hc : ifCond.holds cd x = true) (ho : 0 ≤ (pc : Int) + o) (hp : ((pc : Int) + o).toNat = pc') (h : own_Go p e below Q F (T.setTop (mkF m pc' Ls st))) : own_Go p e below Q F (T.setTop (mkF m pc Ls (.int x :: st))) := by
  exact own_by (fun _ q => XS.ifYes X.here hx rfl rfl hd rfl hc ho hp q) h
theorem own_icmpYes (X : Stand p l e R s m args below meth c T locs cells slots) (hx : p.tables.exec = Jvm.exec) {pc pc' : Nat} {Ls : Array Slot} {st : List Value} {o : Int} {cd : ClassFile.Cond} {x y : Int32} (hd : decode c.code pc = .ok (.if_icmp cd o, 3)) (hc : if_icmp.holds cd x y = true) (ho : 0 ≤ (pc : Int) + o) (hp : ((pc : Int) + o).toNat = pc') (h : own_Go p e below Q F (T.setTop (mkF m pc' Ls st))) : own_Go p e below Q F (T.setTop (mkF m pc Ls (.int y :: .int x :: st))) := by
  exact own_by (fun _ q => XS.icmpYes X.here hx rfl rfl hd rfl hc ho hp q) h
theorem own_ifnullYes (X : Stand p l e R s m args below meth c T locs cells slots) (hx : p.tables.exec = Jvm.exec) {pc pc' : Nat} {Ls : Array Slot} {st : List Value} {o : Int}  (hd : decode c.code pc = .ok (.ifnull o, 3))  (ho : 0 ≤ (pc : Int) + o) (hp : ((pc : Int) + o).toNat = pc') (h : own_Go p e below Q F (T.setTop (mkF m pc' Ls st))) : own_Go p e below Q F (T.setTop (mkF m pc Ls (.null :: st))) := by
  exact own_by (fun _ q => XS.ifnullYes X.here hx rfl rfl hd rfl ho hp q) h
theorem own_ifnonnullYes (X : Stand p l e R s m args below meth c T locs cells slots) (hx : p.tables.exec = Jvm.exec) {pc pc' : Nat} {Ls : Array Slot} {st : List Value} {o : Int} {b : Addr} (hd : decode c.code pc = .ok (.ifnonnull o, 3))  (ho : 0 ≤ (pc : Int) + o) (hp : ((pc : Int) + o).toNat = pc') (h : own_Go p e below Q F (T.setTop (mkF m pc' Ls st))) : own_Go p e below Q F (T.setTop (mkF m pc Ls (.ref b :: st))) := by
  exact own_by (fun _ q => XS.ifnonnullYes X.here hx rfl rfl hd rfl ho hp q) h
theorem own_acmpYes (X : Stand p l e R s m args below meth c T locs cells slots) (hx : p.tables.exec = Jvm.exec) {pc pc' : Nat} {Ls : Array Slot} {st : List Value} {o : Int} {cd : ClassFile.ACond} {a b : Addr} (hd : decode c.code pc = .ok (.if_acmp cd o, 3)) (hc : if_acmp.holds cd (some a) (some b) = true) (ho : 0 ≤ (pc : Int) + o) (hp : ((pc : Int) + o).toNat = pc') (h : own_Go p e below Q F (T.setTop (mkF m pc' Ls st))) : own_Go p e below Q F (T.setTop (mkF m pc Ls (.ref b :: .ref a :: st))) := by
  exact own_by (fun _ q => XS.acmpYes X.here hx rfl rfl hd rfl hc ho hp q) h
theorem own_ifNo (X : Stand p l e R s m args below meth c T locs cells slots) (hx : p.tables.exec = Jvm.exec) {pc pc' : Nat} {Ls : Array Slot} {st : List Value} {cd : ClassFile.Cond} {x : Int32} {o : Int} (hc : ifCond.holds cd x = false) (hd : decode c.code pc = .ok (.ifCond cd o, 3)) (hp : pc + 3 = pc') (h : own_Go p e below Q F (T.setTop (mkF m pc' Ls st))) : own_Go p e below Q F (T.setTop (mkF m pc Ls (.int x :: st))) := by
  subst hp
  exact own_by (fun _ q => XS.ifNo X.here hx rfl hd rfl hc q) h
theorem own_icmpNo (X : Stand p l e R s m args below meth c T locs cells slots) (hx : p.tables.exec = Jvm.exec) {pc pc' : Nat} {Ls : Array Slot} {st : List Value} {cd : ClassFile.Cond} {x y : Int32} {o : Int} (hc : if_icmp.holds cd x y = false) (hd : decode c.code pc = .ok (.if_icmp cd o, 3)) (hp : pc + 3 = pc') (h : own_Go p e below Q F (T.setTop (mkF m pc' Ls st))) : own_Go p e below Q F (T.setTop (mkF m pc Ls (.int y :: .int x :: st))) := by
  subst hp
  exact own_by (fun _ q => XS.icmpNo X.here hx rfl hd rfl hc q) h
theorem own_ifnullNo (X : Stand p l e R s m args below meth c T locs cells slots) (hx : p.tables.exec = Jvm.exec) {pc pc' : Nat} {Ls : Array Slot} {st : List Value} {b : Addr} {o : Int}  (hd : decode c.code pc = .ok (.ifnull o, 3)) (hp : pc + 3 = pc') (h : own_Go p e below Q F (T.setTop (mkF m pc' Ls st))) : own_Go p e below Q F (T.setTop (mkF m pc Ls (.ref b :: st))) := by
  subst hp
  exact own_by (fun _ q => XS.ifnullNo X.here hx rfl hd rfl q) h
theorem own_ifnonnullNo (X : Stand p l e R s m args below meth c T locs cells slots) (hx : p.tables.exec = Jvm.exec) {pc pc' : Nat} {Ls : Array Slot} {st : List Value} {o : Int}  (hd : decode c.code pc = .ok (.ifnonnull o, 3)) (hp : pc + 3 = pc') (h : own_Go p e below Q F (T.setTop (mkF m pc' Ls st))) : own_Go p e below Q F (T.setTop (mkF m pc Ls (.null :: st))) := by
  subst hp
  exact own_by (fun _ q => XS.ifnonnullNo X.here hx rfl hd rfl q) h
theorem own_acmpNo (X : Stand p l e R s m args below meth c T locs cells slots) (hx : p.tables.exec = Jvm.exec) {pc pc' : Nat} {Ls : Array Slot} {st : List Value} {cd : ClassFile.ACond} {a b : Addr} {o : Int} (hc : if_acmp.holds cd (some a) (some b) = false) (hd : decode c.code pc = .ok (.if_acmp cd o, 3)) (hp : pc + 3 = pc') (h : own_Go p e below Q F (T.setTop (mkF m pc' Ls st))) : own_Go p e below Q F (T.setTop (mkF m pc Ls (.ref b :: .ref a :: st))) := by
  subst hp
  exact own_by (fun _ q => XS.acmpNo X.here hx rfl hd rfl hc q) h
theorem own_ldcInt (X : Stand p l e R s m args below meth c T locs cells slots) (hx : p.tables.exec = Jvm.exec) {pc pc' : Nat} {Ls : Array Slot} {st : List Value} {Z : State} {a0 : Array Value} {own : String} {index : Nat} {v : Int32} (hZ : Z.Warmed39 s.vm) (hown : s.vm.findClass own = some m.cls) (w : (Jvm.Cond.constant own index v).before a0 Z = true) (hd : decode c.code pc = .ok (.ldc index, 2)) (hp : pc + 2 = pc') (h : own_Go p e below Q F (T.setTop (mkF m pc' Ls (.int v :: st)))) : own_Go p e below Q F (T.setTop (mkF m pc Ls st)) := by
  subst hp
  exact own_by (fun _ q => X.ldcInt hx hown (mv hZ w) (g := mkF m pc Ls st) rfl hd _ q) h
theorem own_ldc2Long (X : Stand p l e R s m args below meth c T locs cells slots) (hx : p.tables.exec = Jvm.exec) {pc pc' : Nat} {Ls : Array Slot} {st : List Value} {Z : State} {a0 : Array Value} {own : String} {index : Nat} {v : Int64} (hZ : Z.Warmed39 s.vm) (hown : s.vm.findClass own = some m.cls) (w : (Jvm.Cond.constantLong own index v).before a0 Z = true) (hd : decode c.code pc = .ok (.ldc2_w index, 3)) (hp : pc + 3 = pc') (h : own_Go p e below Q F (T.setTop (mkF m pc' Ls (.long v :: st)))) : own_Go p e below Q F (T.setTop (mkF m pc Ls st)) := by
  subst hp
  exact own_by (fun _ q => X.ldc2Long hx hown (mv hZ w) (g := mkF m pc Ls st) rfl hd _ q) h
theorem own_lyes_lt {x y : Int64} {a b : Int} (ha : x.toInt = a) (hb : y.toInt = b) (h : a < b) : ifCond.holds .lt (lcmpW x y) = true := by
  have q := own_lcm ha hb
  have r :  (lcmpW x y).toInt < 0 := by omega
  exact own_z (own_yes_lt rfl rfl r)
theorem own_lno_lt {x y : Int64} {a b : Int} (ha : x.toInt = a) (hb : y.toInt = b) (h : ¬ a < b) : ifCond.holds .lt (lcmpW x y) = false := by
  have q := own_lcm ha hb
  have r : ¬ (lcmpW x y).toInt < 0 := by omega
  exact own_z (own_no_lt rfl rfl r)
theorem own_lyes_ge {x y : Int64} {a b : Int} (ha : x.toInt = a) (hb : y.toInt = b) (h : ¬ a < b) : ifCond.holds .ge (lcmpW x y) = true := by
  have q := own_lcm ha hb
  have r : ¬ (lcmpW x y).toInt < 0 := by omega
  exact own_z (own_yes_ge rfl rfl r)
theorem own_lno_ge {x y : Int64} {a b : Int} (ha : x.toInt = a) (hb : y.toInt = b) (h : a < b) : ifCond.holds .ge (lcmpW x y) = false := by
  have q := own_lcm ha hb
  have r :  (lcmpW x y).toInt < 0 := by omega
  exact own_z (own_no_ge rfl rfl r)
theorem own_lyes_gt {x y : Int64} {a b : Int} (ha : x.toInt = a) (hb : y.toInt = b) (h : b < a) : ifCond.holds .gt (lcmpW x y) = true := by
  have q := own_lcm ha hb
  have r :  0 < (lcmpW x y).toInt := by omega
  exact own_z (own_yes_gt rfl rfl r)
theorem own_lno_gt {x y : Int64} {a b : Int} (ha : x.toInt = a) (hb : y.toInt = b) (h : ¬ b < a) : ifCond.holds .gt (lcmpW x y) = false := by
  have q := own_lcm ha hb
  have r : ¬ 0 < (lcmpW x y).toInt := by omega
  exact own_z (own_no_gt rfl rfl r)
theorem own_lyes_le {x y : Int64} {a b : Int} (ha : x.toInt = a) (hb : y.toInt = b) (h : ¬ b < a) : ifCond.holds .le (lcmpW x y) = true := by
  have q := own_lcm ha hb
  have r : ¬ 0 < (lcmpW x y).toInt := by omega
  exact own_z (own_yes_le rfl rfl r)
theorem own_lno_le {x y : Int64} {a b : Int} (ha : x.toInt = a) (hb : y.toInt = b) (h : b < a) : ifCond.holds .le (lcmpW x y) = false := by
  have q := own_lcm ha hb
  have r :  0 < (lcmpW x y).toInt := by omega
  exact own_z (own_no_le rfl rfl r)
theorem own_lyes_eq {x y : Int64} {a b : Int} (ha : x.toInt = a) (hb : y.toInt = b) (h : a = b) : ifCond.holds .eq (lcmpW x y) = true := by
  have q := own_lcm ha hb
  have r :  (lcmpW x y).toInt = 0 := by omega
  exact own_z (own_yes_eq rfl rfl r)
theorem own_lno_eq {x y : Int64} {a b : Int} (ha : x.toInt = a) (hb : y.toInt = b) (h : ¬ a = b) : ifCond.holds .eq (lcmpW x y) = false := by
  have q := own_lcm ha hb
  have r : ¬ (lcmpW x y).toInt = 0 := by omega
  exact own_z (own_no_eq rfl rfl r)
theorem own_lyes_ne {x y : Int64} {a b : Int} (ha : x.toInt = a) (hb : y.toInt = b) (h : ¬ a = b) : ifCond.holds .ne (lcmpW x y) = true := by
  have q := own_lcm ha hb
  have r : ¬ (lcmpW x y).toInt = 0 := by omega
  exact own_z (own_yes_ne rfl rfl r)
theorem own_lno_ne {x y : Int64} {a b : Int} (ha : x.toInt = a) (hb : y.toInt = b) (h : a = b) : ifCond.holds .ne (lcmpW x y) = false := by
  have q := own_lcm ha hb
  have r :  (lcmpW x y).toInt = 0 := by omega
  exact own_z (own_no_ne rfl rfl r)
theorem own_tswIn (X : Stand p l e R s m args below meth c T locs cells slots) (hx : p.tables.exec = Jvm.exec) {pc pc' : Nat} {Ls : Array Slot} {st : List Value} {dflt low high : Int} {offs : Array Int} {len : Nat} (o : Int) {i : Int32} (hd : decode c.code pc = .ok (.tableswitch dflt low high offs, len)) (hin : ¬ (i.toInt < low ∨ i.toInt > high)) (hoff : offs[(i.toInt - low).toNat]? = some o) (ho : 0 ≤ (pc : Int) + o) (hp : ((pc : Int) + o).toNat = pc') (h : own_Go p e below Q F (T.setTop (mkF m pc' Ls st))) : own_Go p e below Q F (T.setTop (mkF m pc Ls (.int i :: st))) := by
  exact own_by (fun _ q => XS.tswIn X.here hx rfl rfl hd rfl hin hoff ho hp q) h
theorem own_tswOut (X : Stand p l e R s m args below meth c T locs cells slots) (hx : p.tables.exec = Jvm.exec) {pc pc' : Nat} {Ls : Array Slot} {st : List Value} {dflt low high : Int} {offs : Array Int} {len : Nat} {i : Int32} (hd : decode c.code pc = .ok (.tableswitch dflt low high offs, len)) (hout : i.toInt < low ∨ i.toInt > high) (ho : 0 ≤ (pc : Int) + dflt) (hp : ((pc : Int) + dflt).toNat = pc') (h : own_Go p e below Q F (T.setTop (mkF m pc' Ls st))) : own_Go p e below Q F (T.setTop (mkF m pc Ls (.int i :: st))) := by
  exact own_by (fun _ q => XS.tswOut X.here hx rfl rfl hd rfl hout ho hp q) h
end OwnKit
section OwnF
variable {p : Program} {l : Launch} {e : Env} {R : Room} {s : State} {m : MethodId} {args : Array Value} {below : List Frame} {meth : Method} {c : Code} {T : State} {locs : List Loc} {cells slots : Nat}
variable {Q : Option Value → Heap → List Loc → Prop} {F : List Loc → Outcome → State → Prop} {C S : Nat}
theorem own_sI2d (X : Stand p l e R s m args below meth c T locs cells slots) (hx : p.tables.exec = Jvm.exec) {pc pc' : Nat} {Ls : Array Slot} {st : List Value} {y : Int32} {v : UInt64} (hv : FP.i2d y = v) (hd : decode c.code pc = .ok (.i2d, 1)) (hp : pc + 1 = pc') (h : own_Go p e below Q F (T.setTop (mkF m pc' Ls (.double v :: st)))) : own_Go p e below Q F (T.setTop (mkF m pc Ls (.int y :: st))) := by
  subst hp
  exact own_by (fun _ q => XS.i2dS X.here hx rfl hd rfl hv q) h
theorem own_sL2d (X : Stand p l e R s m args below meth c T locs cells slots) (hx : p.tables.exec = Jvm.exec) {pc pc' : Nat} {Ls : Array Slot} {st : List Value} {y : Int64} {v : UInt64} (hv : FP.l2d y = v) (hd : decode c.code pc = .ok (.l2d, 1)) (hp : pc + 1 = pc') (h : own_Go p e below Q F (T.setTop (mkF m pc' Ls (.double v :: st)))) : own_Go p e below Q F (T.setTop (mkF m pc Ls (.long y :: st))) := by
  subst hp
  exact own_by (fun _ q => XS.l2dS X.here hx rfl hd rfl hv q) h
theorem own_sdadd (X : Stand p l e R s m args below meth c T locs cells slots) (hx : p.tables.exec = Jvm.exec) {pc pc' : Nat} {Ls : Array Slot} {st : List Value} {y z v : UInt64} (hn : Jvm.Free.Fl.NoNaN64 (FP.dadd y z)) (hv : FP.dadd y z = v) (hd : decode c.code pc = .ok (.dadd, 1)) (hp : pc + 1 = pc') (h : own_Go p e below Q F (T.setTop (mkF m pc' Ls (.double v :: st)))) : own_Go p e below Q F (T.setTop (mkF m pc Ls (.double z :: .double y :: st))) := by
  subst hp
  exact own_by (fun _ q => XS.daddS X.here hx rfl hd rfl hn hv q) h
theorem own_sdsub (X : Stand p l e R s m args below meth c T locs cells slots) (hx : p.tables.exec = Jvm.exec) {pc pc' : Nat} {Ls : Array Slot} {st : List Value} {y z v : UInt64} (hn : Jvm.Free.Fl.NoNaN64 (FP.dsub y z)) (hv : FP.dsub y z = v) (hd : decode c.code pc = .ok (.dsub, 1)) (hp : pc + 1 = pc') (h : own_Go p e below Q F (T.setTop (mkF m pc' Ls (.double v :: st)))) : own_Go p e below Q F (T.setTop (mkF m pc Ls (.double z :: .double y :: st))) := by
  subst hp
  exact own_by (fun _ q => XS.dsubS X.here hx rfl hd rfl hn hv q) h
theorem own_sdmul (X : Stand p l e R s m args below meth c T locs cells slots) (hx : p.tables.exec = Jvm.exec) {pc pc' : Nat} {Ls : Array Slot} {st : List Value} {y z v : UInt64} (hn : Jvm.Free.Fl.NoNaN64 (FP.dmul y z)) (hv : FP.dmul y z = v) (hd : decode c.code pc = .ok (.dmul, 1)) (hp : pc + 1 = pc') (h : own_Go p e below Q F (T.setTop (mkF m pc' Ls (.double v :: st)))) : own_Go p e below Q F (T.setTop (mkF m pc Ls (.double z :: .double y :: st))) := by
  subst hp
  exact own_by (fun _ q => XS.dmulS X.here hx rfl hd rfl hn hv q) h
theorem own_sddiv (X : Stand p l e R s m args below meth c T locs cells slots) (hx : p.tables.exec = Jvm.exec) {pc pc' : Nat} {Ls : Array Slot} {st : List Value} {y z v : UInt64} (hn : Jvm.Free.Fl.NoNaN64 (FP.ddiv y z)) (hv : FP.ddiv y z = v) (hd : decode c.code pc = .ok (.ddiv, 1)) (hp : pc + 1 = pc') (h : own_Go p e below Q F (T.setTop (mkF m pc' Ls (.double v :: st)))) : own_Go p e below Q F (T.setTop (mkF m pc Ls (.double z :: .double y :: st))) := by
  subst hp
  exact own_by (fun _ q => XS.ddivS X.here hx rfl hd rfl hn hv q) h
theorem own_sdcmp (X : Stand p l e R s m args below meth c T locs cells slots) (hx : p.tables.exec = Jvm.exec) {pc pc' : Nat} {Ls : Array Slot} {st : List Value} {o : CmpOp} {y z : UInt64} {v : Int32} (hv : cmpValue (FP.dcmp y z) o = v) (hd : decode c.code pc = .ok (.dcmp o, 1)) (hp : pc + 1 = pc') (h : own_Go p e below Q F (T.setTop (mkF m pc' Ls (.int v :: st)))) : own_Go p e below Q F (T.setTop (mkF m pc Ls (.double z :: .double y :: st))) := by
  subst hp
  exact own_by (fun _ q => XS.dcmpS X.here hx rfl hd rfl hv q) h
theorem own_sdloadN (X : Stand p l e R s m args below meth c T locs cells slots) (hx : p.tables.exec = Jvm.exec) {pc pc' : Nat} {Ls : Array Slot} {st : List Value} {k : Fin 4} {v : UInt64} (hl : Ls[k.val]? = some (.val (.double v))) (hd : decode c.code pc = .ok (.dload_n k, 1)) (hp : pc + 1 = pc') (h : own_Go p e below Q F (T.setTop (mkF m pc' Ls (.double v :: st)))) : own_Go p e below Q F (T.setTop (mkF m pc Ls st)) := by
  subst hp
  exact own_by (fun _ q => XS.dloadN X.here hx rfl hd hl q) h
theorem own_sdload (X : Stand p l e R s m args below meth c T locs cells slots) (hx : p.tables.exec = Jvm.exec) {pc pc' : Nat} {Ls : Array Slot} {st : List Value} {k : Nat} {v : UInt64} (hl : Ls[k]? = some (.val (.double v))) (hd : decode c.code pc = .ok (.dload k, 2)) (hp : pc + 2 = pc') (h : own_Go p e below Q F (T.setTop (mkF m pc' Ls (.double v :: st)))) : own_Go p e below Q F (T.setTop (mkF m pc Ls st)) := by
  subst hp
  exact own_by (fun _ q => XS.dload X.here hx rfl hd hl q) h
theorem own_sdstore (X : Stand p l e R s m args below meth c T locs cells slots) (hx : p.tables.exec = Jvm.exec) {pc pc' : Nat} {Ls : Array Slot} {st : List Value} {k : Nat} {y : UInt64} (L' : Array Slot) (hl : storeLocals Ls k (.double y) = some L') (hd : decode c.code pc = .ok (.dstore k, 2)) (hp : pc + 2 = pc') (h : own_Go p e below Q F (T.setTop (mkF m pc' L' st))) : own_Go p e below Q F (T.setTop (mkF m pc Ls (.double y :: st))) := by
  subst hp
  exact own_by (fun _ q => XS.dstore X.here hx rfl hd rfl hl q) h
theorem own_sdconst0 (X : Stand p l e R s m args below meth c T locs cells slots) (hx : p.tables.exec = Jvm.exec) {pc pc' : Nat} {Ls : Array Slot} {st : List Value}  (hd : decode c.code pc = .ok (.dconst 0, 1)) (hp : pc + 1 = pc') (h : own_Go p e below Q F (T.setTop (mkF m pc' Ls (.double FP.dconst0 :: st)))) : own_Go p e below Q F (T.setTop (mkF m pc Ls st)) := by
  subst hp
  exact own_by (fun _ q => XS.dconst0 X.here hx rfl hd rfl q) h
theorem own_sdconst1 (X : Stand p l e R s m args below meth c T locs cells slots) (hx : p.tables.exec = Jvm.exec) {pc pc' : Nat} {Ls : Array Slot} {st : List Value}  (hd : decode c.code pc = .ok (.dconst 1, 1)) (hp : pc + 1 = pc') (h : own_Go p e below Q F (T.setTop (mkF m pc' Ls (.double FP.dconst1 :: st)))) : own_Go p e below Q F (T.setTop (mkF m pc Ls st)) := by
  subst hp
  exact own_by (fun _ q => XS.dconst1 X.here hx rfl hd rfl q) h
theorem own_sldc2D (X : Stand p l e R s m args below meth c T locs cells slots) (hx : p.tables.exec = Jvm.exec) {pc pc' : Nat} {Ls : Array Slot} {st : List Value} {Z : State} {a0 : Array Value} {own : String} {index : Nat} {b : UInt64} (hZ : Z.Warmed39 s.vm) (hown : s.vm.findClass own = some m.cls) (w : (Jvm.Cond.constantDouble own index b).before a0 Z = true) (hd : decode c.code pc = .ok (.ldc2_w index, 3)) (hp : pc + 3 = pc') (h : own_Go p e below Q F (T.setTop (mkF m pc' Ls (.double b :: st)))) : own_Go p e below Q F (T.setTop (mkF m pc Ls st)) := by
  subst hp
  exact own_by (fun _ q => X.ldc2DoubleC hx hown (mv hZ w) (g := mkF m pc Ls st) rfl hd _ q) h
end OwnF
/-- the double x is the number n / 2^j, not negative -/
def own_R (x : UInt64) (n j : Nat) : Prop := ∃ (c : Nat) (q : Int), FP.Core.decode FP.Core.b64 x.toNat = .fin false c q ∧ FP.Core.fits FP.Core.b64 (.fin false c q) ∧ c * 2 ^ (q + 1074).toNat = n * 2 ^ (1074 - j)
theorem own_qmin : FP.Core.b64.qmin = -1074 := by decide +kernel
theorem own_qmax : FP.Core.b64.qmax = 971 := by decide +kernel
theorem own_fits_iff {c : Nat} {q : Int} : FP.Core.fits FP.Core.b64 (.fin false c q) ↔ c < 2 ^ 53 ∧ -1074 ≤ q ∧ q ≤ 971 ∧ (q = -1074 ∨ 2 ^ 52 ≤ c) := by
  show c < 2 ^ 53 ∧ FP.Core.b64.qmin ≤ q ∧ q ≤ FP.Core.b64.qmax ∧ (q = FP.Core.b64.qmin ∨ FP.Core.b64.tails ≤ c) ↔ _
  rw [own_qmin, own_qmax]
  exact Iff.rfl
theorem own_exists {n j : Nat} (hn : n < 2 ^ 53) (hj : j ≤ 900) : ∃ (c : Nat) (q : Int), FP.Core.fits FP.Core.b64 (.fin false c q) ∧ c * 2 ^ (q + 1074).toNat = n * 2 ^ (1074 - j) := by
  by_cases h0 : n = 0
  · subst h0
    exact ⟨0, -1074, own_fits_iff.mpr ⟨by omega, by omega, by omega, Or.inl rfl⟩, by rw [Nat.zero_mul, Nat.zero_mul]⟩
  · have h1 : 2 ^ n.log2 ≤ n := Nat.log2_self_le h0
    have h2 : n < 2 ^ (n.log2 + 1) := Nat.lt_log2_self
    have hL : n.log2 < 53 := (Nat.pow_lt_pow_iff_right (a := 2) (by decide)).mp (Nat.lt_of_le_of_lt h1 hn)
    generalize n.log2 = L at h1 h2 hL
    refine ⟨n * 2 ^ (52 - L), -(j : Int) - ((52 - L : Nat) : Int), own_fits_iff.mpr ⟨?_, by omega, by omega, Or.inr ?_⟩, ?_⟩
    · have e : (2 : Nat) ^ 53 = 2 ^ (L + 1) * 2 ^ (52 - L) := by rw [← Nat.pow_add]; congr 1; omega
      rw [e]
      exact Nat.mul_lt_mul_of_pos_right h2 (Nat.two_pow_pos _)
    · have e : (2 : Nat) ^ 52 = 2 ^ L * 2 ^ (52 - L) := by rw [← Nat.pow_add]; congr 1; omega
      rw [e]
      exact Nat.mul_le_mul_right _ h1
    · rw [Nat.mul_assoc, ← Nat.pow_add]
      congr 2
      omega
theorem own_round {A B : Nat} {e : Int} {n j : Nat} (hB : 0 < B) (hn : n < 2 ^ 53) (hj : j ≤ 900) (he : -4000 ≤ e) (h : A * 2 ^ (e + 4000).toNat = B * n * 2 ^ (4000 - j)) :
    ∃ (c : Nat) (q : Int), FP.Core.roundRatio FP.Core.b64 false A B e = .fin false c q ∧ FP.Core.fits FP.Core.b64 (.fin false c q) ∧ c * 2 ^ (q + 1074).toNat = n * 2 ^ (1074 - j) := by
  obtain ⟨c, q, hf, hm⟩ := own_exists hn hj
  refine ⟨c, q, FP.Core.roundRatio_exact FP.Core.good_b64 hB hf ?_, hf, hm⟩
  obtain ⟨-, hq1, hq2, -⟩ := own_fits_iff.mp hf
  have hm2 : c * 2 ^ (q + 4000).toNat = n * 2 ^ (4000 - j) := by
    have e1 : (q + 4000).toNat = (q + 1074).toNat + 2926 := by omega
    have e2 : 4000 - j = (1074 - j) + 2926 := by omega
    rw [e1, e2, Nat.pow_add, Nat.pow_add, ← Nat.mul_assoc, ← Nat.mul_assoc, hm]
  have h3 : A * 2 ^ (e + 4000).toNat = c * B * 2 ^ (q + 4000).toNat := by
    rw [h, Nat.mul_assoc, ← hm2]; ac_rfl
  by_cases hle : q ≤ e
  · have e1 : (q - e).toNat = 0 := by omega
    rw [e1, Nat.pow_zero, Nat.mul_one]
    refine Nat.eq_of_mul_eq_mul_right (Nat.two_pow_pos (q + 4000).toNat) ?_
    rw [← h3, Nat.mul_assoc, ← Nat.pow_add]
    congr 2
    omega
  · have e1 : (e - q).toNat = 0 := by omega
    rw [e1, Nat.pow_zero, Nat.mul_one]
    refine Nat.eq_of_mul_eq_mul_right (Nat.two_pow_pos (e + 4000).toNat) ?_
    rw [h3, Nat.mul_assoc, Nat.mul_assoc, ← Nat.pow_add, Nat.mul_assoc]
    congr 3
    omega
theorem own_of {d : FP.Core.Datum} {n j : Nat} (h : ∃ (c : Nat) (q : Int), d = .fin false c q ∧ FP.Core.fits FP.Core.b64 (.fin false c q) ∧ c * 2 ^ (q + 1074).toNat = n * 2 ^ (1074 - j)) : own_R (.ofNat (FP.Core.encode FP.Core.b64 d)) n j := by
  obtain ⟨c, q, rfl, hf, hm⟩ := h
  refine ⟨c, q, ?_, hf, hm⟩
  rw [show (UInt64.ofNat (FP.Core.encode FP.Core.b64 (.fin false c q))).toNat = FP.Core.encode FP.Core.b64 (.fin false c q) from FP.Core.toNat_of64 hf]
  exact FP.Core.decode_encode FP.Core.good_b64 _ hf
theorem own_fromInt {i : Int} {n : Nat} (h : i = (n : Int)) (hn : n < 2 ^ 53) : own_R (.ofNat (FP.Core.fromInt FP.Core.b64 i)) n 0 := by
  subst h
  refine own_of (d := FP.Core.round FP.Core.b64 (FP.Core.ofInt (n : Int))) ?_
  have hd : FP.Core.ofInt (n : Int) = .fin false n 0 := by
    unfold FP.Core.ofInt
    rw [show decide ((n : Int) < 0) = false from decide_eq_false (by omega), Int.natAbs_natCast]
  rw [hd]
  exact own_round (A := n) (B := 1) (e := 0) (by decide) hn (by omega) (by omega) (by rw [Nat.one_mul]; rfl)
theorem own_i2d {v : Int32} {n : Nat} (h : v.toInt = (n : Int)) (hn : n < 2 ^ 53) : own_R (FP.i2d v) n 0 := own_fromInt h hn
theorem own_l2d {v : Int64} {n : Nat} (h : v.toInt = (n : Int)) (hn : n < 2 ^ 53) : own_R (FP.l2d v) n 0 := own_fromInt h hn
theorem own_scale {x : UInt64} {n j : Nat} (k : Nat) (h : own_R x n j) (hk : j + k ≤ 1074) : own_R x (n * 2 ^ k) (j + k) := by
  obtain ⟨c, q, h1, h2, h3⟩ := h
  refine ⟨c, q, h1, h2, ?_⟩
  rw [h3, Nat.mul_assoc, ← Nat.pow_add]
  congr 2
  omega
theorem own_div {x y : UInt64} {n1 j1 n2 j2 n j : Nat} (hx : own_R x n1 j1) (hy : own_R y n2 j2) (h2 : 0 < n2) (hj1 : j1 ≤ 1074) (hj2 : j2 ≤ 1074) (hn : n < 2 ^ 53) (hj : j ≤ 900) (h : n1 * 2 ^ (j2 + j) = n * n2 * 2 ^ j1) : own_R (FP.ddiv x y) n j := by
  obtain ⟨c, q, hx1, hx2, hx3⟩ := hx
  obtain ⟨d, r, hy1, hy2, hy3⟩ := hy
  have fx := own_fits_iff.mp hx2
  have fy := own_fits_iff.mp hy2
  have hd : d ≠ 0 := fun z => by
    rw [z, Nat.zero_mul] at hy3
    have p : 0 < n2 * 2 ^ (1074 - j2) := Nat.mul_pos h2 (Nat.two_pow_pos _)
    omega
  refine own_of (d := FP.Core.quotient FP.Core.b64 (FP.Core.decode FP.Core.b64 x.toNat) (FP.Core.decode FP.Core.b64 y.toNat)) ?_
  rw [hx1, hy1]
  show ∃ (c' : Nat) (q' : Int), (if d = 0 then (if c = 0 then FP.Core.Datum.nan else .inf (false != false)) else FP.Core.roundRatio FP.Core.b64 (false != false) c d (q - r)) = .fin false c' q' ∧ _
  rw [if_neg hd]
  refine own_round (Nat.pos_of_ne_zero hd) hn hj (by omega) ?_
  have e1 : (2 : Nat) ^ (q - r + 4000).toNat * 2 ^ (r + 1074).toNat = 2 ^ (q + 1074).toNat * 2 ^ 4000 := by rw [← Nat.pow_add, ← Nat.pow_add]; congr 1; omega
  have e2 : (2 : Nat) ^ (1074 - j1) * 2 ^ j1 = 2 ^ 1074 := by rw [← Nat.pow_add]; congr 1; omega
  have e3 : (2 : Nat) ^ (1074 - j2) * 2 ^ j2 = 2 ^ 1074 := by rw [← Nat.pow_add]; congr 1; omega
  have e4 : (2 : Nat) ^ (4000 - j) * 2 ^ j = 2 ^ 4000 := by rw [← Nat.pow_add]; congr 1; omega
  rw [Nat.pow_add] at h
  generalize (2 : Nat) ^ (q - r + 4000).toNat = a1 at *
  have pS : 0 < (2 : Nat) ^ (r + 1074).toNat := Nat.two_pow_pos _
  generalize (2 : Nat) ^ (r + 1074).toNat = a2 at *
  generalize (2 : Nat) ^ (q + 1074).toNat = a3 at *
  generalize (2 : Nat) ^ (1074 - j1) = a4 at *
  have p5 : 0 < (2 : Nat) ^ j1 := Nat.two_pow_pos _
  generalize (2 : Nat) ^ j1 = a5 at *
  generalize (2 : Nat) ^ (1074 - j2) = a6 at *
  have p7 : 0 < (2 : Nat) ^ j2 := Nat.two_pow_pos _
  generalize (2 : Nat) ^ j2 = a7 at *
  generalize (2 : Nat) ^ (4000 - j) = a8 at *
  have p9 : 0 < (2 : Nat) ^ j := Nat.two_pow_pos _
  generalize (2 : Nat) ^ j = a9 at *
  generalize (2 : Nat) ^ 4000 = b1 at *
  generalize (2 : Nat) ^ 1074 = b2 at *
  refine Nat.eq_of_mul_eq_mul_right (Nat.mul_pos (Nat.mul_pos pS p5) (Nat.mul_pos p7 p9)) ?_
  calc c * a1 * (a2 * a5 * (a7 * a9)) = c * (a1 * a2) * a5 * (a7 * a9) := by ac_rfl
    _ = (c * a3) * b1 * a5 * (a7 * a9) := by rw [e1]; ac_rfl
    _ = n1 * (a4 * a5) * b1 * (a7 * a9) := by rw [hx3]; ac_rfl
    _ = (n1 * (a7 * a9)) * b2 * b1 := by rw [e2]; ac_rfl
    _ = (n * n2 * a5) * b2 * b1 := by rw [h]
    _ = (n * n2 * a5) * (a6 * a7) * (a8 * a9) := by rw [e3, e4]
    _ = n * (n2 * a6) * a5 * a7 * (a8 * a9) := by ac_rfl
    _ = n * (d * a2) * a5 * a7 * (a8 * a9) := by rw [hy3]
    _ = d * n * a8 * (a2 * a5 * (a7 * a9)) := by ac_rfl
theorem own_mul {x y : UInt64} {n1 j1 n2 j2 : Nat} (hx : own_R x n1 j1) (hy : own_R y n2 j2) (hj1 : j1 ≤ 1074) (hj2 : j2 ≤ 1074) (hn : n1 * n2 < 2 ^ 53) (hj : j1 + j2 ≤ 900) : own_R (FP.dmul x y) (n1 * n2) (j1 + j2) := by
  obtain ⟨c, q, hx1, hx2, hx3⟩ := hx
  obtain ⟨d, r, hy1, hy2, hy3⟩ := hy
  have fx := own_fits_iff.mp hx2
  have fy := own_fits_iff.mp hy2
  refine own_of (d := FP.Core.round FP.Core.b64 (FP.Core.exactProduct (FP.Core.decode FP.Core.b64 x.toNat) (FP.Core.decode FP.Core.b64 y.toNat))) ?_
  rw [hx1, hy1]
  show ∃ (c' : Nat) (q' : Int), FP.Core.roundRatio FP.Core.b64 (false != false) (c * d) 1 (q + r) = .fin false c' q' ∧ _
  refine own_round (by decide) hn hj (by omega) ?_
  have e1 : (2 : Nat) ^ (q + r + 4000).toNat = 2 ^ (q + 1074).toNat * 2 ^ (r + 1074).toNat * 2 ^ 1852 := by rw [← Nat.pow_add, ← Nat.pow_add]; congr 1; omega
  have e2 : (2 : Nat) ^ (4000 - (j1 + j2)) = 2 ^ (1074 - j1) * 2 ^ (1074 - j2) * 2 ^ 1852 := by rw [← Nat.pow_add, ← Nat.pow_add]; congr 1; omega
  rw [e1, e2]
  generalize (2 : Nat) ^ 1852 = b1 at *
  generalize (2 : Nat) ^ (q + 1074).toNat = a1 at *
  generalize (2 : Nat) ^ (r + 1074).toNat = a2 at *
  generalize (2 : Nat) ^ (1074 - j1) = a3 at *
  generalize (2 : Nat) ^ (1074 - j2) = a4 at *
  calc c * d * (a1 * a2 * b1) = (c * a1) * (d * a2) * b1 := by ac_rfl
    _ = (n1 * a3) * (n2 * a4) * b1 := by rw [hx3, hy3]
    _ = 1 * (n1 * n2) * (a3 * a4 * b1) := by rw [Nat.one_mul]; ac_rfl
theorem own_sumU {c d n1 n2 j : Nat} {q r : Int} (hq : -1074 ≤ q) (hr : -1074 ≤ r) (hj : j ≤ 900) (hx : c * 2 ^ (q + 1074).toNat = n1 * 2 ^ (1074 - j)) (hy : d * 2 ^ (r + 1074).toNat = n2 * 2 ^ (1074 - j)) :
    FP.Core.inUnits c q (min q r) * 2 ^ (min q r + 4000).toNat = n1 * 2 ^ (4000 - j) ∧ FP.Core.inUnits d r (min q r) * 2 ^ (min q r + 4000).toNat = n2 * 2 ^ (4000 - j) := by
  unfold FP.Core.inUnits
  have e0 : (2 : Nat) ^ (4000 - j) = 2 ^ (1074 - j) * 2 ^ 2926 := by rw [← Nat.pow_add]; congr 1; omega
  constructor
  · rw [Nat.mul_assoc, ← Nat.pow_add, show (q - min q r).toNat + (min q r + 4000).toNat = (q + 1074).toNat + 2926 by omega, Nat.pow_add, ← Nat.mul_assoc, hx, e0, Nat.mul_assoc]
  · rw [Nat.mul_assoc, ← Nat.pow_add, show (r - min q r).toNat + (min q r + 4000).toNat = (r + 1074).toNat + 2926 by omega, Nat.pow_add, ← Nat.mul_assoc, hy, e0, Nat.mul_assoc]
theorem own_add {x y : UInt64} {n1 n2 j : Nat} (hx : own_R x n1 j) (hy : own_R y n2 j) (hn : n1 + n2 < 2 ^ 53) (hj : j ≤ 900) : own_R (FP.dadd x y) (n1 + n2) j := by
  obtain ⟨c, q, hx1, hx2, hx3⟩ := hx
  obtain ⟨d, r, hy1, hy2, hy3⟩ := hy
  have fx := own_fits_iff.mp hx2
  have fy := own_fits_iff.mp hy2
  obtain ⟨u1, u2⟩ := own_sumU fx.2.1 fy.2.1 hj hx3 hy3
  refine own_of (d := FP.Core.round FP.Core.b64 (FP.Core.exactSum (FP.Core.decode FP.Core.b64 x.toNat) (FP.Core.decode FP.Core.b64 y.toNat))) ?_
  rw [hx1, hy1]
  show ∃ (c' : Nat) (q' : Int), FP.Core.roundRatio FP.Core.b64 (FP.Core.sumSign false false (FP.Core.sumUnits false c q false d r (min q r))) (FP.Core.sumUnits false c q false d r (min q r)).natAbs 1 (min q r) = .fin false c' q' ∧ _
  have hs : FP.Core.sumUnits false c q false d r (min q r) = ((FP.Core.inUnits c q (min q r) + FP.Core.inUnits d r (min q r) : Nat) : Int) := by
    unfold FP.Core.sumUnits FP.Core.signed
    simp
  rw [hs, Int.natAbs_natCast]
  have hg : FP.Core.sumSign false false ((FP.Core.inUnits c q (min q r) + FP.Core.inUnits d r (min q r) : Nat) : Int) = false := by
    unfold FP.Core.sumSign
    split
    · rfl
    · exact decide_eq_false (by omega)
  rw [hg]
  refine own_round (by decide) hn hj (by omega) ?_
  rw [Nat.add_mul, u1, u2, Nat.one_mul, Nat.add_mul]
theorem own_sub {x y : UInt64} {n1 n2 j : Nat} (hx : own_R x n1 j) (hy : own_R y n2 j) (hlt : n2 < n1) (hn : n1 < 2 ^ 53) (hj : j ≤ 900) : own_R (FP.dsub x y) (n1 - n2) j := by
  obtain ⟨c, q, hx1, hx2, hx3⟩ := hx
  obtain ⟨d, r, hy1, hy2, hy3⟩ := hy
  have fx := own_fits_iff.mp hx2
  have fy := own_fits_iff.mp hy2
  obtain ⟨u1, u2⟩ := own_sumU fx.2.1 fy.2.1 hj hx3 hy3
  refine own_of (d := FP.Core.round FP.Core.b64 (FP.Core.exactSum (FP.Core.decode FP.Core.b64 x.toNat) (FP.Core.negate (FP.Core.decode FP.Core.b64 y.toNat)))) ?_
  rw [hx1, hy1]
  show ∃ (c' : Nat) (q' : Int), FP.Core.roundRatio FP.Core.b64 (FP.Core.sumSign false true (FP.Core.sumUnits false c q true d r (min q r))) (FP.Core.sumUnits false c q true d r (min q r)).natAbs 1 (min q r) = .fin false c' q' ∧ _
  have hl : FP.Core.inUnits d r (min q r) < FP.Core.inUnits c q (min q r) := by
    refine Nat.lt_of_mul_lt_mul_right (a := 2 ^ (min q r + 4000).toNat) ?_
    rw [u1, u2]
    exact Nat.mul_lt_mul_of_pos_right hlt (Nat.two_pow_pos _)
  have hs : FP.Core.sumUnits false c q true d r (min q r) = ((FP.Core.inUnits c q (min q r) - FP.Core.inUnits d r (min q r) : Nat) : Int) := by
    unfold FP.Core.sumUnits FP.Core.signed
    simp
    omega
  rw [hs, Int.natAbs_natCast]
  have hg : FP.Core.sumSign false true ((FP.Core.inUnits c q (min q r) - FP.Core.inUnits d r (min q r) : Nat) : Int) = false := by
    unfold FP.Core.sumSign
    split
    · rfl
    · exact decide_eq_false (by omega)
  rw [hg]
  refine own_round (by decide) (by omega) hj (by omega) ?_
  rw [Nat.sub_mul, u1, u2, Nat.one_mul, Nat.sub_mul]
theorem own_order {x y : UInt64} {n1 n2 j : Nat} (hx : own_R x n1 j) (hy : own_R y n2 j) (hj : j ≤ 900) : FP.dcmp x y = some (compare (n1 : Int) (n2 : Int)) := by
  obtain ⟨c, q, hx1, hx2, hx3⟩ := hx
  obtain ⟨d, r, hy1, hy2, hy3⟩ := hy
  have fx := own_fits_iff.mp hx2
  have fy := own_fits_iff.mp hy2
  obtain ⟨u1, u2⟩ := own_sumU fx.2.1 fy.2.1 hj hx3 hy3
  show FP.Core.order (FP.Core.decode FP.Core.b64 x.toNat) (FP.Core.decode FP.Core.b64 y.toNat) = _
  rw [hx1, hy1]
  show some (compare (FP.Core.signed false (FP.Core.inUnits c q (min q r))) (FP.Core.signed false (FP.Core.inUnits d r (min q r)))) = _
  have s1 : ∀ k : Nat, FP.Core.signed false k = (k : Int) := fun k => rfl
  rw [s1, s1]
  generalize FP.Core.inUnits c q (min q r) = a at *
  generalize FP.Core.inUnits d r (min q r) = b at *
  have pX : 0 < (2 : Nat) ^ (min q r + 4000).toNat := Nat.two_pow_pos _
  have pY : 0 < (2 : Nat) ^ (4000 - j) := Nat.two_pow_pos _
  generalize (2 : Nat) ^ (min q r + 4000).toNat = X at *
  generalize (2 : Nat) ^ (4000 - j) = Y at *
  congr 1
  rcases Nat.lt_trichotomy n1 n2 with h | h | h
  · have k : a < b := Nat.lt_of_mul_lt_mul_right (a := X) (by rw [u1, u2]; exact Nat.mul_lt_mul_of_pos_right h pY)
    rw [Int.compare_eq_lt.mpr (by omega), Int.compare_eq_lt.mpr (by omega)]
  · have k : a = b := Nat.eq_of_mul_eq_mul_right pX (by rw [u1, u2, h])
    rw [Int.compare_eq_eq.mpr (by omega), Int.compare_eq_eq.mpr (by omega)]
  · have k : b < a := Nat.lt_of_mul_lt_mul_right (a := X) (by rw [u1, u2]; exact Nat.mul_lt_mul_of_pos_right h pY)
    rw [Int.compare_eq_gt.mpr (by omega), Int.compare_eq_gt.mpr (by omega)]
theorem own_noNaN {x : UInt64} {n j : Nat} (h : own_R x n j) : Jvm.Free.Fl.NoNaN64 x := by
  obtain ⟨c, q, h1, -⟩ := h
  refine Jvm.Free.Fl.noNaN64_no.mpr ?_
  show decide (FP.Core.decode FP.Core.b64 x.toNat = .nan) = false
  rw [h1]
  rfl
theorem own_K {x : UInt64} {n : Nat} {c : Nat} {q : Int} (h1 : FP.Core.decode FP.Core.b64 x.toNat = .fin false c q) (h2 : c < 2 ^ 53 ∧ -1074 ≤ q ∧ q ≤ 971 ∧ (q = -1074 ∨ 2 ^ 52 ≤ c)) (h3 : c * 2 ^ (q + 1074).toNat = n * 2 ^ 1074) : own_R x n 0 := ⟨c, q, h1, own_fits_iff.mpr h2, h3⟩
theorem own_k1024 : own_R (4652218415073722368 : UInt64) 1024 0 := own_K (c := 4503599627370496) (q := -42) (by decide +kernel) (by decide +kernel) (by decide +kernel)
theorem own_k256 : own_R (4643211215818981376 : UInt64) 256 0 := own_K (c := 4503599627370496) (q := -44) (by decide +kernel) (by decide +kernel) (by decide +kernel)
theorem own_k262144 : own_R (4688247212092686336 : UInt64) 262144 0 := own_K (c := 4503599627370496) (q := -34) (by decide +kernel) (by decide +kernel) (by decide +kernel)
theorem own_k0 : own_R FP.dconst0 0 0 := own_K (c := 0) (q := -1074) (by decide +kernel) (by decide +kernel) (by decide +kernel)
theorem own_k1 : own_R FP.dconst1 1 0 := own_K (c := 4503599627370496) (q := -52) (by decide +kernel) (by decide +kernel) (by decide +kernel)
theorem own_lmulN {y z : Int64} {a b : Nat} (hy : y.toInt = (a : Int)) (hz : z.toInt = (b : Int)) (h : a * b < 1000000000) : (y * z).toInt = ((a * b : Nat) : Int) := by
  have q := c_lmul y z
  have r := rng64 (y * z)
  rw [hy, hz, ← Int.natCast_mul] at q
  omega
theorem own_laddN {y z : Int64} {a b : Nat} (hy : y.toInt = (a : Int)) (hz : z.toInt = (b : Int)) (h : a + b < 1000000000) : (y + z).toInt = ((a + b : Nat) : Int) := by
  have q := c_ladd y z
  have r := rng64 (y + z)
  omega
theorem own_b18 {a b k : Nat} (hk : k < 1024) (ha : a ≤ 256) (hb : b ≤ 256) : (1024 - k) * a ≤ 262144 ∧ k * b ≤ 262144 := ⟨Nat.le_trans (Nat.mul_le_mul (show 1024 - k ≤ 1024 by omega) ha) (by decide), Nat.le_trans (Nat.mul_le_mul (show k ≤ 1024 by omega) hb) (by decide)⟩
theorem own_cmpE {y z : UInt64} {n j : Nat} {o : CmpOp} (hy : own_R y n j) (hz : own_R z n j) (hj : j ≤ 900) : cmpValue (FP.dcmp y z) o = 0 := by
  rw [own_order hy hz hj, Int.compare_eq_eq.mpr rfl]; rfl
theorem own_cmpG {y z : UInt64} {n k j : Nat} {o : CmpOp} (hy : own_R y n j) (hz : own_R z k j) (hj : j ≤ 900) (h : k < n) : cmpValue (FP.dcmp y z) o = 1 := by
  rw [own_order hy hz hj, Int.compare_eq_gt.mpr (by omega)]; rfl
theorem own_cmpL {y z : UInt64} {n k j : Nat} {o : CmpOp} (hy : own_R y n j) (hz : own_R z k j) (hj : j ≤ 900) (h : n < k) : cmpValue (FP.dcmp y z) o = -1 := by
  rw [own_order hy hz hj, Int.compare_eq_lt.mpr (by omega)]; rfl
theorem own_k0s : own_R FP.dconst0 0 10 := own_scale (n := 0) (j := 0) 10 own_k0 (by decide)
theorem own_k1s : own_R FP.dconst1 1024 10 := own_scale (n := 1) (j := 0) 10 own_k1 (by decide)
theorem pd_0 : parseMethodDescriptor "()V" = some ⟨[], none⟩ := by decide +kernel
theorem dR_0 : decode jdk_30_method_1_code 0 = .ok (.aload_n 0, 1) := by decide +kernel
theorem dR_1 : decode jdk_30_method_1_code 1 = .ok (.invokespecial 1, 3) := by decide +kernel
theorem dR_4 : decode jdk_30_method_1_code 4 = .ok (.return_, 1) := by decide +kernel
theorem pn_0 : plainName "java/lang/Record" = true := by first | (simp [plainName, overriddenIn]; done) | decide +kernel
theorem ef_R (m : MethodId) (x0 : Addr) : entryFrame m #[(.ref x0)] 1 = mkF m 0 #[.val (.ref x0)] [] := by first | (simp [entryFrame, mkF, argsToLocals, Value.category, maxLocals]; done) | rfl
def QR (Z : State) (a1 : Addr) (h0 : Heap) (n0 : Nat) (v : Option Value) (h : Heap) (L : List Loc) : Prop := v = none ∧ (True) ∧ Fr n0 L ∧ h = h0
set_option maxRecDepth 65536 in
set_option maxHeartbeats 40000000 in
theorem rmR (l : Launch) (Z : State) (a0 : Array Value) (hw : ∀ d ∈ tables_1, d.before a0 Z = true) (ws : List Jvm.Cond) (a1 : Addr) (h0 : Heap) (n0 : Nat) (Z0 : n0 ≤ h0.size) :
    MetFree l (⟨"java/lang/Record", "<init>", "()V"⟩ : MethodName) (head1 (Jvm.Cond.code (⟨"java/lang/Record", "<init>", "()V"⟩ : MethodName) jdk_30_method_1_code 1 none :: ws) ({ frames := 1, cells := 0, slots := 0, locals := 12 } : Room)) (fun a U => a = #[(.ref a1)] ∧ Z.Warmed39 U.vm ∧ U.heap = h0) (fun _ _ _ _ _ => True) (fun _ U o U' => ∃ v L, o = .returned v ∧ QR Z a1 h0 n0 v U'.heap L ∧ FrameEnd U o U' L ({ frames := 1, cells := 0, slots := 0, locals := 12 } : Room).cells ({ frames := 1, cells := 0, slots := 0, locals := 12 } : Room).slots) := by
  refine MetFree.of_bodySF (plainFor_of_name pn_0) hisR ?_
  intro p e s m args below meth c s₁ Bd hml0 hP hK
  obtain ⟨rfl, hZ, hh⟩ := hP
  have hx := Bd.exec
  have hby := Bd.bytes
  have hml : c.maxLocals = 1 := hml0
  have hown : s.vm.findClass "java/lang/Record" = some m.cls := findClass_of_methodNamed Bd.named
  have hnm := (name_of_methodNamed Bd.named Bd.method).1
  have X0 : Stand p l e ({ frames := 1, cells := 0, slots := 0, locals := 12 } : Room) s m #[(.ref a1)] below meth c s₁ [] 0 0 := Stand.of_body Bd
  have e0 : s₁.heap = h0 := by rw [← hh, Bd.state]; rfl
  have N0 := Fr.nil n0
  change own_Go p e below (QR Z a1 h0 n0) (own_Fr s ({ frames := 1, cells := 0, slots := 0, locals := 12 } : Room).cells ({ frames := 1, cells := 0, slots := 0, locals := 12 } : Room).slots) (s₁.setTop (entryFrame m #[(.ref a1)] 1))
  rw [ef_R m a1]
  refine own_aloadN (pc' := 1) X0 hx rfl rfl (hb hby dR_0) rfl ?_
  obtain ⟨T1, X1, e1, st1⟩ := initO X0 hx hZ hown (hw _ (List.mem_of_getElem? (i := 13) rfl)) (hw _ (List.mem_of_getElem? (i := 14) rfl)) (hw _ (List.mem_of_getElem? (i := 15) rfl)) e0 (g := (mkF m 1 #[.val (.ref a1)] [(.ref a1)])) rfl (by rw [hml]; rfl) rfl (hb hby dR_1) (by decide) (W := 0) (by show 2 * 0 + _ ≤ _; exact Nat.le_of_eq rfl) (by decide)
  refine own_by st1 ?_
  show own_Go p e below (QR Z a1 h0 n0) (own_Fr s ({ frames := 1, cells := 0, slots := 0, locals := 12 } : Room).cells ({ frames := 1, cells := 0, slots := 0, locals := 12 } : Room).slots) (T1.setTop (mkF m 4 #[.val (.ref a1)] []))
  refine own_ret0 X1 hx Bd.returns Bd.notSynchronized (hb hby dR_4) rfl (by decide) (by decide) ?_
  show QR Z a1 h0 n0 _ T1.heap _
  rw [e1]
  exact ⟨rfl, trivial, N0, rfl⟩
theorem pd_1 : parseMethodDescriptor "(D)V" = some ⟨[.double], none⟩ := by decide +kernel
theorem di_0 : decode prog_22_method_1_code 0 = .ok (.aload_n 0, 1) := by decide +kernel
theorem di_1 : decode prog_22_method_1_code 1 = .ok (.invokespecial 1, 3) := by decide +kernel
theorem di_4 : decode prog_22_method_1_code 4 = .ok (.dload_n 1, 1) := by decide +kernel
theorem di_5 : decode prog_22_method_1_code 5 = .ok (.dconst 0, 1) := by decide +kernel
theorem di_6 : decode prog_22_method_1_code 6 = .ok (.dcmp .l, 1) := by decide +kernel
theorem di_7 : decode prog_22_method_1_code 7 = .ok (.ifCond .le 9, 3) := by decide +kernel
theorem di_10 : decode prog_22_method_1_code 10 = .ok (.dload_n 1, 1) := by decide +kernel
theorem di_11 : decode prog_22_method_1_code 11 = .ok (.dconst 1, 1) := by decide +kernel
theorem di_12 : decode prog_22_method_1_code 12 = .ok (.dcmp .g, 1) := by decide +kernel
theorem di_13 : decode prog_22_method_1_code 13 = .ok (.ifCond .lt 17, 3) := by decide +kernel
theorem di_30 : decode prog_22_method_1_code 30 = .ok (.aload_n 0, 1) := by decide +kernel
theorem di_31 : decode prog_22_method_1_code 31 = .ok (.dload_n 1, 1) := by decide +kernel
theorem di_32 : decode prog_22_method_1_code 32 = .ok (.putfield 16, 3) := by decide +kernel
theorem di_35 : decode prog_22_method_1_code 35 = .ok (.return_, 1) := by decide +kernel
theorem pn_1 : plainName "com/example/libpundit/libpundit/core/JelinekMercer" = true := by first | (simp [plainName, overriddenIn]; done) | decide +kernel
theorem ef_i (m : MethodId) (x0 : Addr) (x1 : UInt64) : entryFrame m #[(.ref x0), (.double x1)] 3 = mkF m 0 #[.val (.ref x0), .val (.double x1), .second] [] := by first | (simp [entryFrame, mkF, argsToLocals, Value.category, maxLocals]; done) | rfl
def Qi (Z : State) (a1 : Addr) (ld : UInt64) (u0 : UInt64) (kN : Nat) (h0 : Heap) (n0 : Nat) (v : Option Value) (h : Heap) (L : List Loc) : Prop := v = none ∧ (True) ∧ Fr n0 L ∧ Keep h0 h [a1] ∧ Exa Z h a1 "com/example/libpundit/libpundit/core/JelinekMercer" ∧ Fld Z h a1 "com/example/libpundit/libpundit/core/JelinekMercer" "lambda" "D" (.double ld)
set_option maxRecDepth 65536 in
set_option maxHeartbeats 40000000 in
theorem rmi (l : Launch) (Z : State) (a0 : Array Value) (hw : ∀ d ∈ tables_1, d.before a0 Z = true) (ws : List Jvm.Cond) (a1 : Addr) (ld : UInt64) (u0 : UInt64) (kN : Nat) (h0 : Heap) (n0 : Nat) (Z0 : n0 ≤ h0.size) (E_a1 : Exa Z h0 a1 "com/example/libpundit/libpundit/core/JelinekMercer") (F_lambda_a1 : Fld Z h0 a1 "com/example/libpundit/libpundit/core/JelinekMercer" "lambda" "D" (.double u0)) (g_a1 : n0 ≤ a1) (hR : own_R ld kN 10) (hk : 0 < kN ∧ kN < 1024) :
    MetFree l (⟨"com/example/libpundit/libpundit/core/JelinekMercer", "<init>", "(D)V"⟩ : MethodName) (head1 (Jvm.Cond.code (⟨"com/example/libpundit/libpundit/core/JelinekMercer", "<init>", "(D)V"⟩ : MethodName) prog_22_method_1_code 3 none :: ws) ({ frames := 2, cells := 0, slots := 0, locals := 24 } : Room)) (fun a U => a = #[(.ref a1), (.double ld)] ∧ Z.Warmed39 U.vm ∧ U.heap = h0) (fun _ _ _ _ _ => True) (fun _ U o U' => ∃ v L, o = .returned v ∧ Qi Z a1 ld u0 kN h0 n0 v U'.heap L ∧ FrameEnd U o U' L ({ frames := 2, cells := 0, slots := 0, locals := 24 } : Room).cells ({ frames := 2, cells := 0, slots := 0, locals := 24 } : Room).slots) := by
  refine MetFree.of_bodySF (plainFor_of_name pn_1) hisR ?_
  intro p e s m args below meth c s₁ Bd hml0 hP hK
  obtain ⟨rfl, hZ, hh⟩ := hP
  have hx := Bd.exec
  have hby := Bd.bytes
  have hml : c.maxLocals = 3 := hml0
  have hown : s.vm.findClass "com/example/libpundit/libpundit/core/JelinekMercer" = some m.cls := findClass_of_methodNamed Bd.named
  have hnm := (name_of_methodNamed Bd.named Bd.method).1
  have X0 : Stand p l e ({ frames := 2, cells := 0, slots := 0, locals := 24 } : Room) s m #[(.ref a1), (.double ld)] below meth c s₁ [] 0 0 := Stand.of_body Bd
  have e0 : s₁.heap = h0 := by rw [← hh, Bd.state]; rfl
  have N0 := Fr.nil n0
  change own_Go p e below (Qi Z a1 ld u0 kN h0 n0) (own_Fr s ({ frames := 2, cells := 0, slots := 0, locals := 24 } : Room).cells ({ frames := 2, cells := 0, slots := 0, locals := 24 } : Room).slots) (s₁.setTop (entryFrame m #[(.ref a1), (.double ld)] 3))
  rw [ef_i m a1 ld]
  have K0 : Keep h0 h0 [a1] := Keep.refl h0 [a1]
  refine own_aloadN (pc' := 1) X0 hx rfl rfl (hb hby di_0) rfl ?_
  obtain ⟨_, _, ⟨T1, L1, k1, n1⟩, -, X1, ⟨Lc1, hQ1, l1, y1, z1⟩, st1⟩ := X0.specialBack hx (y := (⟨"java/lang/Record", "<init>", "()V"⟩ : MethodName)) rfl hown (mvT hZ (hw _ (List.mem_of_getElem? (i := 8) rfl))) (mvT hZ (hw _ (List.mem_of_getElem? (i := 9) rfl))) (mvT hZ (hw _ (List.mem_of_getElem? (i := 12) rfl))) (by decide) (backOf (W := 0) (rmR l Z a0 hw [] a1 h0 n0 Z0 ) hZ (hw _ (List.mem_of_getElem? (i := 12) rfl)) (hw _ (List.mem_of_getElem? (i := 11) rfl)) (by decide) (by decide)) (g := (mkF m 1 #[.val (.ref a1), .val (.double ld), .second] [(.ref a1)])) rfl (by rw [hml]; rfl) (Steps.refl _) (a := a1) (argsL := []) (rest := []) (lenOf pd_0 rfl) rfl (by show 2 * 0 + _ ≤ _; exact Nat.le_of_eq rfl) (hb hby di_1) (fun _ _ => ⟨rfl, e0, (by decide : 0 + 0 ≤ _), (by decide : 0 + 0 ≤ _)⟩)
  dsimp only [Pt.U, Pt.locs, Pt.cells, Pt.slots] at X1 l1 y1 z1 st1 hQ1
  subst y1 z1
  obtain ⟨rfl, pp1, N1, e1⟩ := hQ1
  have N1a : Fr n0 L1 := by rw [l1]; exact Fr.app N0 N1
  refine own_via st1 ?_
  show own_Go p e below (Qi Z a1 ld u0 kN h0 n0) (own_Fr s ({ frames := 2, cells := 0, slots := 0, locals := 24 } : Room).cells ({ frames := 2, cells := 0, slots := 0, locals := 24 } : Room).slots) (T1.setTop (mkF m 4 #[.val (.ref a1), .val (.double ld), .second] []))
  refine own_sdloadN (pc' := 5) X1 hx rfl (hb hby di_4) rfl ?_
  refine own_sdconst0 (pc' := 6) X1 hx (hb hby di_5) rfl ?_
  refine own_sdcmp (pc' := 7) X1 hx (v := (1 : Int32)) (own_cmpG hR own_k0s (by decide) (by omega)) (hb hby di_6) rfl ?_
  refine own_ifNo (pc' := 10) X1 hx (by decide) (hb hby di_7) rfl ?_
  refine own_sdloadN (pc' := 11) X1 hx rfl (hb hby di_10) rfl ?_
  refine own_sdconst1 (pc' := 12) X1 hx (hb hby di_11) rfl ?_
  refine own_sdcmp (pc' := 13) X1 hx (v := (-1 : Int32)) (own_cmpL hR own_k1s (by decide) (by omega)) (hb hby di_12) rfl ?_
  refine own_ifYes (pc' := 30) X1 hx (hb hby di_13) (by decide) (by decide) (by decide) ?_
  refine own_aloadN (pc' := 31) X1 hx rfl rfl (hb hby di_30) rfl ?_
  refine own_sdloadN (pc' := 32) X1 hx rfl (hb hby di_31) rfl ?_
  obtain ⟨T2, h2, X2, e2, W2, st2⟩ := putF X1 hx hZ hown (host := "") (Or.inl (hw _ (List.mem_of_getElem? (i := 16) rfl))) Via.refl e1 F_lambda_a1 E_a1 (Or.inr ⟨(hw _ (List.mem_of_getElem? (i := 17) rfl)), rfl, hnm⟩) (hw _ (List.mem_of_getElem? (i := 2) rfl)) (ty := .double) (by decide) rfl rfl (g := (mkF m 32 #[.val (.ref a1), .val (.double ld), .second] [(.double ld), (.ref a1)])) rfl rfl (hb hby di_32)
  have Fw2 : Fld Z h2 a1 "com/example/libpundit/libpundit/core/JelinekMercer" "lambda" "D" (.double ld) := F_lambda_a1.same W2
  have E3 : Exa Z h2 a1 "com/example/libpundit/libpundit/core/JelinekMercer" := E_a1.wr W2
  have Z4 : n0 ≤ h2.size := Nat.le_trans Z0 (Nat.le_of_eq W2.size.symm)
  have N5 := Fr.snoc X2 N1a g_a1
  have K6 : Keep h0 h2 [a1] := K0.wr W2 (Or.inl (List.mem_of_getElem? (i := 0) rfl))
  refine own_by st2 ?_
  show own_Go p e below (Qi Z a1 ld u0 kN h0 n0) (own_Fr s ({ frames := 2, cells := 0, slots := 0, locals := 24 } : Room).cells ({ frames := 2, cells := 0, slots := 0, locals := 24 } : Room).slots) (T2.setTop (mkF m 35 #[.val (.ref a1), .val (.double ld), .second] []))
  refine own_ret0 X2 hx Bd.returns Bd.notSynchronized (hb hby di_35) rfl (by decide) (by decide) ?_
  show Qi Z a1 ld u0 kN h0 n0 _ T2.heap _
  rw [e2]
  exact ⟨rfl, trivial, N5, K6, E3, Fw2⟩
theorem pd_2 : parseMethodDescriptor "(DD)D" = some ⟨[.double, .double], some .double⟩ := by decide +kernel
theorem ds_0 : decode prog_22_method_2_code 0 = .ok (.dconst 1, 1) := by decide +kernel
theorem ds_1 : decode prog_22_method_2_code 1 = .ok (.aload_n 0, 1) := by decide +kernel
theorem ds_2 : decode prog_22_method_2_code 2 = .ok (.getfield 16, 3) := by decide +kernel
theorem ds_5 : decode prog_22_method_2_code 5 = .ok (.dsub, 1) := by decide +kernel
theorem ds_6 : decode prog_22_method_2_code 6 = .ok (.dload_n 1, 1) := by decide +kernel
theorem ds_7 : decode prog_22_method_2_code 7 = .ok (.dmul, 1) := by decide +kernel
theorem ds_8 : decode prog_22_method_2_code 8 = .ok (.aload_n 0, 1) := by decide +kernel
theorem ds_9 : decode prog_22_method_2_code 9 = .ok (.getfield 16, 3) := by decide +kernel
theorem ds_12 : decode prog_22_method_2_code 12 = .ok (.dload_n 3, 1) := by decide +kernel
theorem ds_13 : decode prog_22_method_2_code 13 = .ok (.dmul, 1) := by decide +kernel
theorem ds_14 : decode prog_22_method_2_code 14 = .ok (.dadd, 1) := by decide +kernel
theorem ds_15 : decode prog_22_method_2_code 15 = .ok (.dreturn, 1) := by decide +kernel
theorem ef_s (m : MethodId) (x0 : Addr) (x1 : UInt64) (x2 : UInt64) : entryFrame m #[(.ref x0), (.double x1), (.double x2)] 5 = mkF m 0 #[.val (.ref x0), .val (.double x1), .second, .val (.double x2), .second] [] := by first | (simp [entryFrame, mkF, argsToLocals, Value.category, maxLocals]; done) | rfl
def Qs (Z : State) (a1 : Addr) (es : UInt64) (cp : UInt64) (ld : UInt64) (kN : Nat) (aN : Nat) (bN : Nat) (h0 : Heap) (n0 : Nat) (v : Option Value) (h : Heap) (L : List Loc) : Prop := ∃ r : UInt64, v = some (.double r) ∧ (own_R r ((1024 - kN) * aN + (kN) * bN) 18) ∧ Fr n0 L ∧ h = h0
set_option maxRecDepth 65536 in
set_option maxHeartbeats 40000000 in
theorem rms (l : Launch) (Z : State) (a0 : Array Value) (hw : ∀ d ∈ tables_1, d.before a0 Z = true) (ws : List Jvm.Cond) (a1 : Addr) (es : UInt64) (cp : UInt64) (ld : UInt64) (kN : Nat) (aN : Nat) (bN : Nat) (h0 : Heap) (n0 : Nat) (Z0 : n0 ≤ h0.size) (F_lambda_a1 : Fld Z h0 a1 "com/example/libpundit/libpundit/core/JelinekMercer" "lambda" "D" (.double ld)) (hR : own_R ld kN 10) (hA : own_R es aN 8) (hB : own_R cp bN 8) (hk : 0 < kN ∧ kN < 1024) (haN : aN ≤ 256) (hbN : bN ≤ 256) :
    MetFree l (⟨"com/example/libpundit/libpundit/core/JelinekMercer", "smooth", "(DD)D"⟩ : MethodName) (head1 (Jvm.Cond.code (⟨"com/example/libpundit/libpundit/core/JelinekMercer", "smooth", "(DD)D"⟩ : MethodName) prog_22_method_2_code 5 (some .double) :: ws) ({ frames := 0, cells := 0, slots := 0, locals := 0 } : Room)) (fun a U => a = #[(.ref a1), (.double es), (.double cp)] ∧ Z.Warmed39 U.vm ∧ U.heap = h0) (fun _ _ _ _ _ => True) (fun _ U o U' => ∃ v L, o = .returned v ∧ Qs Z a1 es cp ld kN aN bN h0 n0 v U'.heap L ∧ FrameEnd U o U' L ({ frames := 0, cells := 0, slots := 0, locals := 0 } : Room).cells ({ frames := 0, cells := 0, slots := 0, locals := 0 } : Room).slots) := by
  refine MetFree.of_bodySF (plainFor_of_name pn_1) hisR ?_
  intro p e s m args below meth c s₁ Bd hml0 hP hK
  obtain ⟨rfl, hZ, hh⟩ := hP
  have hx := Bd.exec
  have hby := Bd.bytes
  have hml : c.maxLocals = 5 := hml0
  have hown : s.vm.findClass "com/example/libpundit/libpundit/core/JelinekMercer" = some m.cls := findClass_of_methodNamed Bd.named
  have hnm := (name_of_methodNamed Bd.named Bd.method).1
  have X0 : Stand p l e ({ frames := 0, cells := 0, slots := 0, locals := 0 } : Room) s m #[(.ref a1), (.double es), (.double cp)] below meth c s₁ [] 0 0 := Stand.of_body Bd
  have e0 : s₁.heap = h0 := by rw [← hh, Bd.state]; rfl
  have N0 := Fr.nil n0
  change own_Go p e below (Qs Z a1 es cp ld kN aN bN h0 n0) (own_Fr s ({ frames := 0, cells := 0, slots := 0, locals := 0 } : Room).cells ({ frames := 0, cells := 0, slots := 0, locals := 0 } : Room).slots) (s₁.setTop (entryFrame m #[(.ref a1), (.double es), (.double cp)] 5))
  rw [ef_s m a1 es cp]
  have h18 := own_b18 hk.2 haN hbN
  refine own_sdconst1 (pc' := 1) X0 hx (hb hby ds_0) rfl ?_
  refine own_aloadN (pc' := 2) X0 hx rfl rfl (hb hby ds_1) rfl ?_
  obtain ⟨T1, X1, e1, st1⟩ := getF X0 hx hZ hown (host := "") (Or.inl (hw _ (List.mem_of_getElem? (i := 16) rfl))) Via.refl e0 F_lambda_a1 (g := (mkF m 2 #[.val (.ref a1), .val (.double es), .second, .val (.double cp), .second] [(.ref a1), (.double FP.dconst1)])) rfl rfl (hb hby ds_2)
  refine own_by st1 ?_
  show own_Go p e below (Qs Z a1 es cp ld kN aN bN h0 n0) (own_Fr s ({ frames := 0, cells := 0, slots := 0, locals := 0 } : Room).cells ({ frames := 0, cells := 0, slots := 0, locals := 0 } : Room).slots) (T1.setTop (mkF m 5 #[.val (.ref a1), .val (.double es), .second, .val (.double cp), .second] [(.double ld), (.double FP.dconst1)]))
  obtain ⟨z2, hz2⟩ : ∃ z, FP.dsub FP.dconst1 ld = z := ⟨_, rfl⟩
  have R2 : own_R z2 (1024 - kN) 10 := by rw [← hz2]; exact own_sub own_k1s hR (by omega) (by omega) (by decide)
  refine own_sdsub (pc' := 6) X1 hx (by rw [hz2]; exact own_noNaN R2) hz2 (hb hby ds_5) rfl ?_
  refine own_sdloadN (pc' := 7) X1 hx rfl (hb hby ds_6) rfl ?_
  obtain ⟨z3, hz3⟩ : ∃ z, FP.dmul z2 es = z := ⟨_, rfl⟩
  have R3 : own_R z3 ((1024 - kN) * aN) 18 := by rw [← hz3]; exact own_mul R2 hA (by decide) (by decide) (by omega) (by decide)
  refine own_sdmul (pc' := 8) X1 hx (by rw [hz3]; exact own_noNaN R3) hz3 (hb hby ds_7) rfl ?_
  refine own_aloadN (pc' := 9) X1 hx rfl rfl (hb hby ds_8) rfl ?_
  obtain ⟨T4, X4, e4, st4⟩ := getF X1 hx hZ hown (host := "") (Or.inl (hw _ (List.mem_of_getElem? (i := 16) rfl))) Via.refl e1 F_lambda_a1 (g := (mkF m 9 #[.val (.ref a1), .val (.double es), .second, .val (.double cp), .second] [(.ref a1), (.double z3)])) rfl rfl (hb hby ds_9)
  refine own_by st4 ?_
  show own_Go p e below (Qs Z a1 es cp ld kN aN bN h0 n0) (own_Fr s ({ frames := 0, cells := 0, slots := 0, locals := 0 } : Room).cells ({ frames := 0, cells := 0, slots := 0, locals := 0 } : Room).slots) (T4.setTop (mkF m 12 #[.val (.ref a1), .val (.double es), .second, .val (.double cp), .second] [(.double ld), (.double z3)]))
  refine own_sdloadN (pc' := 13) X4 hx rfl (hb hby ds_12) rfl ?_
  obtain ⟨z5, hz5⟩ : ∃ z, FP.dmul ld cp = z := ⟨_, rfl⟩
  have R5 : own_R z5 ((kN) * bN) 18 := by rw [← hz5]; exact own_mul hR hB (by decide) (by decide) (by omega) (by decide)
  refine own_sdmul (pc' := 14) X4 hx (by rw [hz5]; exact own_noNaN R5) hz5 (hb hby ds_13) rfl ?_
  obtain ⟨z6, hz6⟩ : ∃ z, FP.dadd z3 z5 = z := ⟨_, rfl⟩
  have R6 : own_R z6 ((1024 - kN) * aN + (kN) * bN) 18 := by rw [← hz6]; exact own_add R3 R5 (by omega) (by decide)
  refine own_sdadd (pc' := 15) X4 hx (by rw [hz6]; exact own_noNaN R6) hz6 (hb hby ds_14) rfl ?_
  refine own_ret X4 hx Bd.returns Bd.notSynchronized (Or.inr (Or.inr (Or.inl ⟨rfl, rfl, _, rfl⟩))) (hb hby ds_15) rfl (by decide) (by decide) ?_
  show Qs Z a1 es cp ld kN aN bN h0 n0 _ T4.heap _
  rw [e4]
  exact ⟨z6, rfl, R6, N0, rfl⟩
theorem pn_2 : plainName "com/example/libpundit/libpundit/core/JelinekMercerSmoothPinLaw" = true := by first | (simp [plainName, overriddenIn]; done) | decide +kernel
theorem ef_0 (m : MethodId) (x0 : Int32) (x1 : Int32) (x2 : Int32) : entryFrame m #[(.int x0), (.int x1), (.int x2)] maxLocals = mkF m 0 #[.val (.int x0), .val (.int x1), .val (.int x2), .unset, .unset, .unset, .unset, .unset, .unset, .unset, .unset] [] := by first | (simp [entryFrame, mkF, argsToLocals, Value.category, maxLocals]; done) | rfl
def Q0 (Z : State) (p1 : Int32) (p2 : Int32) (p3 : Int32) (h0 : Heap) (n0 : Nat) (v : Option Value) (h : Heap) (L : List Loc) : Prop := v = some (.int 1) ∧ Fr n0 L
set_option maxRecDepth 65536 in
set_option maxHeartbeats 40000000 in
theorem rm0 (l : Launch) (Z : State) (a0 : Array Value) (hw : ∀ d ∈ tables_1, d.before a0 Z = true) (ws : List Jvm.Cond) (p1 : Int32) (p2 : Int32) (p3 : Int32) (h0 : Heap) (n0 : Nat) (Z0 : n0 ≤ h0.size) :
    MetFree l x (head1 (Jvm.Cond.code x code maxLocals ret :: ws) room_1) (fun a U => a = #[(.int p1), (.int p2), (.int p3)] ∧ Z.Warmed39 U.vm ∧ U.heap = h0) (fun _ _ _ _ _ => True) (fun _ U o U' => ∃ v L, o = .returned v ∧ Q0 Z p1 p2 p3 h0 n0 v U'.heap L ∧ FrameEnd U o U' L room_1.cells room_1.slots) := by
  refine MetFree.of_bodySF (plainFor_of_name pn_2) hisR ?_
  intro p e s m args below meth c s₁ Bd hml0 hP hK
  obtain ⟨rfl, hZ, hh⟩ := hP
  have hx := Bd.exec
  have hby := Bd.bytes
  have hml : c.maxLocals = 11 := hml0
  have hown : s.vm.findClass "com/example/libpundit/libpundit/core/JelinekMercerSmoothPinLaw" = some m.cls := findClass_of_methodNamed Bd.named
  have hnm := (name_of_methodNamed Bd.named Bd.method).1
  have X0 : Stand p l e room_1 s m #[(.int p1), (.int p2), (.int p3)] below meth c s₁ [] 0 0 := Stand.of_body Bd
  have e0 : s₁.heap = h0 := by rw [← hh, Bd.state]; rfl
  have N0 := Fr.nil n0
  change own_Go p e below (Q0 Z p1 p2 p3 h0 n0) (own_Fr s room_1.cells room_1.slots) (s₁.setTop (entryFrame m #[(.int p1), (.int p2), (.int p3)] maxLocals))
  rw [ef_0 m p1 p2 p3]
  have rp1 := rng32 p1
  have rp2 := rng32 p2
  have rp3 := rng32 p3
  refine own_iconst (pc' := 1) X0 hx (1 : Int32) (by decide) (hb hby at_0) rfl ?_
  refine own_iloadN (pc' := 2) X0 hx rfl (hb hby at_1) rfl ?_
  refine own_ldcInt (pc' := 4) X0 hx hZ hown (hw _ (List.mem_of_getElem? (i := 0) rfl)) (hb hby at_2) rfl ?_
  obtain ⟨v1, hv1⟩ : ∃ z, p1 &&& (2147483647 : Int32) = z := ⟨_, rfl⟩
  have f2 : v1.toInt = p1.toInt % 2147483648 := by rw [← hv1]; exact c_mask p1 (2147483647 : Int32) 31 (by decide) (by decide)
  refine own_iand (pc' := 5) X0 hx (z := v1) hv1 (hb hby at_4) rfl ?_
  refine own_sipush (pc' := 8) X0 hx (1023 : Int32) (by decide) (hb hby at_5) rfl ?_
  obtain ⟨v3, hv3⟩ : ∃ z, v1 % (1023 : Int32) = z := ⟨_, rfl⟩
  have f4 : v3.toInt = v1.toInt % 1023 := by rw [← hv3]; exact (c_irem v1 (1023 : Int32) 1023 (by decide)).1 (by omega)
  refine own_irem (pc' := 9) X0 hx (z := v3) (by decide) hv3 (hb hby at_8) rfl ?_
  obtain ⟨v5, hv5⟩ : ∃ z, (1 : Int32) + v3 = z := ⟨_, rfl⟩
  have f6 : (v5.toInt - (1 + v3.toInt)) % 4294967296 = 0 := by rw [← hv5]; exact c_iadd (1 : Int32) v3
  have rv5 := rng32 v5
  replace f6 : v5.toInt = 1 + v3.toInt := by omega
  refine own_iadd (pc' := 10) X0 hx (z := v5) hv5 (hb hby at_9) rfl ?_
  refine own_istoreN (pc' := 11) X0 hx #[.val (.int p1), .val (.int p2), .val (.int p3), .val (.int v5), .unset, .unset, .unset, .unset, .unset, .unset, .unset] rfl (hb hby at_10) rfl ?_
  refine own_iloadN (pc' := 12) X0 hx rfl (hb hby at_11) rfl ?_
  refine own_ldcInt (pc' := 14) X0 hx hZ hown (hw _ (List.mem_of_getElem? (i := 0) rfl)) (hb hby at_12) rfl ?_
  obtain ⟨v7, hv7⟩ : ∃ z, p2 &&& (2147483647 : Int32) = z := ⟨_, rfl⟩
  have f8 : v7.toInt = p2.toInt % 2147483648 := by rw [← hv7]; exact c_mask p2 (2147483647 : Int32) 31 (by decide) (by decide)
  refine own_iand (pc' := 15) X0 hx (z := v7) hv7 (hb hby at_14) rfl ?_
  refine own_sipush (pc' := 18) X0 hx (257 : Int32) (by decide) (hb hby at_15) rfl ?_
  obtain ⟨v9, hv9⟩ : ∃ z, v7 % (257 : Int32) = z := ⟨_, rfl⟩
  have f10 : v9.toInt = v7.toInt % 257 := by rw [← hv9]; exact (c_irem v7 (257 : Int32) 257 (by decide)).1 (by omega)
  refine own_irem (pc' := 19) X0 hx (z := v9) (by decide) hv9 (hb hby at_18) rfl ?_
  refine own_istore (pc' := 21) X0 hx #[.val (.int p1), .val (.int p2), .val (.int p3), .val (.int v5), .val (.int v9), .unset, .unset, .unset, .unset, .unset, .unset] rfl (hb hby at_19) rfl ?_
  refine own_iloadN (pc' := 22) X0 hx rfl (hb hby at_21) rfl ?_
  refine own_ldcInt (pc' := 24) X0 hx hZ hown (hw _ (List.mem_of_getElem? (i := 0) rfl)) (hb hby at_22) rfl ?_
  obtain ⟨v11, hv11⟩ : ∃ z, p3 &&& (2147483647 : Int32) = z := ⟨_, rfl⟩
  have f12 : v11.toInt = p3.toInt % 2147483648 := by rw [← hv11]; exact c_mask p3 (2147483647 : Int32) 31 (by decide) (by decide)
  refine own_iand (pc' := 25) X0 hx (z := v11) hv11 (hb hby at_24) rfl ?_
  refine own_sipush (pc' := 28) X0 hx (257 : Int32) (by decide) (hb hby at_25) rfl ?_
  obtain ⟨v13, hv13⟩ : ∃ z, v11 % (257 : Int32) = z := ⟨_, rfl⟩
  have f14 : v13.toInt = v11.toInt % 257 := by rw [← hv13]; exact (c_irem v11 (257 : Int32) 257 (by decide)).1 (by omega)
  refine own_irem (pc' := 29) X0 hx (z := v13) (by decide) hv13 (hb hby at_28) rfl ?_
  refine own_istore (pc' := 31) X0 hx #[.val (.int p1), .val (.int p2), .val (.int p3), .val (.int v5), .val (.int v9), .val (.int v13), .unset, .unset, .unset, .unset, .unset] rfl (hb hby at_29) rfl ?_
  obtain ⟨kN, hn_kN⟩ : ∃ n : Nat, v5.toInt = (n : Int) := ⟨v5.toInt.toNat, by omega⟩
  obtain ⟨aN, hn_aN⟩ : ∃ n : Nat, v9.toInt = (n : Int) := ⟨v9.toInt.toNat, by omega⟩
  obtain ⟨bN, hn_bN⟩ : ∃ n : Nat, v13.toInt = (n : Int) := ⟨v13.toInt.toNat, by omega⟩
  have hk : 0 < kN ∧ kN < 1024 := by omega
  have haN : aN ≤ 256 := by omega
  have hbN : bN ≤ 256 := by omega
  have h18 := own_b18 hk.2 haN hbN
  obtain ⟨T15, h15, X15, e15, E15, A15, D15, -, st15⟩ := newO X0 hx hZ hown (hw _ (List.mem_of_getElem? (i := 1) rfl)) (hw _ (List.mem_of_getElem? (i := 2) rfl)) (hw _ (List.mem_of_getElem? (i := 3) rfl)) e0 (g := (mkF m 31 #[.val (.int p1), .val (.int p2), .val (.int p3), .val (.int v5), .val (.int v9), .val (.int v13), .unset, .unset, .unset, .unset, .unset] [])) rfl (hb hby at_31) (by decide) (by decide)
  obtain ⟨a15, ga15⟩ : ∃ z, z = h0.size := ⟨_, rfl⟩
  rw [← ga15] at A15 D15 st15
  have fr15 : n0 ≤ a15 := Nat.le_trans Z0 (Nat.le_of_eq ga15.symm)
  have Z16 : n0 ≤ h15.size := Nat.le_trans Z0 E15.1
  have F17 : Fld Z h15 a15 "com/example/libpundit/libpundit/core/JelinekMercer" "lambda" "D" (.double (0 : UInt64)) := D15 (Or.inr (hw _ (List.mem_of_getElem? (i := 17) rfl))) (ty := .double) (by decide)
  refine own_by st15 ?_
  show own_Go p e below (Q0 Z p1 p2 p3 h0 n0) (own_Fr s room_1.cells room_1.slots) (T15.setTop (mkF m 34 #[.val (.int p1), .val (.int p2), .val (.int p3), .val (.int v5), .val (.int v9), .val (.int v13), .unset, .unset, .unset, .unset, .unset] [(.ref a15)]))
  refine own_dup (pc' := 35) X15 hx rfl (hb hby at_34) rfl ?_
  refine own_iloadN (pc' := 36) X15 hx rfl (hb hby at_35) rfl ?_
  obtain ⟨z18, hz18⟩ : ∃ z, FP.i2d v5 = z := ⟨_, rfl⟩
  have R18 : own_R z18 (kN) 0 := by rw [← hz18]; exact own_i2d hn_kN (by omega)
  refine own_sI2d (pc' := 37) X15 hx hz18 (hb hby at_36) rfl ?_
  refine own_sldc2D (pc' := 40) X15 hx hZ hown (hw _ (List.mem_of_getElem? (i := 4) rfl)) (hb hby at_37) rfl ?_
  obtain ⟨z19, hz19⟩ : ∃ z, FP.ddiv z18 (4652218415073722368 : UInt64) = z := ⟨_, rfl⟩
  have R19 : own_R z19 (kN) 10 := by rw [← hz19]; exact own_div R18 own_k1024 (by decide) (by decide) (by decide) (by omega) (by decide) (by show (kN) * 1024 = (kN) * 1024 * 1; omega)
  refine own_sddiv (pc' := 41) X15 hx (by rw [hz19]; exact own_noNaN R19) hz19 (hb hby at_40) rfl ?_
  obtain ⟨_, _, ⟨T20, L20, k20, n20⟩, -, X20, ⟨Lc20, hQ20, l20, y20, z20⟩, st20⟩ := X15.specialBack hx (y := (⟨"com/example/libpundit/libpundit/core/JelinekMercer", "<init>", "(D)V"⟩ : MethodName)) rfl hown (mvT hZ (hw _ (List.mem_of_getElem? (i := 5) rfl))) (mvT hZ (hw _ (List.mem_of_getElem? (i := 6) rfl))) (mvT hZ (hw _ (List.mem_of_getElem? (i := 7) rfl))) (by decide) (backOf (W := 1) (rmi l Z a0 hw [] a15 z19 (0 : UInt64) kN h15 n0 Z16 A15 F17 fr15 R19 (by omega)) hZ (hw _ (List.mem_of_getElem? (i := 7) rfl)) (hw _ (List.mem_of_getElem? (i := 3) rfl)) (by decide) (by decide)) (g := (mkF m 41 #[.val (.int p1), .val (.int p2), .val (.int p3), .val (.int v5), .val (.int v9), .val (.int v13), .unset, .unset, .unset, .unset, .unset] [(.double z19), (.ref a15), (.ref a15)])) rfl (by rw [hml]; rfl) (Steps.refl _) (a := a15) (argsL := [(.double z19)]) (rest := [(.ref a15)]) (lenOf pd_1 rfl) rfl (by show 2 * 0 + _ ≤ _; exact Nat.le_of_eq rfl) (hb hby at_41) (fun _ _ => ⟨rfl, e15, (by decide : 1 + 0 ≤ _), (by decide : 1 + 0 ≤ _)⟩)
  dsimp only [Pt.U, Pt.locs, Pt.cells, Pt.slots] at X20 l20 y20 z20 st20 hQ20
  subst y20 z20
  obtain ⟨rfl, pp20, N20, Kc20, Ec20_a1, Fc20_0⟩ := hQ20
  have Z21 : n0 ≤ T20.heap.size := Nat.le_trans Z16 Kc20.1
  have N20a : Fr n0 L20 := by rw [l20]; exact Fr.app N0 N20
  refine own_via st20 ?_
  show own_Go p e below (Q0 Z p1 p2 p3 h0 n0) (own_Fr s room_1.cells room_1.slots) (T20.setTop (mkF m 44 #[.val (.int p1), .val (.int p2), .val (.int p3), .val (.int v5), .val (.int v9), .val (.int v13), .unset, .unset, .unset, .unset, .unset] [(.ref a15)]))
  refine own_astore (pc' := 46) X20 hx #[.val (.int p1), .val (.int p2), .val (.int p3), .val (.int v5), .val (.int v9), .val (.int v13), .val (.ref a15), .unset, .unset, .unset, .unset] rfl rfl (hb hby at_44) rfl ?_
  refine own_aload (pc' := 48) X20 hx rfl rfl (hb hby at_46) rfl ?_
  refine own_iload (pc' := 50) X20 hx rfl (hb hby at_48) rfl ?_
  obtain ⟨z22, hz22⟩ : ∃ z, FP.i2d v9 = z := ⟨_, rfl⟩
  have R22 : own_R z22 (aN) 0 := by rw [← hz22]; exact own_i2d hn_aN (by omega)
  refine own_sI2d (pc' := 51) X20 hx hz22 (hb hby at_50) rfl ?_
  refine own_sldc2D (pc' := 54) X20 hx hZ hown (hw _ (List.mem_of_getElem? (i := 18) rfl)) (hb hby at_51) rfl ?_
  obtain ⟨z23, hz23⟩ : ∃ z, FP.ddiv z22 (4643211215818981376 : UInt64) = z := ⟨_, rfl⟩
  have R23 : own_R z23 (aN) 8 := by rw [← hz23]; exact own_div R22 own_k256 (by decide) (by decide) (by decide) (by omega) (by decide) (by show (aN) * 256 = (aN) * 256 * 1; omega)
  refine own_sddiv (pc' := 55) X20 hx (by rw [hz23]; exact own_noNaN R23) hz23 (hb hby at_54) rfl ?_
  refine own_iload (pc' := 57) X20 hx rfl (hb hby at_55) rfl ?_
  obtain ⟨z24, hz24⟩ : ∃ z, FP.i2d v13 = z := ⟨_, rfl⟩
  have R24 : own_R z24 (bN) 0 := by rw [← hz24]; exact own_i2d hn_bN (by omega)
  refine own_sI2d (pc' := 58) X20 hx hz24 (hb hby at_57) rfl ?_
  refine own_sldc2D (pc' := 61) X20 hx hZ hown (hw _ (List.mem_of_getElem? (i := 18) rfl)) (hb hby at_58) rfl ?_
  obtain ⟨z25, hz25⟩ : ∃ z, FP.ddiv z24 (4643211215818981376 : UInt64) = z := ⟨_, rfl⟩
  have R25 : own_R z25 (bN) 8 := by rw [← hz25]; exact own_div R24 own_k256 (by decide) (by decide) (by decide) (by omega) (by decide) (by show (bN) * 256 = (bN) * 256 * 1; omega)
  refine own_sddiv (pc' := 62) X20 hx (by rw [hz25]; exact own_noNaN R25) hz25 (hb hby at_61) rfl ?_
  obtain ⟨cq26, kq26, q26a, q26b, q26c⟩ := isOf hZ rfl Ec20_a1
  obtain ⟨_, _, ⟨T26, L26, k26, n26⟩, -, X26, ⟨Lc26, hQ26, l26, y26, z26⟩, st26⟩ := X20.virtualBack hx (y := (⟨"com/example/libpundit/libpundit/core/JelinekMercer", "smooth", "(DD)D"⟩ : MethodName)) (z := (⟨"com/example/libpundit/libpundit/core/JelinekMercer", "smooth", "(DD)D"⟩ : MethodName)) hown (mvT hZ (hw _ (List.mem_of_getElem? (i := 19) rfl))) (mvT hZ (hw _ (List.mem_of_getElem? (i := 20) rfl))) (notFace_of_selects (args := #[]) (mvT hZ (hw _ (List.mem_of_getElem? (i := 22) rfl)))) (mvT hZ (hw _ (List.mem_of_getElem? (i := 22) rfl))) (mvT hZ (hw _ (List.mem_of_getElem? (i := 21) rfl))) (by decide) (backOf (W := 0) (rms l Z a0 hw [] a15 z23 z25 z19 kN aN bN T20.heap n0 Z21 Fc20_0 R19 R23 R25 (by omega) (by omega) (by omega)) hZ (hw _ (List.mem_of_getElem? (i := 23) rfl)) (hw _ (List.mem_of_getElem? (i := 3) rfl)) (by decide) (by decide)) q26a q26c (g := (mkF m 62 #[.val (.int p1), .val (.int p2), .val (.int p3), .val (.int v5), .val (.int v9), .val (.int v13), .val (.ref a15), .unset, .unset, .unset, .unset] [(.double z25), (.double z23), (.ref a15)])) rfl (by rw [hml]; rfl) (Steps.refl _) (argsL := [(.double z23), (.double z25)]) (rest := []) (lenOf pd_2 rfl) rfl (by show 2 * 0 + _ ≤ _; exact Nat.le_of_eq rfl) (hb hby at_62) (fun _ _ => ⟨rfl, rfl, (by decide : 1 + 0 ≤ _), (by decide : 1 + 0 ≤ _)⟩)
  dsimp only [Pt.U, Pt.locs, Pt.cells, Pt.slots] at X26 l26 y26 z26 st26 hQ26
  subst y26 z26
  obtain ⟨r_26, rfl, pp26, N26, e26⟩ := hQ26
  have N26a : Fr n0 L26 := by rw [l26]; exact Fr.app N20a N26
  refine own_via st26 ?_
  show own_Go p e below (Q0 Z p1 p2 p3 h0 n0) (own_Fr s room_1.cells room_1.slots) (T26.setTop (mkF m 65 #[.val (.int p1), .val (.int p2), .val (.int p3), .val (.int v5), .val (.int v9), .val (.int v13), .val (.ref a15), .unset, .unset, .unset, .unset] [(.double r_26)]))
  refine own_sdstore (pc' := 67) X26 hx #[.val (.int p1), .val (.int p2), .val (.int p3), .val (.int v5), .val (.int v9), .val (.int v13), .val (.ref a15), .val (.double r_26), .second, .unset, .unset] rfl (hb hby at_65) rfl ?_
  refine own_sipush (pc' := 70) X26 hx (1024 : Int32) (by decide) (hb hby at_67) rfl ?_
  refine own_iloadN (pc' := 71) X26 hx rfl (hb hby at_70) rfl ?_
  obtain ⟨v27, hv27⟩ : ∃ z, (1024 : Int32) - v5 = z := ⟨_, rfl⟩
  have f28 : (v27.toInt - (1024 - v5.toInt)) % 4294967296 = 0 := by rw [← hv27]; exact c_isub (1024 : Int32) v5
  have rv27 := rng32 v27
  replace f28 : v27.toInt = 1024 - v5.toInt := by omega
  refine own_isub (pc' := 72) X26 hx (z := v27) hv27 (hb hby at_71) rfl ?_
  obtain ⟨v29, hv29⟩ : ∃ z, v27.toInt64 = z := ⟨_, rfl⟩
  have f30 : v29.toInt = v27.toInt := by rw [← hv29]; exact c_i2l v27
  have hn31 : v29.toInt = ((1024 - kN : Nat) : Int) := by omega
  refine own_i2l (pc' := 73) X26 hx (z := v29) hv29 (hb hby at_72) rfl ?_
  refine own_iload (pc' := 75) X26 hx rfl (hb hby at_73) rfl ?_
  obtain ⟨v32, hv32⟩ : ∃ z, v9.toInt64 = z := ⟨_, rfl⟩
  have f33 : v32.toInt = v9.toInt := by rw [← hv32]; exact c_i2l v9
  have hn34 : v32.toInt = ((aN : Nat) : Int) := by omega
  refine own_i2l (pc' := 76) X26 hx (z := v32) hv32 (hb hby at_75) rfl ?_
  obtain ⟨v35, hv35⟩ : ∃ z, v29 * v32 = z := ⟨_, rfl⟩
  have hn36 : v35.toInt = (((1024 - kN) * aN : Nat) : Int) := by rw [← hv35]; exact own_lmulN hn31 hn34 (by omega)
  refine own_lmul (pc' := 77) X26 hx (z := v35) hv35 (hb hby at_76) rfl ?_
  refine own_iloadN (pc' := 78) X26 hx rfl (hb hby at_77) rfl ?_
  obtain ⟨v37, hv37⟩ : ∃ z, v5.toInt64 = z := ⟨_, rfl⟩
  have f38 : v37.toInt = v5.toInt := by rw [← hv37]; exact c_i2l v5
  have hn39 : v37.toInt = ((kN : Nat) : Int) := by omega
  refine own_i2l (pc' := 79) X26 hx (z := v37) hv37 (hb hby at_78) rfl ?_
  refine own_iload (pc' := 81) X26 hx rfl (hb hby at_79) rfl ?_
  obtain ⟨v40, hv40⟩ : ∃ z, v13.toInt64 = z := ⟨_, rfl⟩
  have f41 : v40.toInt = v13.toInt := by rw [← hv40]; exact c_i2l v13
  have hn42 : v40.toInt = ((bN : Nat) : Int) := by omega
  refine own_i2l (pc' := 82) X26 hx (z := v40) hv40 (hb hby at_81) rfl ?_
  obtain ⟨v43, hv43⟩ : ∃ z, v37 * v40 = z := ⟨_, rfl⟩
  have hn44 : v43.toInt = (((kN) * bN : Nat) : Int) := by rw [← hv43]; exact own_lmulN hn39 hn42 (by omega)
  refine own_lmul (pc' := 83) X26 hx (z := v43) hv43 (hb hby at_82) rfl ?_
  obtain ⟨v45, hv45⟩ : ∃ z, v35 + v43 = z := ⟨_, rfl⟩
  have hn46 : v45.toInt = (((1024 - kN) * aN + (kN) * bN : Nat) : Int) := by rw [← hv45]; exact own_laddN hn36 hn44 (by omega)
  refine own_ladd (pc' := 84) X26 hx (z := v45) hv45 (hb hby at_83) rfl ?_
  refine own_lstore (pc' := 86) X26 hx #[.val (.int p1), .val (.int p2), .val (.int p3), .val (.int v5), .val (.int v9), .val (.int v13), .val (.ref a15), .val (.double r_26), .second, .val (.long v45), .second] rfl (hb hby at_84) rfl ?_
  refine own_sdload (pc' := 88) X26 hx rfl (hb hby at_86) rfl ?_
  refine own_lload (pc' := 90) X26 hx rfl (hb hby at_88) rfl ?_
  obtain ⟨z47, hz47⟩ : ∃ z, FP.l2d v45 = z := ⟨_, rfl⟩
  have R47 : own_R z47 ((1024 - kN) * aN + (kN) * bN) 0 := by rw [← hz47]; exact own_l2d hn46 (by omega)
  refine own_sL2d (pc' := 91) X26 hx hz47 (hb hby at_90) rfl ?_
  refine own_sldc2D (pc' := 94) X26 hx hZ hown (hw _ (List.mem_of_getElem? (i := 24) rfl)) (hb hby at_91) rfl ?_
  obtain ⟨z48, hz48⟩ : ∃ z, FP.ddiv z47 (4688247212092686336 : UInt64) = z := ⟨_, rfl⟩
  have R48 : own_R z48 ((1024 - kN) * aN + (kN) * bN) 18 := by rw [← hz48]; exact own_div R47 own_k262144 (by decide) (by decide) (by decide) (by omega) (by decide) (by show ((1024 - kN) * aN + (kN) * bN) * 262144 = ((1024 - kN) * aN + (kN) * bN) * 262144 * 1; omega)
  refine own_sddiv (pc' := 95) X26 hx (by rw [hz48]; exact own_noNaN R48) hz48 (hb hby at_94) rfl ?_
  refine own_sdcmp (pc' := 96) X26 hx (v := (0 : Int32)) (own_cmpE pp26 R48 (by decide)) (hb hby at_95) rfl ?_
  refine own_ifNo (pc' := 99) X26 hx (by decide) (hb hby at_96) rfl ?_
  refine own_iconst (pc' := 100) X26 hx (1 : Int32) (by decide) (hb hby at_99) rfl ?_
  refine own_goto (pc' := 104) X26 hx (hb hby at_100) (by decide) (by decide) ?_
  refine own_ret X26 hx Bd.returns Bd.notSynchronized (Or.inl ⟨rfl, by simp, _, rfl⟩) (hb hby at_104) rfl (by decide) (by decide) ?_
  show Q0 Z p1 p2 p3 h0 n0 _ T26.heap _
  rw [e26]
  exact ⟨rfl, N26a⟩
set_option maxRecDepth 65536 in
set_option maxHeartbeats 40000000 in
theorem comes_1 {Post : Tables → Env → Array Value → State → Outcome → State → Prop} (hpost : ∀ tb e args s v u, (limb_1_1.after args s (.returned v) u = true ∧ limb_1_2.after args s (.returned v) u = true ∧ True) → FrameEnd s (.returned v) u (Jvm.fieldLocs frame_1_writes args s ++ Jvm.arrayLocs frame_1_arrays args s ++ Jvm.staticLocs frame_1_statics s) 16 128 → Post tb e args s (.returned v) u) :
    ArmFor flags0 classFile x code maxLocals ret World_1 tables_1 room_1 Calls_1 rest_1 Pre_1 Post := by
  intro l hfl _ _ p e ha hc hk s m args below hf hA hF happ hP
  obtain ⟨hcalls, hrest, hpre⟩ := hP
  obtain ⟨-, -, -, hnamed, -, -, -, hat⟩ := (Spec.applies_iff hf).mp happ
  obtain ⟨hg, hn⟩ := and_e (Cond.before_iff.mp (show (Jvm.Cond.and given_1 narrow_1).before args s = true from hpre))
  obtain ⟨g0, gr0⟩ := and_e hg
  obtain ⟨g1, gr1⟩ := and_e gr0
  obtain ⟨g2, gr2⟩ := and_e gr1
  obtain ⟨w0, w1, w2, rfl⟩ : ∃ w0 w1 w2 : Value, args = #[w0, w1, w2] := by
    have hs : args.size = 3 := by simpa [Cond.value, given_1] using g0
    obtain ⟨L⟩ := args
    match L, hs with
    | [w0, w1, w2], _ => exact ⟨w0, w1, w2, rfl⟩
  have hw := fun d (hd : d ∈ tables_1) => atoms_spec (ws := Jvm.Cond.code x code maxLocals ret :: tables_1) hat d (List.mem_cons_of_mem _ hd)
  obtain ⟨i0, ev0⟩ := is_v g1
  obtain rfl : w0 = (.int i0) := Option.some.inj ev0
  obtain ⟨i1, ev1⟩ := is_v g2
  obtain rfl : w1 = (.int i1) := Option.some.inj ev1
  obtain ⟨i2, ev2⟩ := is_v gr2
  obtain rfl : w2 = (.int i2) := Option.some.inj ev2
  obtain ⟨n, o, h1, h2, h3, _, L, rfl, ⟨rfl, N⟩, hq⟩ := rm0 l s _ hw tables_1 i0 i1 i2  s.heap s.heap.size (Nat.le_refl _)  p e ha hc hk s m _ below hf ((Spec.applies_iff_loose hf).mp happ).1 ⟨rfl, State.Warmed39.refl s, rfl⟩ trivial
  refine ⟨n, _, h1, h2, h3, hpost _ _ _ _ _ _ ⟨Cond.after_iff.mpr rfl, Cond.after_iff.mpr (eq_i res_at (Term.int_eval (1)) rfl), trivial⟩ ⟨hq.1, hq.2.1, (hq.2.2.sift fun y hy => Or.inr (N y hy)).mono (by decide) (by decide)⟩⟩
theorem main_1_1 : Claimed_1_1 := comes_1 fun _ _ _ _ _ _ h hF => ⟨h.1, hF⟩
theorem main_1_2 : Claimed_1_2 := comes_1 fun _ _ _ _ _ _ h hF => ⟨h.2.1, hF⟩
end Jvm.Pilot.@@N@@
namespace Jvm.Pilot.@@N@@
open Jvm Jvm.ClassFile Sem Op Lib Jvm.Free Jvm.Stand Jvm.Pilot.@@N@@.Jvm.D
/-! MADE BY PROGRAM (witnessworld.py) out of the Statement's table words and the real class files: 10 classes; the members and pool entries that the words name. The judged class is class 1, her method 1. -/
namespace start1
open Jvm.ClassFile
def u (s : String) : CpInfo := .utf8 (stringToUtf16 s)
/-- a pool by its gaps: so many unusable entries, then the entry; so many at the end -/
def gap : Nat → List CpInfo → List CpInfo
  | 0, r => r
  | n + 1, r => .unusable :: gap n r
def poolList (es : List (Nat × CpInfo)) (last : Nat) : List CpInfo := es.foldr (fun e r => gap e.1 (e.2 :: r)) (gap last [])
def pool (es : List (Nat × CpInfo)) (last : Nat) : Array CpInfo := ⟨poolList es last⟩
def fileOf (pool : Array CpInfo) (this : Nat) (attrs : Array Attribute := #[]) (ms : Array MethodInfo := #[]) (fl : Nat := 33) (sup : Nat := 0) (ifs : Array Nat := #[]) (fds : Array FieldInfo := #[]) : ClassFile where
  minorVersion := 0
  majorVersion := 65
  constantPool := pool
  accessFlags := fl
  thisClass := this
  superClass := sup
  interfaces := ifs
  fields := fds
  methods := ms
  attributes := attrs
def plain (name : String) (sup : Option ClassId) : Class where
  name := name
  kind := .ordinary
  loader := none
  accessFlags := 33
  super := sup
  interfaces := #[]
  cf := none
  fields := #[]
  methods := #[]
  instanceTypes := #[]
  staticTypes := #[]
  resolved := #[]
  callSites := []
  init := .initialized
  statics := none
  mirror := none

def pool0 : Array CpInfo := pool [(5, u "<init>"), (0, u "()V"), (1, .class_ 10), (1, u "java/lang/Object")] 113

def k0c0 : Code := { maxStack := 0, maxLocals := 1, code := object_method_1_code, exceptionTable := #[], attributes := #[] }
def k0m0 : Method := { name := "<init>", desc := "()V", sig := { parameters := [], returnType := none }, accessFlags := 1, code := some k0c0 }
/-- java/lang/Object -/
def k0 : Class := { plain "java/lang/Object" none with
  accessFlags := 33
  interfaces := #[]
  cf := some (fileOf pool0 8 #[] #[{ accessFlags := 1, nameIndex := 5, descriptorIndex := 6, attributes := #[] }] 33 0 #[] #[])
  fields := #[]
  methods := #[k0m0]
  instanceTypes := #[]
  staticTypes := #[]
  resolved := Array.replicate 124 none
  statics := none }

def pool1 : Array CpInfo := pool [(2, .class_ 4), (1, u "java/lang/Object"), (0, u "<init>"), (0, u "()V"), (0, .integer 2147483647), (0, .class_ 9), (0, u "com/example/libpundit/libpundit/core/JelinekMercer"), (0, .double 4652218415073722368), (1, .methodref 8 13), (0, .nameAndType 5 14), (0, u "(D)V"), (0, .double 4643211215818981376), (1, .methodref 8 18), (0, .nameAndType 19 20), (0, u "smooth"), (0, u "(DD)D"), (0, .double 4688247212092686336), (1, .class_ 24), (0, u "com/example/libpundit/libpundit/core/JelinekMercerSmoothPinLaw"), (2, u "law"), (0, u "(III)Z")] 3

def k1m0 : Method := { name := "<init>", desc := "()V", sig := { parameters := [], returnType := none }, accessFlags := 1, code := none }
def k1c1 : Code := { maxStack := 7, maxLocals := 11, code := code, exceptionTable := #[], attributes := #[] }
def k1m1 : Method := { name := "law", desc := "(III)Z", sig := { parameters := [.int, .int, .int], returnType := some .boolean }, accessFlags := 9, code := some k1c1 }
/-- com/example/libpundit/libpundit/core/JelinekMercerSmoothPinLaw -/
def k1 : Class := { plain "com/example/libpundit/libpundit/core/JelinekMercerSmoothPinLaw" (some 0) with
  accessFlags := 49
  interfaces := #[]
  cf := some (fileOf pool1 23 #[] #[{ accessFlags := 1, nameIndex := 5, descriptorIndex := 6, attributes := #[] }, { accessFlags := 9, nameIndex := 27, descriptorIndex := 28, attributes := #[] }] 49 2 #[] #[])
  fields := #[]
  methods := #[k1m0, k1m1]
  instanceTypes := #[]
  staticTypes := #[]
  resolved := Array.replicate 32 none
  statics := none }

def pool2 : Array CpInfo := pool [(1, .methodref 2 3), (0, .class_ 4), (0, .nameAndType 5 6), (0, u "java/lang/Object"), (0, u "<init>"), (0, u "()V"), (0, .class_ 8), (0, u "java/lang/Record")] 13

def k2c0 : Code := { maxStack := 1, maxLocals := 1, code := jdk_30_method_1_code, exceptionTable := #[], attributes := #[] }
def k2m0 : Method := { name := "<init>", desc := "()V", sig := { parameters := [], returnType := none }, accessFlags := 4, code := some k2c0 }
/-- java/lang/Record -/
def k2 : Class := { plain "java/lang/Record" (some 0) with
  accessFlags := 1057
  interfaces := #[]
  cf := some (fileOf pool2 7 #[] #[{ accessFlags := 4, nameIndex := 5, descriptorIndex := 6, attributes := #[] }] 1057 2 #[] #[])
  fields := #[]
  methods := #[k2m0]
  instanceTypes := #[]
  staticTypes := #[]
  resolved := Array.replicate 22 none
  statics := none }

def pool3 : Array CpInfo := pool [(1, .methodref 2 3), (0, .class_ 4), (0, .nameAndType 5 6), (0, u "java/lang/Record"), (0, u "<init>"), (0, u "()V"), (9, .fieldref 17 18), (0, .class_ 19), (0, .nameAndType 20 21), (0, u "com/example/libpundit/libpundit/core/JelinekMercer"), (0, u "lambda"), (0, u "D"), (12, u "(D)V"), (4, u "smooth"), (0, u "(DD)D")] 31

def k3c0 : Code := { maxStack := 4, maxLocals := 3, code := prog_22_method_1_code, exceptionTable := #[], attributes := #[] }
def k3m0 : Method := { name := "<init>", desc := "(D)V", sig := { parameters := [.double], returnType := none }, accessFlags := 1, code := some k3c0 }
def k3c1 : Code := { maxStack := 6, maxLocals := 5, code := prog_22_method_2_code, exceptionTable := #[], attributes := #[] }
def k3m1 : Method := { name := "smooth", desc := "(DD)D", sig := { parameters := [.double, .double], returnType := some .double }, accessFlags := 1, code := some k3c1 }
/-- com/example/libpundit/libpundit/core/JelinekMercer -/
def k3 : Class := { plain "com/example/libpundit/libpundit/core/JelinekMercer" (some 2) with
  accessFlags := 49
  interfaces := #[]
  cf := some (fileOf pool3 17 #[] #[{ accessFlags := 1, nameIndex := 5, descriptorIndex := 34, attributes := #[] }, { accessFlags := 1, nameIndex := 39, descriptorIndex := 40, attributes := #[] }] 49 2 #[] #[{ accessFlags := 18, nameIndex := 20, descriptorIndex := 21, attributes := #[] }])
  fields := #[{ name := "lambda", type := .double, accessFlags := 18, slot := 0, constantValue := 0 }]
  methods := #[k3m0, k3m1]
  instanceTypes := #[.double]
  staticTypes := #[]
  resolved := Array.replicate 72 none
  statics := none }

def pool4 : Array CpInfo := pool [(1, u "java/lang/Cloneable"), (0, .class_ 1), (0, u "java/lang/Object"), (0, .class_ 3)] 3

/-- java/lang/Cloneable -/
def k4 : Class := { plain "java/lang/Cloneable" (some 0) with
  accessFlags := 1537
  interfaces := #[]
  cf := some (fileOf pool4 2 #[] #[] 1537 4 #[] #[])
  fields := #[]
  methods := #[]
  instanceTypes := #[]
  staticTypes := #[]
  resolved := Array.replicate 8 none
  statics := none }

def pool5 : Array CpInfo := pool [(1, u "java/io/Serializable"), (0, .class_ 1), (0, u "java/lang/Object"), (0, .class_ 3)] 3

/-- java/io/Serializable -/
def k5 : Class := { plain "java/io/Serializable" (some 0) with
  accessFlags := 1537
  interfaces := #[]
  cf := some (fileOf pool5 2 #[] #[] 1537 4 #[] #[])
  fields := #[]
  methods := #[]
  instanceTypes := #[]
  staticTypes := #[]
  resolved := Array.replicate 8 none
  statics := none }

/-- the primitive byte -/
def k6 : Class := { plain "byte" none with kind := .primitive 'B', accessFlags := 0x411 }
/-- [B -/
def k7 : Class := { plain "[B" (some 0) with kind := .array 6 .byte, interfaces := #[4, 5], accessFlags := 1041 }

/-- the primitive int -/
def k8 : Class := { plain "int" none with kind := .primitive 'I', accessFlags := 0x411 }
/-- [I -/
def k9 : Class := { plain "[I" (some 0) with kind := .array 8 .int, interfaces := #[4, 5], accessFlags := 1041 }

def heap : Heap := #[]
def classes : Array Class := #[k0, k1, k2, k3, k4, k5, k6, k7, k8, k9]
def interned : List (Array UInt16 × Addr) := []
def slotsUsed : Nat := 0
def theMethod : MethodId := ⟨1, 1⟩
def args0 : Array Value := #[.int 65, .int 3, .int 7]
def aboutOver (below : List Frame) : State where
  vm := { classes := classes, interned := interned.toArray }
  heap := heap
  slotsUsed := slotsUsed
  threads := #[{ frames := .invoking theMethod args0 :: below }]
def below0 : List Frame := [.native { method := ⟨0, 0⟩, args := #[] }]
def about1 : State := aboutOver below0
def p0 : Program := .bare "" "" ""
def e0 : Env := launch0.env 0 0 0
theorem w_frames : about1.frames = Frame.invoking theMethod args0 :: below0 := rfl
set_option maxRecDepth 65536 in
theorem w_args : argsFit about1.vm theMethod args0 = true := by decide +kernel
set_option maxRecDepth 65536 in
theorem w_heap : heapFits about1 = true := by decide +kernel
set_option maxRecDepth 65536 in
theorem w_runnable : about1.curStatus? = some .runnable := by decide +kernel
set_option maxRecDepth 65536 in
theorem w_alone : about1.alone = true := by decide +kernel
set_option maxRecDepth 65536 in
theorem w_named : about1.methodNamed? x = some theMethod := by decide +kernel
set_option maxRecDepth 65536 in
theorem w_hears : about1.hears theMethod below0 = true := by decide +kernel
set_option maxRecDepth 65536 in
theorem w_ripe : about1.ripe theMethod args0 below0 = true := by decide +kernel
theorem w_running : about1.status = .running := rfl
set_option maxRecDepth 65536 in
theorem w_room : about1.hasRoom e0.platform room_1 = true :=
  launch0.hasRoom_least _ room_1 (by decide +kernel) (by decide +kernel) (by decide +kernel) (by decide +kernel) (by decide +kernel) (by decide +kernel)
theorem allAtoms_all (ts : List Jvm.Cond) (a : Array Jvm.Value) (st : Jvm.State) : (allAtoms ts).before a st = ts.all (fun c => c.before a st) := by
  induction ts with
  | nil => rfl
  | cons c t ih =>
    show (Jvm.Cond.and c (allAtoms t)).before a st = _
    rw [Jvm.Cond.before_and, ih, List.all_cons]
def words1 : List Jvm.Cond := Jvm.Cond.code x code maxLocals ret :: tables_1
/-- a 'code' word, met by the world's own term for the bytes: nothing is compared byte by byte -/
theorem code_word {y : MethodName} {bytes : ByteArray} {mx : Nat} {rt : Option FieldType} {a : Array Value} {s : State} {m : MethodId} {meth : Method} {c : Code} (h1 : s.methodNamed? y = some m) (h2 : s.vm.method? m = some meth) (h3 : meth.code = some c) (h4 : c.code = bytes)
    (h5 : (c.maxLocals == mx && c.exceptionTable.isEmpty && decide (c.maxStack ≤ mostOperands) && decide (meth.sig.returnType = rt) && !meth.locks && decide (parseMethodDescriptor y.desc = some meth.sig)) = true) : (Jvm.Cond.code y bytes mx rt).before a s = true := by
  simp only [Bool.and_eq_true, beq_iff_eq, Bool.not_eq_true', decide_eq_true_eq] at h5
  obtain ⟨⟨⟨⟨⟨g1, g2⟩, g3⟩, g4⟩, g5⟩, g6⟩ := h5
  simp [Cond.before, Cond.holds, Cond.value, h1, h2, h3, h4, g1, g2, g3, g4, g5, g6]
def isCode : Jvm.Cond → Bool
  | .code _ _ _ _ => true
  | _ => false
theorem all_split {L : List Jvm.Cond} {P : Jvm.Cond → Bool} (h1 : L.all (fun c => isCode c || P c) = true) (h2 : ∀ c ∈ L.filter isCode, P c = true) : L.all P = true := by
  refine List.all_eq_true.mpr fun c hc => ?_
  have h := List.all_eq_true.mp h1 c hc
  rcases Bool.eq_false_or_eq_true (isCode c) with hi | hi
  · exact h2 c (List.mem_filter.mpr ⟨hc, hi⟩)
  · simpa [hi] using h
set_option maxRecDepth 65536 in
theorem w_c0 : (Jvm.Cond.code x code maxLocals ret).before args0 about1 = true := code_word (m := ⟨1, 1⟩) (meth := k1m1) (c := k1c1) (by decide +kernel) rfl rfl rfl (by decide +kernel)
set_option maxRecDepth 65536 in
theorem w_c1 : (Jvm.Cond.code ({ cls := "com/example/libpundit/libpundit/core/JelinekMercer", name := "<init>", desc := "(D)V" } : Jvm.MethodName) prog_22_method_1_code (3 : Nat) (Option.none : Option Jvm.ClassFile.FieldType)).before args0 about1 = true := code_word (m := ⟨3, 0⟩) (meth := k3m0) (c := k3c0) (by decide +kernel) rfl rfl rfl (by decide +kernel)
set_option maxRecDepth 65536 in
theorem w_c2 : (Jvm.Cond.code ({ cls := "java/lang/Record", name := "<init>", desc := "()V" } : Jvm.MethodName) jdk_30_method_1_code (1 : Nat) (Option.none : Option Jvm.ClassFile.FieldType)).before args0 about1 = true := code_word (m := ⟨2, 0⟩) (meth := k2m0) (c := k2c0) (by decide +kernel) rfl rfl rfl (by decide +kernel)
set_option maxRecDepth 65536 in
theorem w_c3 : (Jvm.Cond.code ({ cls := "java/lang/Object", name := "<init>", desc := "()V" } : Jvm.MethodName) object_method_1_code (1 : Nat) (Option.none : Option Jvm.ClassFile.FieldType)).before args0 about1 = true := code_word (m := ⟨0, 0⟩) (meth := k0m0) (c := k0c0) (by decide +kernel) rfl rfl rfl (by decide +kernel)
set_option maxRecDepth 65536 in
theorem w_c4 : (Jvm.Cond.code ({ cls := "com/example/libpundit/libpundit/core/JelinekMercer", name := "smooth", desc := "(DD)D" } : Jvm.MethodName) prog_22_method_2_code (5 : Nat) (Option.some Jvm.ClassFile.FieldType.double)).before args0 about1 = true := code_word (m := ⟨3, 1⟩) (meth := k3m1) (c := k3c1) (by decide +kernel) rfl rfl rfl (by decide +kernel)
def codes1 : List Jvm.Cond := [Jvm.Cond.code x code maxLocals ret, Jvm.Cond.code ({ cls := "com/example/libpundit/libpundit/core/JelinekMercer", name := "<init>", desc := "(D)V" } : Jvm.MethodName) prog_22_method_1_code (3 : Nat) (Option.none : Option Jvm.ClassFile.FieldType), Jvm.Cond.code ({ cls := "java/lang/Record", name := "<init>", desc := "()V" } : Jvm.MethodName) jdk_30_method_1_code (1 : Nat) (Option.none : Option Jvm.ClassFile.FieldType), Jvm.Cond.code ({ cls := "java/lang/Object", name := "<init>", desc := "()V" } : Jvm.MethodName) object_method_1_code (1 : Nat) (Option.none : Option Jvm.ClassFile.FieldType), Jvm.Cond.code ({ cls := "com/example/libpundit/libpundit/core/JelinekMercer", name := "smooth", desc := "(DD)D" } : Jvm.MethodName) prog_22_method_2_code (5 : Nat) (Option.some Jvm.ClassFile.FieldType.double)]
set_option maxRecDepth 65536 in
theorem codes_eq : words1.filter isCode = codes1 := rfl
theorem w_codes : ∀ c ∈ words1.filter isCode, c.before args0 about1 = true := by
  rw [codes_eq]
  intro c hc
  simp only [codes1, List.mem_cons, List.not_mem_nil, or_false] at hc
  rcases hc with rfl | rfl | rfl | rfl | rfl
  · exact w_c0
  · exact w_c1
  · exact w_c2
  · exact w_c3
  · exact w_c4
set_option maxRecDepth 65536 in
theorem w_t1 : (words1.take 24).all (fun c => isCode c || c.before args0 about1) = true := by decide +kernel
set_option maxRecDepth 65536 in
theorem w_t2 : (words1.drop 24).all (fun c => isCode c || c.before args0 about1) = true := by decide +kernel
theorem w_tables : (allAtoms (Jvm.Cond.code x code maxLocals ret :: tables_1)).before args0 about1 = true := by
  rw [allAtoms_all]
  show words1.all (fun c => c.before args0 about1) = true
  refine all_split ?_ w_codes
  rw [← List.take_append_drop 24 words1, List.all_append, w_t1, w_t2]
  rfl
set_option maxRecDepth 65536 in
theorem w_case : (Jvm.Cond.and given_1 narrow_1).before args0 about1 = true := by decide +kernel
theorem w_applies : (headSpec (Jvm.Cond.code x code maxLocals ret :: tables_1) room_1).applies x e0.platform about1 = true :=
  (Spec.applies_iff w_frames).mpr ⟨w_running, w_runnable, w_alone, w_named, w_hears, w_ripe, w_room, w_tables⟩
theorem atStart : AtStart classFile x code maxLocals ret World_1 tables_1 room_1 Calls_1 rest_1 Pre_1 launch0 p0 e0 about1 theMethod args0 below0 :=
  ⟨lists_1, trivial, launch0.admits_env _ _ _, launch0.least_env, fairChoices_fair.cas, fairChoices_fair.clock, w_frames, w_args, w_heap, w_applies, trivial, trivial, w_case⟩
end start1
theorem witness_1 : WitnessClaimed_1 := ⟨start1.p0, start1.e0, start1.about1, start1.theMethod, start1.args0, start1.below0, start1.atStart⟩
end Jvm.Pilot.@@N@@
