import JvmDerived
import JvmDerived.Pilot.@@N@@Statement
import JvmDerived.Pilot.@@N@@Code
set_option linter.unusedVariables false
set_option linter.unusedSimpArgs false
namespace Jvm.Pilot.@@N@@
open Jvm Jvm.ClassFile Sem Op Lib Jvm.Free Jvm.Stand Jvm.LawKit Jvm.RoadKit Bundle Jvm.Pilot.@@N@@.Jvm.D
section OwnKit
variable {p : Program} {l : Launch} {e : Env} {R : Room} {s : State} {m : MethodId} {args : Array Value} {below : List Frame} {meth : Method} {c : Code} {T : State} {locs : List Loc} {cells slots : Nat}
/-- from U the walk comes to its end, and there Q holds -/
def own_Go (p : Program) (e : Env) (below : List Frame) (Q : Option Value → Heap → List Loc → Prop) (F : List Loc → Outcome → State → Prop) (U : State) : Prop :=
  ∃ t o, Steps p.tables e below U t ∧ t.status = .running ∧ Ended t below o ∧ ∃ v L, o = .returned v ∧ Q v t.heap L ∧ F L o t
def own_Fr (s : State) (C S : Nat) (L : List Loc) (o : Outcome) (t : State) : Prop := FrameEnd s o t L C S
def own_FrW (s : State) (C S : Nat) (L : List Loc) (o : Outcome) (t : State) : Prop := ReturnedEndW s o t L C S
variable {Q : Option Value → Heap → List Loc → Prop} {F : List Loc → Outcome → State → Prop} {C S : Nat}
theorem own_by {U U' : State} (k : ∀ t, Steps p.tables e below U' t → Steps p.tables e below U t) (h : own_Go p e below Q F U') : own_Go p e below Q F U := by
  obtain ⟨t, o, h1, h2⟩ := h
  exact ⟨t, o, k t h1, h2⟩
theorem own_via {U U' : State} (k : Steps p.tables e below U U') (h : own_Go p e below Q F U') : own_Go p e below Q F U := own_by (fun _ q => k.trans q) h
theorem own_ret (X : Stand p l e R s m args below meth c T locs cells slots) (hx : p.tables.exec = Jvm.exec) {pc : Nat} {Ls : Array Slot} {w : Value} {t : FieldType} {i : Instr} {rest : List Value} (hret : meth.sig.returnType = some t) (hlocks : meth.locks = false)
    (hi : (i = .ireturn ∧ (t = .int ∨ t = .boolean ∨ t = .byte ∨ t = .char ∨ t = .short) ∧ ∃ z, w = .int z) ∨ (i = .lreturn ∧ t = .long ∧ ∃ z, w = .long z) ∨ (i = .dreturn ∧ t = .double ∧ ∃ z, w = .double z) ∨ (i = .freturn ∧ t = .float ∧ ∃ z, w = .float z) ∨ (i = .areturn ∧ t.isReference = true ∧ w.isRef = true))
    (hd : decode c.code pc = .ok (i, 1)) (hn : narrow t w = w) (hc : cells ≤ C) (hs : slots ≤ S) (hQ : Q (some w) T.heap locs) : own_Go p e below Q (own_Fr s C S) (T.setTop (mkF m pc Ls (w :: rest))) := by
  obtain ⟨fs, hr, hrun, hended, hW, hsame⟩ := X.leave (v := some w) (fun h => by rw [hret] at h; cases h) hlocks
  exact ⟨_, _, retOut X hx hret hn hi hd hr, hrun, hended, _, _, rfl, hQ, ⟨_, rfl⟩, hW, hsame.mono hc hs⟩
theorem own_ret0 (X : Stand p l e R s m args below meth c T locs cells slots) (hx : p.tables.exec = Jvm.exec) {pc : Nat} {Ls : Array Slot} {st : List Value} (hret : meth.sig.returnType = none) (hlocks : meth.locks = false)
    (hd : decode c.code pc = .ok (.return_, 1)) (hst : st = []) (hc : cells ≤ C) (hs : slots ≤ S) (hQ : Q none T.heap locs) : own_Go p e below Q (own_Fr s C S) (T.setTop (mkF m pc Ls st)) := by
  subst hst
  obtain ⟨fs, hr, hrun, hended, hW, hsame⟩ := X.leave (v := none) (fun _ => rfl) hlocks
  exact ⟨_, _, X.returnOut hx hret hd hr, hrun, hended, _, _, rfl, hQ, ⟨_, rfl⟩, hW, hsame.mono hc hs⟩
theorem own_retW {s : State} {vm₁ : Vm} {nn : Nat} (X : Stand p l e R (s.setVm vm₁) m args below meth c T locs cells slots) (hx : p.tables.exec = Jvm.exec) {pc : Nat} {Ls : Array Slot} {w : Value} {t : FieldType} {i : Instr} {rest : List Value} (hret : meth.sig.returnType = some t) (hlocks : meth.locks = false) (hS : s.Since vm₁ nn) (hk : nn ≤ T.heap.size)
    (hi : (i = .ireturn ∧ (t = .int ∨ t = .boolean ∨ t = .byte ∨ t = .char ∨ t = .short) ∧ ∃ z, w = .int z) ∨ (i = .lreturn ∧ t = .long ∧ ∃ z, w = .long z) ∨ (i = .dreturn ∧ t = .double ∧ ∃ z, w = .double z) ∨ (i = .freturn ∧ t = .float ∧ ∃ z, w = .float z) ∨ (i = .areturn ∧ t.isReference = true ∧ w.isRef = true))
    (hd : decode c.code pc = .ok (i, 1)) (hn : narrow t w = w) (hc : cells ≤ C) (hs : slots ≤ S) (hQ : Q (some w) T.heap locs) : own_Go p e below Q (own_FrW s C S) (T.setTop (mkF m pc Ls (w :: rest))) := by
  obtain ⟨fs, hr, hrun, hended, hW⟩ := X.leaveW hS hk (v := some w) (fun h => by rw [hret] at h; cases h) hlocks
  exact ⟨_, _, retOut X hx hret hn hi hd hr, hrun, hended, _, _, rfl, hQ, hW.1, hW.2.1, hW.2.2.1, hW.2.2.2.mono hc hs⟩
theorem own_nz {z : Int32} (h : z.toInt = 0 ∨ z.toInt = 1) : narrow .boolean (.int z) = .int z := by
  rcases h with h | h
  · obtain rfl : z = 0 := Int32.toInt_inj.mp h
    rfl
  · obtain rfl : z = 1 := Int32.toInt_inj.mp h
    rfl
theorem own_nb {z : Int32} (h : -128 ≤ z.toInt ∧ z.toInt < 128) : nar .byte z = z := by
  have q := c_i2b z
  exact Int32.toInt_inj.mp (by show z.toInt8.toInt32.toInt = z.toInt; omega)
theorem own_fb {z : Int32} (h : -128 ≤ z.toInt ∧ z.toInt < 128) : fits .byte (.int z) = true := by
  have q := fits_nar_byte z
  rw [show z.toInt8.toInt32 = z from own_nb h] at q
  exact q
theorem own_b01 {z : Int32} (h : z.toInt = 0 ∨ z.toInt = 1) : z = 0 ∨ z = 1 := h.imp (fun q => Int32.toInt_inj.mp q) (fun q => Int32.toInt_inj.mp q)
theorem own_nbool {z : Int32} (h : z.toInt = 0 ∨ z.toInt = 1) : nar .boolean z = z := by rcases own_b01 h with rfl | rfl <;> decide
theorem own_fbool {z : Int32} (h : z.toInt = 0 ∨ z.toInt = 1) : fits .boolean (.int z) = true := by rcases own_b01 h with rfl | rfl <;> decide
theorem own_lt {x y : Int32} : x.toInt < y.toInt ↔ x < y := Int32.lt_iff_toInt_lt.symm
theorem own_yes_lt {x y : Int32} {a b : Int} (ha : x.toInt = a) (hb : y.toInt = b) (h : a < b) : if_icmp.holds .lt x y = true := by subst ha hb; exact (tlt (own_lt.mp h)).1
theorem own_no_lt {x y : Int32} {a b : Int} (ha : x.toInt = a) (hb : y.toInt = b) (h : ¬ a < b) : if_icmp.holds .lt x y = false := by subst ha hb; exact (flt (fun q => h (own_lt.mpr q))).1
theorem own_yes_ge {x y : Int32} {a b : Int} (ha : x.toInt = a) (hb : y.toInt = b) (h : ¬ a < b) : if_icmp.holds .ge x y = true := by subst ha hb; exact (flt (fun q => h (own_lt.mpr q))).2.1
theorem own_no_ge {x y : Int32} {a b : Int} (ha : x.toInt = a) (hb : y.toInt = b) (h : a < b) : if_icmp.holds .ge x y = false := by subst ha hb; exact (tlt (own_lt.mp h)).2.1
theorem own_yes_gt {x y : Int32} {a b : Int} (ha : x.toInt = a) (hb : y.toInt = b) (h : b < a) : if_icmp.holds .gt x y = true := by subst ha hb; exact (tlt (own_lt.mp h)).2.2.1
theorem own_no_gt {x y : Int32} {a b : Int} (ha : x.toInt = a) (hb : y.toInt = b) (h : ¬ b < a) : if_icmp.holds .gt x y = false := by subst ha hb; exact (flt (fun q => h (own_lt.mpr q))).2.2.1
theorem own_yes_le {x y : Int32} {a b : Int} (ha : x.toInt = a) (hb : y.toInt = b) (h : ¬ b < a) : if_icmp.holds .le x y = true := by subst ha hb; exact (flt (fun q => h (own_lt.mpr q))).2.2.2
theorem own_no_le {x y : Int32} {a b : Int} (ha : x.toInt = a) (hb : y.toInt = b) (h : b < a) : if_icmp.holds .le x y = false := by subst ha hb; exact (tlt (own_lt.mp h)).2.2.2
theorem own_yes_eq {x y : Int32} {a b : Int} (ha : x.toInt = a) (hb : y.toInt = b) (h : a = b) : if_icmp.holds .eq x y = true := by subst ha hb; exact (teq (Int32.toInt_inj.mp h)).1
theorem own_no_eq {x y : Int32} {a b : Int} (ha : x.toInt = a) (hb : y.toInt = b) (h : ¬ a = b) : if_icmp.holds .eq x y = false := by subst ha hb; exact (feq (fun q => h (congrArg Int32.toInt q))).1
theorem own_yes_ne {x y : Int32} {a b : Int} (ha : x.toInt = a) (hb : y.toInt = b) (h : ¬ a = b) : if_icmp.holds .ne x y = true := by subst ha hb; exact (feq (fun q => h (congrArg Int32.toInt q))).2
theorem own_no_ne {x y : Int32} {a b : Int} (ha : x.toInt = a) (hb : y.toInt = b) (h : a = b) : if_icmp.holds .ne x y = false := by subst ha hb; exact (teq (Int32.toInt_inj.mp h)).2
theorem own_z {cd : ClassFile.Cond} {x : Int32} {b : Bool} (h : if_icmp.holds cd x 0 = b) : ifCond.holds cd x = b := (if0 cd x).trans h
theorem own_lcm {x y : Int64} {a b : Int} (ha : x.toInt = a) (hb : y.toInt = b) : (a < b ∧ (lcmpW x y).toInt = -1) ∨ (a = b ∧ (lcmpW x y).toInt = 0) ∨ (b < a ∧ (lcmpW x y).toInt = 1) := by
  subst ha hb
  obtain ⟨h1, h2, h3⟩ := c_lcmp x y
  omega
theorem own_ne0 {x : Int32} {a : Int} (ha : x.toInt = a) (h : ¬ a = 0) : x ≠ 0 := fun q => h (by rw [← ha, q]; rfl)
theorem own_iloadN (X : Stand p l e R s m args below meth c T locs cells slots) (hx : p.tables.exec = Jvm.exec) {pc pc' : Nat} {Ls : Array Slot} {st : List Value} {k : Fin 4} {v : Int32} (hl : Ls[k.val]? = some (.val (.int v))) (hd : decode c.code pc = .ok (.iload_n k, 1)) (hp : pc + 1 = pc') (h : own_Go p e below Q F (T.setTop (mkF m pc' Ls (.int v :: st)))) : own_Go p e below Q F (T.setTop (mkF m pc Ls st)) := by
  subst hp
  exact own_by (fun _ q => XS.iloadN X.here hx rfl hd hl q) h
theorem own_iload (X : Stand p l e R s m args below meth c T locs cells slots) (hx : p.tables.exec = Jvm.exec) {pc pc' : Nat} {Ls : Array Slot} {st : List Value} {k : Nat} {v : Int32} (hl : Ls[k]? = some (.val (.int v))) (hd : decode c.code pc = .ok (.iload k, 2)) (hp : pc + 2 = pc') (h : own_Go p e below Q F (T.setTop (mkF m pc' Ls (.int v :: st)))) : own_Go p e below Q F (T.setTop (mkF m pc Ls st)) := by
  subst hp
  exact own_by (fun _ q => XS.iload X.here hx rfl hd hl q) h
theorem own_lloadN (X : Stand p l e R s m args below meth c T locs cells slots) (hx : p.tables.exec = Jvm.exec) {pc pc' : Nat} {Ls : Array Slot} {st : List Value} {k : Fin 4} {v : Int64} (hl : Ls[k.val]? = some (.val (.long v))) (hd : decode c.code pc = .ok (.lload_n k, 1)) (hp : pc + 1 = pc') (h : own_Go p e below Q F (T.setTop (mkF m pc' Ls (.long v :: st)))) : own_Go p e below Q F (T.setTop (mkF m pc Ls st)) := by
  subst hp
  exact own_by (fun _ q => XS.lloadN X.here hx rfl hd hl q) h
theorem own_lload (X : Stand p l e R s m args below meth c T locs cells slots) (hx : p.tables.exec = Jvm.exec) {pc pc' : Nat} {Ls : Array Slot} {st : List Value} {k : Nat} {v : Int64} (hl : Ls[k]? = some (.val (.long v))) (hd : decode c.code pc = .ok (.lload k, 2)) (hp : pc + 2 = pc') (h : own_Go p e below Q F (T.setTop (mkF m pc' Ls (.long v :: st)))) : own_Go p e below Q F (T.setTop (mkF m pc Ls st)) := by
  subst hp
  exact own_by (fun _ q => XS.lload X.here hx rfl hd hl q) h
theorem own_aloadN (X : Stand p l e R s m args below meth c T locs cells slots) (hx : p.tables.exec = Jvm.exec) {pc pc' : Nat} {Ls : Array Slot} {st : List Value} {k : Fin 4} {v : Value} (hl : Ls[k.val]? = some (.val v)) (hv : v.isRef = true) (hd : decode c.code pc = .ok (.aload_n k, 1)) (hp : pc + 1 = pc') (h : own_Go p e below Q F (T.setTop (mkF m pc' Ls (v :: st)))) : own_Go p e below Q F (T.setTop (mkF m pc Ls st)) := by
  subst hp
  exact own_by (fun _ q => XS.aloadN X.here hx rfl hd hl hv q) h
theorem own_aload (X : Stand p l e R s m args below meth c T locs cells slots) (hx : p.tables.exec = Jvm.exec) {pc pc' : Nat} {Ls : Array Slot} {st : List Value} {k : Nat} {v : Value} (hl : Ls[k]? = some (.val v)) (hv : v.isRef = true) (hd : decode c.code pc = .ok (.aload k, 2)) (hp : pc + 2 = pc') (h : own_Go p e below Q F (T.setTop (mkF m pc' Ls (v :: st)))) : own_Go p e below Q F (T.setTop (mkF m pc Ls st)) := by
  subst hp
  exact own_by (fun _ q => XS.aload X.here hx rfl hd hl hv q) h
theorem own_iconst (X : Stand p l e R s m args below meth c T locs cells slots) (hx : p.tables.exec = Jvm.exec) {pc pc' : Nat} {Ls : Array Slot} {st : List Value} {i : Int} (z : Int32) (hz : Int32.ofInt i = z) (hd : decode c.code pc = .ok (.iconst i, 1)) (hp : pc + 1 = pc') (h : own_Go p e below Q F (T.setTop (mkF m pc' Ls (.int z :: st)))) : own_Go p e below Q F (T.setTop (mkF m pc Ls st)) := by
  subst hp hz
  exact own_by (fun _ q => XS.iconst X.here hx rfl hd q) h
theorem own_bipush (X : Stand p l e R s m args below meth c T locs cells slots) (hx : p.tables.exec = Jvm.exec) {pc pc' : Nat} {Ls : Array Slot} {st : List Value} {i : Int} (z : Int32) (hz : (Int8.ofInt i).toInt32 = z) (hd : decode c.code pc = .ok (.bipush i, 2)) (hp : pc + 2 = pc') (h : own_Go p e below Q F (T.setTop (mkF m pc' Ls (.int z :: st)))) : own_Go p e below Q F (T.setTop (mkF m pc Ls st)) := by
  subst hp hz
  exact own_by (fun _ q => XS.bipush X.here hx rfl hd q) h
theorem own_sipush (X : Stand p l e R s m args below meth c T locs cells slots) (hx : p.tables.exec = Jvm.exec) {pc pc' : Nat} {Ls : Array Slot} {st : List Value} {i : Int} (z : Int32) (hz : (Int16.ofInt i).toInt32 = z) (hd : decode c.code pc = .ok (.sipush i, 3)) (hp : pc + 3 = pc') (h : own_Go p e below Q F (T.setTop (mkF m pc' Ls (.int z :: st)))) : own_Go p e below Q F (T.setTop (mkF m pc Ls st)) := by
  subst hp hz
  exact own_by (fun _ q => XS.sipush X.here hx rfl hd q) h
theorem own_lconst (X : Stand p l e R s m args below meth c T locs cells slots) (hx : p.tables.exec = Jvm.exec) {pc pc' : Nat} {Ls : Array Slot} {st : List Value} {k : Fin 2} (z : Int64) (hz : Int64.ofNat k = z) (hd : decode c.code pc = .ok (.lconst k, 1)) (hp : pc + 1 = pc') (h : own_Go p e below Q F (T.setTop (mkF m pc' Ls (.long z :: st)))) : own_Go p e below Q F (T.setTop (mkF m pc Ls st)) := by
  subst hp hz
  exact own_by (fun _ q => XS.lconst X.here hx rfl hd q) h
theorem own_aconstNull (X : Stand p l e R s m args below meth c T locs cells slots) (hx : p.tables.exec = Jvm.exec) {pc pc' : Nat} {Ls : Array Slot} {st : List Value}  (hd : decode c.code pc = .ok (.aconst_null, 1)) (hp : pc + 1 = pc') (h : own_Go p e below Q F (T.setTop (mkF m pc' Ls (.null :: st)))) : own_Go p e below Q F (T.setTop (mkF m pc Ls st)) := by
  subst hp
  exact own_by (fun _ q => XS.aconstNull X.here hx rfl hd q) h
theorem own_iadd (X : Stand p l e R s m args below meth c T locs cells slots) (hx : p.tables.exec = Jvm.exec) {pc pc' : Nat} {Ls : Array Slot} {st : List Value} {x y z : Int32} (hz : x + y = z) (hd : decode c.code pc = .ok (.iadd, 1)) (hp : pc + 1 = pc') (h : own_Go p e below Q F (T.setTop (mkF m pc' Ls (.int z :: st)))) : own_Go p e below Q F (T.setTop (mkF m pc Ls (.int y :: .int x :: st))) := by
  subst hp hz
  exact own_by (fun _ q => XS.iadd X.here hx rfl hd rfl q) h
theorem own_isub (X : Stand p l e R s m args below meth c T locs cells slots) (hx : p.tables.exec = Jvm.exec) {pc pc' : Nat} {Ls : Array Slot} {st : List Value} {x y z : Int32} (hz : x - y = z) (hd : decode c.code pc = .ok (.isub, 1)) (hp : pc + 1 = pc') (h : own_Go p e below Q F (T.setTop (mkF m pc' Ls (.int z :: st)))) : own_Go p e below Q F (T.setTop (mkF m pc Ls (.int y :: .int x :: st))) := by
  subst hp hz
  exact own_by (fun _ q => XS.isub X.here hx rfl hd rfl q) h
theorem own_imul (X : Stand p l e R s m args below meth c T locs cells slots) (hx : p.tables.exec = Jvm.exec) {pc pc' : Nat} {Ls : Array Slot} {st : List Value} {x y z : Int32} (hz : x * y = z) (hd : decode c.code pc = .ok (.imul, 1)) (hp : pc + 1 = pc') (h : own_Go p e below Q F (T.setTop (mkF m pc' Ls (.int z :: st)))) : own_Go p e below Q F (T.setTop (mkF m pc Ls (.int y :: .int x :: st))) := by
  subst hp hz
  exact own_by (fun _ q => XS.imul X.here hx rfl hd rfl q) h
theorem own_iand (X : Stand p l e R s m args below meth c T locs cells slots) (hx : p.tables.exec = Jvm.exec) {pc pc' : Nat} {Ls : Array Slot} {st : List Value} {x y z : Int32} (hz : x &&& y = z) (hd : decode c.code pc = .ok (.iand, 1)) (hp : pc + 1 = pc') (h : own_Go p e below Q F (T.setTop (mkF m pc' Ls (.int z :: st)))) : own_Go p e below Q F (T.setTop (mkF m pc Ls (.int y :: .int x :: st))) := by
  subst hp hz
  exact own_by (fun _ q => XS.iand X.here hx rfl hd rfl q) h
theorem own_ior (X : Stand p l e R s m args below meth c T locs cells slots) (hx : p.tables.exec = Jvm.exec) {pc pc' : Nat} {Ls : Array Slot} {st : List Value} {x y z : Int32} (hz : x ||| y = z) (hd : decode c.code pc = .ok (.ior, 1)) (hp : pc + 1 = pc') (h : own_Go p e below Q F (T.setTop (mkF m pc' Ls (.int z :: st)))) : own_Go p e below Q F (T.setTop (mkF m pc Ls (.int y :: .int x :: st))) := by
  subst hp hz
  exact own_by (fun _ q => XS.ior X.here hx rfl hd rfl q) h
theorem own_ixor (X : Stand p l e R s m args below meth c T locs cells slots) (hx : p.tables.exec = Jvm.exec) {pc pc' : Nat} {Ls : Array Slot} {st : List Value} {x y z : Int32} (hz : x ^^^ y = z) (hd : decode c.code pc = .ok (.ixor, 1)) (hp : pc + 1 = pc') (h : own_Go p e below Q F (T.setTop (mkF m pc' Ls (.int z :: st)))) : own_Go p e below Q F (T.setTop (mkF m pc Ls (.int y :: .int x :: st))) := by
  subst hp hz
  exact own_by (fun _ q => XS.ixor X.here hx rfl hd rfl q) h
theorem own_ishl (X : Stand p l e R s m args below meth c T locs cells slots) (hx : p.tables.exec = Jvm.exec) {pc pc' : Nat} {Ls : Array Slot} {st : List Value} {x y z : Int32} (hz : x <<< (y &&& 31) = z) (hd : decode c.code pc = .ok (.ishl, 1)) (hp : pc + 1 = pc') (h : own_Go p e below Q F (T.setTop (mkF m pc' Ls (.int z :: st)))) : own_Go p e below Q F (T.setTop (mkF m pc Ls (.int y :: .int x :: st))) := by
  subst hp hz
  exact own_by (fun _ q => XS.ishl X.here hx rfl hd rfl q) h
theorem own_ishr (X : Stand p l e R s m args below meth c T locs cells slots) (hx : p.tables.exec = Jvm.exec) {pc pc' : Nat} {Ls : Array Slot} {st : List Value} {x y z : Int32} (hz : x >>> (y &&& 31) = z) (hd : decode c.code pc = .ok (.ishr, 1)) (hp : pc + 1 = pc') (h : own_Go p e below Q F (T.setTop (mkF m pc' Ls (.int z :: st)))) : own_Go p e below Q F (T.setTop (mkF m pc Ls (.int y :: .int x :: st))) := by
  subst hp hz
  exact own_by (fun _ q => XS.ishr X.here hx rfl hd rfl q) h
theorem own_iushr (X : Stand p l e R s m args below meth c T locs cells slots) (hx : p.tables.exec = Jvm.exec) {pc pc' : Nat} {Ls : Array Slot} {st : List Value} {x y z : Int32} (hz : (x.toUInt32 >>> (y &&& 31).toUInt32).toInt32 = z) (hd : decode c.code pc = .ok (.iushr, 1)) (hp : pc + 1 = pc') (h : own_Go p e below Q F (T.setTop (mkF m pc' Ls (.int z :: st)))) : own_Go p e below Q F (T.setTop (mkF m pc Ls (.int y :: .int x :: st))) := by
  subst hp hz
  exact own_by (fun _ q => XS.iushr X.here hx rfl hd rfl q) h
theorem own_idiv (X : Stand p l e R s m args below meth c T locs cells slots) (hx : p.tables.exec = Jvm.exec) {pc pc' : Nat} {Ls : Array Slot} {st : List Value} {x y z : Int32} (hy : y ≠ 0) (hz : x / y = z) (hd : decode c.code pc = .ok (.idiv, 1)) (hp : pc + 1 = pc') (h : own_Go p e below Q F (T.setTop (mkF m pc' Ls (.int z :: st)))) : own_Go p e below Q F (T.setTop (mkF m pc Ls (.int y :: .int x :: st))) := by
  subst hp hz
  exact own_by (fun _ q => XS.idiv X.here hx rfl hd rfl hy q) h
theorem own_irem (X : Stand p l e R s m args below meth c T locs cells slots) (hx : p.tables.exec = Jvm.exec) {pc pc' : Nat} {Ls : Array Slot} {st : List Value} {x y z : Int32} (hy : y ≠ 0) (hz : x % y = z) (hd : decode c.code pc = .ok (.irem, 1)) (hp : pc + 1 = pc') (h : own_Go p e below Q F (T.setTop (mkF m pc' Ls (.int z :: st)))) : own_Go p e below Q F (T.setTop (mkF m pc Ls (.int y :: .int x :: st))) := by
  subst hp hz
  exact own_by (fun _ q => iremM X hx rfl hd rfl hy q) h
theorem own_ladd (X : Stand p l e R s m args below meth c T locs cells slots) (hx : p.tables.exec = Jvm.exec) {pc pc' : Nat} {Ls : Array Slot} {st : List Value} {x y z : Int64} (hz : x + y = z) (hd : decode c.code pc = .ok (.ladd, 1)) (hp : pc + 1 = pc') (h : own_Go p e below Q F (T.setTop (mkF m pc' Ls (.long z :: st)))) : own_Go p e below Q F (T.setTop (mkF m pc Ls (.long y :: .long x :: st))) := by
  subst hp hz
  exact own_by (fun _ q => XS.ladd X.here hx rfl hd rfl q) h
theorem own_lsub (X : Stand p l e R s m args below meth c T locs cells slots) (hx : p.tables.exec = Jvm.exec) {pc pc' : Nat} {Ls : Array Slot} {st : List Value} {x y z : Int64} (hz : x - y = z) (hd : decode c.code pc = .ok (.lsub, 1)) (hp : pc + 1 = pc') (h : own_Go p e below Q F (T.setTop (mkF m pc' Ls (.long z :: st)))) : own_Go p e below Q F (T.setTop (mkF m pc Ls (.long y :: .long x :: st))) := by
  subst hp hz
  exact own_by (fun _ q => XS.lsub X.here hx rfl hd rfl q) h
theorem own_lmul (X : Stand p l e R s m args below meth c T locs cells slots) (hx : p.tables.exec = Jvm.exec) {pc pc' : Nat} {Ls : Array Slot} {st : List Value} {x y z : Int64} (hz : x * y = z) (hd : decode c.code pc = .ok (.lmul, 1)) (hp : pc + 1 = pc') (h : own_Go p e below Q F (T.setTop (mkF m pc' Ls (.long z :: st)))) : own_Go p e below Q F (T.setTop (mkF m pc Ls (.long y :: .long x :: st))) := by
  subst hp hz
  exact own_by (fun _ q => XS.lmul X.here hx rfl hd rfl q) h
theorem own_land (X : Stand p l e R s m args below meth c T locs cells slots) (hx : p.tables.exec = Jvm.exec) {pc pc' : Nat} {Ls : Array Slot} {st : List Value} {x y z : Int64} (hz : x &&& y = z) (hd : decode c.code pc = .ok (.land, 1)) (hp : pc + 1 = pc') (h : own_Go p e below Q F (T.setTop (mkF m pc' Ls (.long z :: st)))) : own_Go p e below Q F (T.setTop (mkF m pc Ls (.long y :: .long x :: st))) := by
  subst hp hz
  exact own_by (fun _ q => XS.land X.here hx rfl hd rfl q) h
theorem own_lor (X : Stand p l e R s m args below meth c T locs cells slots) (hx : p.tables.exec = Jvm.exec) {pc pc' : Nat} {Ls : Array Slot} {st : List Value} {x y z : Int64} (hz : x ||| y = z) (hd : decode c.code pc = .ok (.lor, 1)) (hp : pc + 1 = pc') (h : own_Go p e below Q F (T.setTop (mkF m pc' Ls (.long z :: st)))) : own_Go p e below Q F (T.setTop (mkF m pc Ls (.long y :: .long x :: st))) := by
  subst hp hz
  exact own_by (fun _ q => XS.lor X.here hx rfl hd rfl q) h
theorem own_lcmp (X : Stand p l e R s m args below meth c T locs cells slots) (hx : p.tables.exec = Jvm.exec) {pc pc' : Nat} {Ls : Array Slot} {st : List Value} {x y : Int64} {z : Int32} (hz : lcmpW x y = z) (hd : decode c.code pc = .ok (.lcmp, 1)) (hp : pc + 1 = pc') (h : own_Go p e below Q F (T.setTop (mkF m pc' Ls (.int z :: st)))) : own_Go p e below Q F (T.setTop (mkF m pc Ls (.long y :: .long x :: st))) := by
  subst hp hz
  exact own_by (fun _ q => XS.lcmp X.here hx rfl hd rfl q) h
theorem own_ineg (X : Stand p l e R s m args below meth c T locs cells slots) (hx : p.tables.exec = Jvm.exec) {pc pc' : Nat} {Ls : Array Slot} {st : List Value} {x z : Int32} (hz : -x = z) (hd : decode c.code pc = .ok (.ineg, 1)) (hp : pc + 1 = pc') (h : own_Go p e below Q F (T.setTop (mkF m pc' Ls (.int z :: st)))) : own_Go p e below Q F (T.setTop (mkF m pc Ls (.int x :: st))) := by
  subst hp hz
  exact own_by (fun _ q => XS.ineg X.here hx rfl hd rfl q) h
theorem own_i2l (X : Stand p l e R s m args below meth c T locs cells slots) (hx : p.tables.exec = Jvm.exec) {pc pc' : Nat} {Ls : Array Slot} {st : List Value} {x : Int32} {z : Int64} (hz : x.toInt64 = z) (hd : decode c.code pc = .ok (.i2l, 1)) (hp : pc + 1 = pc') (h : own_Go p e below Q F (T.setTop (mkF m pc' Ls (.long z :: st)))) : own_Go p e below Q F (T.setTop (mkF m pc Ls (.int x :: st))) := by
  subst hp hz
  exact own_by (fun _ q => XS.i2l X.here hx rfl hd rfl q) h
theorem own_l2i (X : Stand p l e R s m args below meth c T locs cells slots) (hx : p.tables.exec = Jvm.exec) {pc pc' : Nat} {Ls : Array Slot} {st : List Value} {x : Int64} {z : Int32} (hz : x.toInt32 = z) (hd : decode c.code pc = .ok (.l2i, 1)) (hp : pc + 1 = pc') (h : own_Go p e below Q F (T.setTop (mkF m pc' Ls (.int z :: st)))) : own_Go p e below Q F (T.setTop (mkF m pc Ls (.long x :: st))) := by
  subst hp hz
  exact own_by (fun _ q => XS.l2i X.here hx rfl hd rfl q) h
theorem own_i2b (X : Stand p l e R s m args below meth c T locs cells slots) (hx : p.tables.exec = Jvm.exec) {pc pc' : Nat} {Ls : Array Slot} {st : List Value} {x z : Int32} (hz : x.toInt8.toInt32 = z) (hd : decode c.code pc = .ok (.i2b, 1)) (hp : pc + 1 = pc') (h : own_Go p e below Q F (T.setTop (mkF m pc' Ls (.int z :: st)))) : own_Go p e below Q F (T.setTop (mkF m pc Ls (.int x :: st))) := by
  subst hp hz
  exact own_by (fun _ q => XS.i2b X.here hx rfl hd rfl q) h
theorem own_i2c (X : Stand p l e R s m args below meth c T locs cells slots) (hx : p.tables.exec = Jvm.exec) {pc pc' : Nat} {Ls : Array Slot} {st : List Value} {x z : Int32} (hz : x.toUInt32.toUInt16.toUInt32.toInt32 = z) (hd : decode c.code pc = .ok (.i2c, 1)) (hp : pc + 1 = pc') (h : own_Go p e below Q F (T.setTop (mkF m pc' Ls (.int z :: st)))) : own_Go p e below Q F (T.setTop (mkF m pc Ls (.int x :: st))) := by
  subst hp hz
  exact own_by (fun _ q => XS.i2c X.here hx rfl hd rfl q) h
theorem own_i2s (X : Stand p l e R s m args below meth c T locs cells slots) (hx : p.tables.exec = Jvm.exec) {pc pc' : Nat} {Ls : Array Slot} {st : List Value} {x z : Int32} (hz : x.toInt16.toInt32 = z) (hd : decode c.code pc = .ok (.i2s, 1)) (hp : pc + 1 = pc') (h : own_Go p e below Q F (T.setTop (mkF m pc' Ls (.int z :: st)))) : own_Go p e below Q F (T.setTop (mkF m pc Ls (.int x :: st))) := by
  subst hp hz
  exact own_by (fun _ q => XS.i2s X.here hx rfl hd rfl q) h
theorem own_dup (X : Stand p l e R s m args below meth c T locs cells slots) (hx : p.tables.exec = Jvm.exec) {pc pc' : Nat} {Ls : Array Slot} {st : List Value} {x : Value} (hc : x.category = 1) (hd : decode c.code pc = .ok (.dup, 1)) (hp : pc + 1 = pc') (h : own_Go p e below Q F (T.setTop (mkF m pc' Ls (x :: x :: st)))) : own_Go p e below Q F (T.setTop (mkF m pc Ls (x :: st))) := by
  subst hp
  exact own_by (fun _ q => XS.dup X.here hx rfl hd rfl hc q) h
theorem own_dupX1 (X : Stand p l e R s m args below meth c T locs cells slots) (hx : p.tables.exec = Jvm.exec) {pc pc' : Nat} {Ls : Array Slot} {st : List Value} {x y : Value} (hc : x.category = 1) (hc2 : y.category = 1) (hd : decode c.code pc = .ok (.dup_x1, 1)) (hp : pc + 1 = pc') (h : own_Go p e below Q F (T.setTop (mkF m pc' Ls (x :: y :: x :: st)))) : own_Go p e below Q F (T.setTop (mkF m pc Ls (x :: y :: st))) := by
  subst hp
  exact own_by (fun _ q => XS.dupX1 X.here hx rfl hd rfl hc hc2 q) h
theorem own_pop (X : Stand p l e R s m args below meth c T locs cells slots) (hx : p.tables.exec = Jvm.exec) {pc pc' : Nat} {Ls : Array Slot} {st : List Value} {x : Value} (hc : x.category = 1) (hd : decode c.code pc = .ok (.pop, 1)) (hp : pc + 1 = pc') (h : own_Go p e below Q F (T.setTop (mkF m pc' Ls st))) : own_Go p e below Q F (T.setTop (mkF m pc Ls (x :: st))) := by
  subst hp
  exact own_by (fun _ q => XS.pop X.here hx rfl hd rfl hc q) h
theorem own_istoreN (X : Stand p l e R s m args below meth c T locs cells slots) (hx : p.tables.exec = Jvm.exec) {pc pc' : Nat} {Ls : Array Slot} {st : List Value} {k : Fin 4} {x : Int32} (L' : Array Slot) (hl : storeLocals Ls k.val (.int x) = some L') (hd : decode c.code pc = .ok (.istore_n k, 1)) (hp : pc + 1 = pc') (h : own_Go p e below Q F (T.setTop (mkF m pc' L' st))) : own_Go p e below Q F (T.setTop (mkF m pc Ls (.int x :: st))) := by
  subst hp
  exact own_by (fun _ q => XS.istoreN X.here hx rfl hd rfl hl q) h
theorem own_istore (X : Stand p l e R s m args below meth c T locs cells slots) (hx : p.tables.exec = Jvm.exec) {pc pc' : Nat} {Ls : Array Slot} {st : List Value} {k : Nat} {x : Int32} (L' : Array Slot) (hl : storeLocals Ls k (.int x) = some L') (hd : decode c.code pc = .ok (.istore k, 2)) (hp : pc + 2 = pc') (h : own_Go p e below Q F (T.setTop (mkF m pc' L' st))) : own_Go p e below Q F (T.setTop (mkF m pc Ls (.int x :: st))) := by
  subst hp
  exact own_by (fun _ q => XS.istore X.here hx rfl hd rfl hl q) h
theorem own_lstoreN (X : Stand p l e R s m args below meth c T locs cells slots) (hx : p.tables.exec = Jvm.exec) {pc pc' : Nat} {Ls : Array Slot} {st : List Value} {k : Fin 4} {x : Int64} (L' : Array Slot) (hl : storeLocals Ls k.val (.long x) = some L') (hd : decode c.code pc = .ok (.lstore_n k, 1)) (hp : pc + 1 = pc') (h : own_Go p e below Q F (T.setTop (mkF m pc' L' st))) : own_Go p e below Q F (T.setTop (mkF m pc Ls (.long x :: st))) := by
  subst hp
  exact own_by (fun _ q => XS.lstoreN X.here hx rfl hd rfl hl q) h
theorem own_lstore (X : Stand p l e R s m args below meth c T locs cells slots) (hx : p.tables.exec = Jvm.exec) {pc pc' : Nat} {Ls : Array Slot} {st : List Value} {k : Nat} {x : Int64} (L' : Array Slot) (hl : storeLocals Ls k (.long x) = some L') (hd : decode c.code pc = .ok (.lstore k, 2)) (hp : pc + 2 = pc') (h : own_Go p e below Q F (T.setTop (mkF m pc' L' st))) : own_Go p e below Q F (T.setTop (mkF m pc Ls (.long x :: st))) := by
  subst hp
  exact own_by (fun _ q => XS.lstore X.here hx rfl hd rfl hl q) h
theorem own_astoreN (X : Stand p l e R s m args below meth c T locs cells slots) (hx : p.tables.exec = Jvm.exec) {pc pc' : Nat} {Ls : Array Slot} {st : List Value} {k : Fin 4} {x : Value} (L' : Array Slot) (hv : x.isRef = true) (hl : storeLocals Ls k.val x = some L') (hd : decode c.code pc = .ok (.astore_n k, 1)) (hp : pc + 1 = pc') (h : own_Go p e below Q F (T.setTop (mkF m pc' L' st))) : own_Go p e below Q F (T.setTop (mkF m pc Ls (x :: st))) := by
  subst hp
  exact own_by (fun _ q => XS.astoreN X.here hx rfl hd rfl hv hl q) h
theorem own_astore (X : Stand p l e R s m args below meth c T locs cells slots) (hx : p.tables.exec = Jvm.exec) {pc pc' : Nat} {Ls : Array Slot} {st : List Value} {k : Nat} {x : Value} (L' : Array Slot) (hv : x.isRef = true) (hl : storeLocals Ls k x = some L') (hd : decode c.code pc = .ok (.astore k, 2)) (hp : pc + 2 = pc') (h : own_Go p e below Q F (T.setTop (mkF m pc' L' st))) : own_Go p e below Q F (T.setTop (mkF m pc Ls (x :: st))) := by
  subst hp
  exact own_by (fun _ q => XS.astore X.here hx rfl hd rfl hv hl q) h
theorem own_iinc (X : Stand p l e R s m args below meth c T locs cells slots) (hx : p.tables.exec = Jvm.exec) {pc pc' : Nat} {Ls : Array Slot} {st : List Value} {k : Nat} {cst : Int} {x z : Int32} (L' : Array Slot) (hv : Ls[k]? = some (.val (.int x))) (hz : x + Int32.ofInt cst = z) (hl : storeLocals Ls k (.int z) = some L') (hd : decode c.code pc = .ok (.iinc k cst, 3)) (hp : pc + 3 = pc') (h : own_Go p e below Q F (T.setTop (mkF m pc' L' st))) : own_Go p e below Q F (T.setTop (mkF m pc Ls st)) := by
  subst hp hz
  exact own_by (fun _ q => XS.iinc X.here hx rfl hd hv hl q) h
theorem own_goto (X : Stand p l e R s m args below meth c T locs cells slots) (hx : p.tables.exec = Jvm.exec) {pc pc' : Nat} {Ls : Array Slot} {st : List Value} {o : Int}  (hd : decode c.code pc = .ok (.goto o, 3))  (ho : 0 ≤ (pc : Int) + o) (hp : ((pc : Int) + o).toNat = pc') (h : own_Go p e below Q F (T.setTop (mkF m pc' Ls st))) : own_Go p e below Q F (T.setTop (mkF m pc Ls st)) := by
  exact own_by (fun _ q => XS.goto X.here hx rfl rfl hd ho hp q) h
theorem own_ifYes (X : Stand p l e R s m args below meth c T locs cells slots) (hx : p.tables.exec = Jvm.exec) {pc pc' : Nat} {Ls : Array Slot} {st : List Value} {o : Int} {cd : ClassFile.Cond} {x : Int32} (hd : decode c.code pc = .ok (.ifCond cd o, 3)) (hc : ifCond.holds cd x = true) (ho : 0 ≤ (pc : Int) + o) (hp : ((pc : Int) + o).toNat = pc') (h : own_Go p e below Q F (T.setTop (mkF m pc' Ls st))) : own_Go p e below Q F (T.setTop (mkF m pc Ls (.int x :: st))) := by
  exact own_by (fun _ q => XS.ifYes X.here hx rfl rfl hd rfl hc ho hp q) h
theorem own_icmpYes (X : Stand p l e R s m args below meth c T locs cells slots) (hx : p.tables.exec = Jvm.exec) {pc pc' : Nat} {Ls : Array Slot} {st : List Value} {o : Int} {cd : ClassFile.Cond} {x y : Int32} (hd : decode c.code pc = .ok (.if_icmp cd o, 3)) (hc : if_icmp.holds cd x y = true) (ho : 0 ≤ (pc : Int) + o) (hp : ((pc : Int) + o).toNat = pc') (h : own_Go p e below Q F (T.setTop (mkF m pc' Ls st))) : own_Go p e below Q F (T.setTop (mkF m pc Ls (.int y :: .int x :: st))) := by
  exact own_by (fun _ q => XS.icmpYes X.here hx rfl rfl hd rfl hc ho hp q) h
theorem own_ifnullYes (X : Stand p l e R s m args below meth c T locs cells slots) (hx : p.tables.exec = Jvm.exec) {pc pc' : Nat} {Ls : Array Slot} {st : List Value} {o : Int}  (hd : decode c.code pc = .ok (.ifnull o, 3))  (ho : 0 ≤ (pc : Int) + o) (hp : ((pc : Int) + o).toNat = pc') (h : own_Go p e below Q F (T.setTop (mkF m pc' Ls st))) : own_Go p e below Q F (T.setTop (mkF m pc Ls (.null :: st))) := by
  exact own_by (fun _ q => XS.ifnullYes X.here hx rfl rfl hd rfl ho hp q) h
theorem own_ifnonnullYes (X : Stand p l e R s m args below meth c T locs cells slots) (hx : p.tables.exec = Jvm.exec) {pc pc' : Nat} {Ls : Array Slot} {st : List Value} {o : Int} {b : Addr} (hd : decode c.code pc = .ok (.ifnonnull o, 3))  (ho : 0 ≤ (pc : Int) + o) (hp : ((pc : Int) + o).toNat = pc') (h : own_Go p e below Q F (T.setTop (mkF m pc' Ls st))) : own_Go p e below Q F (T.setTop (mkF m pc Ls (.ref b :: st))) := by
  exact own_by (fun _ q => XS.ifnonnullYes X.here hx rfl rfl hd rfl ho hp q) h
theorem own_acmpYes (X : Stand p l e R s m args below meth c T locs cells slots) (hx : p.tables.exec = Jvm.exec) {pc pc' : Nat} {Ls : Array Slot} {st : List Value} {o : Int} {cd : ClassFile.ACond} {a b : Addr} (hd : decode c.code pc = .ok (.if_acmp cd o, 3)) (hc : if_acmp.holds cd (some a) (some b) = true) (ho : 0 ≤ (pc : Int) + o) (hp : ((pc : Int) + o).toNat = pc') (h : own_Go p e below Q F (T.setTop (mkF m pc' Ls st))) : own_Go p e below Q F (T.setTop (mkF m pc Ls (.ref b :: .ref a :: st))) := by
  exact own_by (fun _ q => XS.acmpYes X.here hx rfl rfl hd rfl hc ho hp q) h
theorem own_ifNo (X : Stand p l e R s m args below meth c T locs cells slots) (hx : p.tables.exec = Jvm.exec) {pc pc' : Nat} {Ls : Array Slot} {st : List Value} {cd : ClassFile.Cond} {x : Int32} {o : Int} (hc : ifCond.holds cd x = false) (hd : decode c.code pc = .ok (.ifCond cd o, 3)) (hp : pc + 3 = pc') (h : own_Go p e below Q F (T.setTop (mkF m pc' Ls st))) : own_Go p e below Q F (T.setTop (mkF m pc Ls (.int x :: st))) := by
  subst hp
  exact own_by (fun _ q => XS.ifNo X.here hx rfl hd rfl hc q) h
theorem own_icmpNo (X : Stand p l e R s m args below meth c T locs cells slots) (hx : p.tables.exec = Jvm.exec) {pc pc' : Nat} {Ls : Array Slot} {st : List Value} {cd : ClassFile.Cond} {x y : Int32} {o : Int} (hc : if_icmp.holds cd x y = false) (hd : decode c.code pc = .ok (.if_icmp cd o, 3)) (hp : pc + 3 = pc') (h : own_Go p e below Q F (T.setTop (mkF m pc' Ls st))) : own_Go p e below Q F (T.setTop (mkF m pc Ls (.int y :: .int x :: st))) := by
  subst hp
  exact own_by (fun _ q => XS.icmpNo X.here hx rfl hd rfl hc q) h
theorem own_ifnullNo (X : Stand p l e R s m args below meth c T locs cells slots) (hx : p.tables.exec = Jvm.exec) {pc pc' : Nat} {Ls : Array Slot} {st : List Value} {b : Addr} {o : Int}  (hd : decode c.code pc = .ok (.ifnull o, 3)) (hp : pc + 3 = pc') (h : own_Go p e below Q F (T.setTop (mkF m pc' Ls st))) : own_Go p e below Q F (T.setTop (mkF m pc Ls (.ref b :: st))) := by
  subst hp
  exact own_by (fun _ q => XS.ifnullNo X.here hx rfl hd rfl q) h
theorem own_ifnonnullNo (X : Stand p l e R s m args below meth c T locs cells slots) (hx : p.tables.exec = Jvm.exec) {pc pc' : Nat} {Ls : Array Slot} {st : List Value} {o : Int}  (hd : decode c.code pc = .ok (.ifnonnull o, 3)) (hp : pc + 3 = pc') (h : own_Go p e below Q F (T.setTop (mkF m pc' Ls st))) : own_Go p e below Q F (T.setTop (mkF m pc Ls (.null :: st))) := by
  subst hp
  exact own_by (fun _ q => XS.ifnonnullNo X.here hx rfl hd rfl q) h
theorem own_acmpNo (X : Stand p l e R s m args below meth c T locs cells slots) (hx : p.tables.exec = Jvm.exec) {pc pc' : Nat} {Ls : Array Slot} {st : List Value} {cd : ClassFile.ACond} {a b : Addr} {o : Int} (hc : if_acmp.holds cd (some a) (some b) = false) (hd : decode c.code pc = .ok (.if_acmp cd o, 3)) (hp : pc + 3 = pc') (h : own_Go p e below Q F (T.setTop (mkF m pc' Ls st))) : own_Go p e below Q F (T.setTop (mkF m pc Ls (.ref b :: .ref a :: st))) := by
  subst hp
  exact own_by (fun _ q => XS.acmpNo X.here hx rfl hd rfl hc q) h
theorem own_ldcInt (X : Stand p l e R s m args below meth c T locs cells slots) (hx : p.tables.exec = Jvm.exec) {pc pc' : Nat} {Ls : Array Slot} {st : List Value} {Z : State} {a0 : Array Value} {own : String} {index : Nat} {v : Int32} (hZ : Z.Warmed39 s.vm) (hown : s.vm.findClass own = some m.cls) (w : (Jvm.Cond.constant own index v).before a0 Z = true) (hd : decode c.code pc = .ok (.ldc index, 2)) (hp : pc + 2 = pc') (h : own_Go p e below Q F (T.setTop (mkF m pc' Ls (.int v :: st)))) : own_Go p e below Q F (T.setTop (mkF m pc Ls st)) := by
  subst hp
  exact own_by (fun _ q => X.ldcInt hx hown (mv hZ w) (g := mkF m pc Ls st) rfl hd _ q) h
theorem own_ldc2Long (X : Stand p l e R s m args below meth c T locs cells slots) (hx : p.tables.exec = Jvm.exec) {pc pc' : Nat} {Ls : Array Slot} {st : List Value} {Z : State} {a0 : Array Value} {own : String} {index : Nat} {v : Int64} (hZ : Z.Warmed39 s.vm) (hown : s.vm.findClass own = some m.cls) (w : (Jvm.Cond.constantLong own index v).before a0 Z = true) (hd : decode c.code pc = .ok (.ldc2_w index, 3)) (hp : pc + 3 = pc') (h : own_Go p e below Q F (T.setTop (mkF m pc' Ls (.long v :: st)))) : own_Go p e below Q F (T.setTop (mkF m pc Ls st)) := by
  subst hp
  exact own_by (fun _ q => X.ldc2Long hx hown (mv hZ w) (g := mkF m pc Ls st) rfl hd _ q) h
theorem own_lyes_lt {x y : Int64} {a b : Int} (ha : x.toInt = a) (hb : y.toInt = b) (h : a < b) : ifCond.holds .lt (lcmpW x y) = true := by
  have q := own_lcm ha hb
  have r :  (lcmpW x y).toInt < 0 := by omega
  exact own_z (own_yes_lt rfl rfl r)
theorem own_lno_lt {x y : Int64} {a b : Int} (ha : x.toInt = a) (hb : y.toInt = b) (h : ¬ a < b) : ifCond.holds .lt (lcmpW x y) = false := by
  have q := own_lcm ha hb
  have r : ¬ (lcmpW x y).toInt < 0 := by omega
  exact own_z (own_no_lt rfl rfl r)
theorem own_lyes_ge {x y : Int64} {a b : Int} (ha : x.toInt = a) (hb : y.toInt = b) (h : ¬ a < b) : ifCond.holds .ge (lcmpW x y) = true := by
  have q := own_lcm ha hb
  have r : ¬ (lcmpW x y).toInt < 0 := by omega
  exact own_z (own_yes_ge rfl rfl r)
theorem own_lno_ge {x y : Int64} {a b : Int} (ha : x.toInt = a) (hb : y.toInt = b) (h : a < b) : ifCond.holds .ge (lcmpW x y) = false := by
  have q := own_lcm ha hb
  have r :  (lcmpW x y).toInt < 0 := by omega
  exact own_z (own_no_ge rfl rfl r)
theorem own_lyes_gt {x y : Int64} {a b : Int} (ha : x.toInt = a) (hb : y.toInt = b) (h : b < a) : ifCond.holds .gt (lcmpW x y) = true := by
  have q := own_lcm ha hb
  have r :  0 < (lcmpW x y).toInt := by omega
  exact own_z (own_yes_gt rfl rfl r)
theorem own_lno_gt {x y : Int64} {a b : Int} (ha : x.toInt = a) (hb : y.toInt = b) (h : ¬ b < a) : ifCond.holds .gt (lcmpW x y) = false := by
  have q := own_lcm ha hb
  have r : ¬ 0 < (lcmpW x y).toInt := by omega
  exact own_z (own_no_gt rfl rfl r)
theorem own_lyes_le {x y : Int64} {a b : Int} (ha : x.toInt = a) (hb : y.toInt = b) (h : ¬ b < a) : ifCond.holds .le (lcmpW x y) = true := by
  have q := own_lcm ha hb
  have r : ¬ 0 < (lcmpW x y).toInt := by omega
  exact own_z (own_yes_le rfl rfl r)
theorem own_lno_le {x y : Int64} {a b : Int} (ha : x.toInt = a) (hb : y.toInt = b) (h : b < a) : ifCond.holds .le (lcmpW x y) = false := by
  have q := own_lcm ha hb
  have r :  0 < (lcmpW x y).toInt := by omega
  exact own_z (own_no_le rfl rfl r)
theorem own_lyes_eq {x y : Int64} {a b : Int} (ha : x.toInt = a) (hb : y.toInt = b) (h : a = b) : ifCond.holds .eq (lcmpW x y) = true := by
  have q := own_lcm ha hb
  have r :  (lcmpW x y).toInt = 0 := by omega
  exact own_z (own_yes_eq rfl rfl r)
theorem own_lno_eq {x y : Int64} {a b : Int} (ha : x.toInt = a) (hb : y.toInt = b) (h : ¬ a = b) : ifCond.holds .eq (lcmpW x y) = false := by
  have q := own_lcm ha hb
  have r : ¬ (lcmpW x y).toInt = 0 := by omega
  exact own_z (own_no_eq rfl rfl r)
theorem own_lyes_ne {x y : Int64} {a b : Int} (ha : x.toInt = a) (hb : y.toInt = b) (h : ¬ a = b) : ifCond.holds .ne (lcmpW x y) = true := by
  have q := own_lcm ha hb
  have r : ¬ (lcmpW x y).toInt = 0 := by omega
  exact own_z (own_yes_ne rfl rfl r)
theorem own_lno_ne {x y : Int64} {a b : Int} (ha : x.toInt = a) (hb : y.toInt = b) (h : a = b) : ifCond.holds .ne (lcmpW x y) = false := by
  have q := own_lcm ha hb
  have r :  (lcmpW x y).toInt = 0 := by omega
  exact own_z (own_no_ne rfl rfl r)
theorem own_tswIn (X : Stand p l e R s m args below meth c T locs cells slots) (hx : p.tables.exec = Jvm.exec) {pc pc' : Nat} {Ls : Array Slot} {st : List Value} {dflt low high : Int} {offs : Array Int} {len : Nat} (o : Int) {i : Int32} (hd : decode c.code pc = .ok (.tableswitch dflt low high offs, len)) (hin : ¬ (i.toInt < low ∨ i.toInt > high)) (hoff : offs[(i.toInt - low).toNat]? = some o) (ho : 0 ≤ (pc : Int) + o) (hp : ((pc : Int) + o).toNat = pc') (h : own_Go p e below Q F (T.setTop (mkF m pc' Ls st))) : own_Go p e below Q F (T.setTop (mkF m pc Ls (.int i :: st))) := by
  exact own_by (fun _ q => XS.tswIn X.here hx rfl rfl hd rfl hin hoff ho hp q) h
theorem own_tswOut (X : Stand p l e R s m args below meth c T locs cells slots) (hx : p.tables.exec = Jvm.exec) {pc pc' : Nat} {Ls : Array Slot} {st : List Value} {dflt low high : Int} {offs : Array Int} {len : Nat} {i : Int32} (hd : decode c.code pc = .ok (.tableswitch dflt low high offs, len)) (hout : i.toInt < low ∨ i.toInt > high) (ho : 0 ≤ (pc : Int) + dflt) (hp : ((pc : Int) + dflt).toNat = pc') (h : own_Go p e below Q F (T.setTop (mkF m pc' Ls st))) : own_Go p e below Q F (T.setTop (mkF m pc Ls (.int i :: st))) := by
  exact own_by (fun _ q => XS.tswOut X.here hx rfl rfl hd rfl hout ho hp q) h
end OwnKit
theorem pd_0 : parseMethodDescriptor "(II)I" = some ⟨[.int, .int], some .int⟩ := by decide +kernel
theorem dm4_8_0 : decode jdk_29_method_69_code 0 = .ok (.iload_n 0, 1) := by decide +kernel
theorem dm4_8_1 : decode jdk_29_method_69_code 1 = .ok (.iload_n 1, 1) := by decide +kernel
theorem dm4_8_2 : decode jdk_29_method_69_code 2 = .ok (.if_icmp .gt 7, 3) := by decide +kernel
theorem dm4_8_5 : decode jdk_29_method_69_code 5 = .ok (.iload_n 0, 1) := by decide +kernel
theorem dm4_8_6 : decode jdk_29_method_69_code 6 = .ok (.goto 4, 3) := by decide +kernel
theorem dm4_8_9 : decode jdk_29_method_69_code 9 = .ok (.iload_n 1, 1) := by decide +kernel
theorem dm4_8_10 : decode jdk_29_method_69_code 10 = .ok (.ireturn, 1) := by decide +kernel
theorem ef_m4_8 (m : MethodId)  : entryFrame m #[(.int (4 : Int32)), (.int (8 : Int32))] 2 = mkF m 0 #[.val (.int (4 : Int32)), .val (.int (8 : Int32))] [] := by first | (simp [entryFrame, mkF, argsToLocals, Value.category, maxLocals]; done) | rfl
def Qm4_8 (Z : State)  (h0 : Heap) (n0 : Nat) (v : Option Value) (h : Heap) (L : List Loc) : Prop := v = some (.int (4 : Int32)) ∧ (True) ∧ Fr n0 L ∧ h = h0
set_option maxRecDepth 65536 in
set_option maxHeartbeats 40000000 in
theorem rmm4_8 (l : Launch) (Z : State) (a0 : Array Value) (hw : ∀ d ∈ tables_1, d.before a0 Z = true) (ws : List Jvm.Cond)  (h0 : Heap) (n0 : Nat) (Z0 : n0 ≤ h0.size) :
    MetFree l (⟨"java/lang/Math", "min", "(II)I"⟩ : MethodName) (head1 (Jvm.Cond.code (⟨"java/lang/Math", "min", "(II)I"⟩ : MethodName) jdk_29_method_69_code 2 (some .int) :: ws) ({ frames := 0, cells := 0, slots := 0, locals := 0 } : Room)) (fun a U => a = #[(.int (4 : Int32)), (.int (8 : Int32))] ∧ Z.Warmed39 U.vm ∧ U.heap = h0) (fun _ _ _ _ _ => True) (fun _ U o U' => ∃ v L, o = .returned v ∧ Qm4_8 Z  h0 n0 v U'.heap L ∧ FrameEnd U o U' L ({ frames := 0, cells := 0, slots := 0, locals := 0 } : Room).cells ({ frames := 0, cells := 0, slots := 0, locals := 0 } : Room).slots) := by
  refine MetFree.of_bodySF (Jvm.Free.JP.mathPlain rfl (by decide +kernel)) hisR ?_
  intro p e s m args below meth c s₁ Bd hml0 hP hK
  obtain ⟨rfl, hZ, hh⟩ := hP
  have hx := Bd.exec
  have hby := Bd.bytes
  have hml : c.maxLocals = 2 := hml0
  have hown : s.vm.findClass "java/lang/Math" = some m.cls := findClass_of_methodNamed Bd.named
  have hnm := (name_of_methodNamed Bd.named Bd.method).1
  have X0 : Stand p l e ({ frames := 0, cells := 0, slots := 0, locals := 0 } : Room) s m #[(.int (4 : Int32)), (.int (8 : Int32))] below meth c s₁ [] 0 0 := Stand.of_body Bd
  have e0 : s₁.heap = h0 := by rw [← hh, Bd.state]; rfl
  have N0 := Fr.nil n0
  change own_Go p e below (Qm4_8 Z  h0 n0) (own_Fr s ({ frames := 0, cells := 0, slots := 0, locals := 0 } : Room).cells ({ frames := 0, cells := 0, slots := 0, locals := 0 } : Room).slots) (s₁.setTop (entryFrame m #[(.int (4 : Int32)), (.int (8 : Int32))] 2))
  rw [ef_m4_8 m ]
  refine own_iloadN (pc' := 1) X0 hx rfl (hb hby dm4_8_0) rfl ?_
  refine own_iloadN (pc' := 2) X0 hx rfl (hb hby dm4_8_1) rfl ?_
  refine own_icmpNo (pc' := 5) X0 hx (by decide) (hb hby dm4_8_2) rfl ?_
  refine own_iloadN (pc' := 6) X0 hx rfl (hb hby dm4_8_5) rfl ?_
  refine own_goto (pc' := 10) X0 hx (hb hby dm4_8_6) (by decide) (by decide) ?_
  refine own_ret X0 hx Bd.returns Bd.notSynchronized (Or.inl ⟨rfl, by simp, _, rfl⟩) (hb hby dm4_8_10) rfl (by decide) (by decide) ?_
  show Qm4_8 Z  h0 n0 _ s₁.heap _
  rw [e0]
  exact ⟨rfl, trivial, N0, rfl⟩
theorem pd_1 : parseMethodDescriptor "([II)[I" = some ⟨[(.array .int), .int], some (.array .int)⟩ := by decide +kernel
theorem dc4_8_0 : decode jdk_65_method_123_code 0 = .ok (.iload_n 1, 1) := by decide +kernel
theorem dc4_8_1 : decode jdk_65_method_123_code 1 = .ok (.aload_n 0, 1) := by decide +kernel
theorem dc4_8_2 : decode jdk_65_method_123_code 2 = .ok (.arraylength, 1) := by decide +kernel
theorem dc4_8_3 : decode jdk_65_method_123_code 3 = .ok (.if_icmp .ne 11, 3) := by decide +kernel
theorem dc4_8_6 : decode jdk_65_method_123_code 6 = .ok (.aload_n 0, 1) := by decide +kernel
theorem dc4_8_13 : decode jdk_65_method_123_code 13 = .ok (.areturn, 1) := by decide +kernel
theorem dc4_8_14 : decode jdk_65_method_123_code 14 = .ok (.iload_n 1, 1) := by decide +kernel
theorem dc4_8_15 : decode jdk_65_method_123_code 15 = .ok (.newarray .int, 2) := by decide +kernel
theorem dc4_8_17 : decode jdk_65_method_123_code 17 = .ok (.astore_n 2, 1) := by decide +kernel
theorem dc4_8_18 : decode jdk_65_method_123_code 18 = .ok (.aload_n 0, 1) := by decide +kernel
theorem dc4_8_19 : decode jdk_65_method_123_code 19 = .ok (.iconst 0, 1) := by decide +kernel
theorem dc4_8_20 : decode jdk_65_method_123_code 20 = .ok (.aload_n 2, 1) := by decide +kernel
theorem dc4_8_21 : decode jdk_65_method_123_code 21 = .ok (.iconst 0, 1) := by decide +kernel
theorem dc4_8_22 : decode jdk_65_method_123_code 22 = .ok (.aload_n 0, 1) := by decide +kernel
theorem dc4_8_23 : decode jdk_65_method_123_code 23 = .ok (.arraylength, 1) := by decide +kernel
theorem dc4_8_24 : decode jdk_65_method_123_code 24 = .ok (.iload_n 1, 1) := by decide +kernel
theorem dc4_8_25 : decode jdk_65_method_123_code 25 = .ok (.invokestatic 304, 3) := by decide +kernel
theorem dc4_8_28 : decode jdk_65_method_123_code 28 = .ok (.invokestatic 150, 3) := by decide +kernel
theorem dc4_8_31 : decode jdk_65_method_123_code 31 = .ok (.aload_n 2, 1) := by decide +kernel
theorem dc4_8_32 : decode jdk_65_method_123_code 32 = .ok (.areturn, 1) := by decide +kernel
theorem pn_0 : plainName "java/util/Arrays" = true := by first | (simp [plainName, overriddenIn]; done) | decide +kernel
theorem ef_c4_8 (m : MethodId) (x0 : Addr) : entryFrame m #[(.ref x0), (.int (8 : Int32))] 3 = mkF m 0 #[.val (.ref x0), .val (.int (8 : Int32)), .unset] [] := by first | (simp [entryFrame, mkF, argsToLocals, Value.category, maxLocals]; done) | rfl
def Qc4_8 (Z : State) (ar : Addr) (kc : ClassId) (el0 : Int32) (el1 : Int32) (el2 : Int32) (el3 : Int32) (h0 : Heap) (n0 : Nat) (v : Option Value) (h : Heap) (L : List Loc) : Prop := ∃ q : Addr, ∃ kd : ClassId, v = some (.ref q) ∧ (True) ∧ Fr n0 L ∧ Keep h0 h [] ∧ h0.size ≤ q ∧ Exa Z h q "[I" ∧ Arv Z h q kd .int (8 : Int32) [(.int el0), (.int el1), (.int el2), (.int el3), (.int (0 : Int32)), (.int (0 : Int32)), (.int (0 : Int32)), (.int (0 : Int32))] (.int (0 : Int32))
set_option maxRecDepth 65536 in
set_option maxHeartbeats 40000000 in
theorem rmc4_8 (l : Launch) (Z : State) (a0 : Array Value) (hw : ∀ d ∈ tables_1, d.before a0 Z = true) (ws : List Jvm.Cond) (ar : Addr) (kc : ClassId) (el0 : Int32) (el1 : Int32) (el2 : Int32) (el3 : Int32) (h0 : Heap) (n0 : Nat) (Z0 : n0 ≤ h0.size) (E_ar : Exa Z h0 ar "[I") (A_ar : Arv Z h0 ar kc .int (4 : Int32) [(.int el0), (.int el1), (.int el2), (.int el3)] (.int (0 : Int32))) :
    MetFree l (⟨"java/util/Arrays", "copyOf", "([II)[I"⟩ : MethodName) (head1 (Jvm.Cond.code (⟨"java/util/Arrays", "copyOf", "([II)[I"⟩ : MethodName) jdk_65_method_123_code 3 (some (.array .int)) :: ws) ({ frames := 1, cells := 1, slots := 8, locals := 40 } : Room)) (fun a U => a = #[(.ref ar), (.int (8 : Int32))] ∧ Z.Warmed39 U.vm ∧ U.heap = h0) (fun _ _ _ _ _ => True) (fun _ U o U' => ∃ v L, o = .returned v ∧ Qc4_8 Z ar kc el0 el1 el2 el3 h0 n0 v U'.heap L ∧ FrameEnd U o U' L ({ frames := 1, cells := 1, slots := 8, locals := 40 } : Room).cells ({ frames := 1, cells := 1, slots := 8, locals := 40 } : Room).slots) := by
  refine MetFree.of_bodySF (plainFor_of_name pn_0) hisR ?_
  intro p e s m args below meth c s₁ Bd hml0 hP hK
  obtain ⟨rfl, hZ, hh⟩ := hP
  have hx := Bd.exec
  have hby := Bd.bytes
  have hml : c.maxLocals = 3 := hml0
  have hown : s.vm.findClass "java/util/Arrays" = some m.cls := findClass_of_methodNamed Bd.named
  have hnm := (name_of_methodNamed Bd.named Bd.method).1
  have X0 : Stand p l e ({ frames := 1, cells := 1, slots := 8, locals := 40 } : Room) s m #[(.ref ar), (.int (8 : Int32))] below meth c s₁ [] 0 0 := Stand.of_body Bd
  have e0 : s₁.heap = h0 := by rw [← hh, Bd.state]; rfl
  have N0 := Fr.nil n0
  change own_Go p e below (Qc4_8 Z ar kc el0 el1 el2 el3 h0 n0) (own_Fr s ({ frames := 1, cells := 1, slots := 8, locals := 40 } : Room).cells ({ frames := 1, cells := 1, slots := 8, locals := 40 } : Room).slots) (s₁.setTop (entryFrame m #[(.ref ar), (.int (8 : Int32))] 3))
  rw [ef_c4_8 m ar]
  have rel0 := rng32 el0
  have rel1 := rng32 el1
  have rel2 := rng32 el2
  have rel3 := rng32 el3
  have K0 : Keep h0 h0 [] := Keep.refl h0 []
  refine own_iloadN (pc' := 1) X0 hx rfl (hb hby dc4_8_0) rfl ?_
  refine own_aloadN (pc' := 2) X0 hx rfl rfl (hb hby dc4_8_1) rfl ?_
  obtain ⟨c1, B1, q1, s1, u1, H1, G1⟩ := id A_ar
  refine own_by (X0.arraylength hx (by rw [e0]; exact B1.1) (State.isArrayOf_alike hZ.alike B1.2.1) (g := (mkF m 2 #[.val (.ref ar), .val (.int (8 : Int32)), .unset] [(.ref ar), (.int (8 : Int32))])) rfl rfl (hb hby dc4_8_2)) ?_
  rw [len_of s1 u1]
  show own_Go p e below (Qc4_8 Z ar kc el0 el1 el2 el3 h0 n0) (own_Fr s ({ frames := 1, cells := 1, slots := 8, locals := 40 } : Room).cells ({ frames := 1, cells := 1, slots := 8, locals := 40 } : Room).slots) (s₁.setTop (mkF m 3 #[.val (.ref ar), .val (.int (8 : Int32)), .unset] [(.int (4 : Int32)), (.int (8 : Int32))]))
  refine own_icmpYes (pc' := 14) X0 hx (hb hby dc4_8_3) (by decide) (by decide) (by decide) ?_
  refine own_iloadN (pc' := 15) X0 hx rfl (hb hby dc4_8_14) rfl ?_
  obtain ⟨T2, h2, cA2, X2, e2, E2, Ar2, Ex2, st2⟩ := newPE X0 hx hZ (hw _ (List.mem_of_getElem? (i := 1) rfl)) e0 (g := (mkF m 15 #[.val (.ref ar), .val (.int (8 : Int32)), .unset] [(.int (8 : Int32))])) rfl (hb hby dc4_8_15) (n := (8 : Int32)) rfl (by decide) (cap := 8) (by decide) (by decide) (by decide) (by decide) (ad := "[I") (by decide)
  obtain ⟨a2, ga2⟩ : ∃ z, z = h0.size := ⟨_, rfl⟩
  rw [← ga2] at Ar2 Ex2 st2
  have y2 : h0.size ≤ h0.size := K0.1
  have n3 : ar ≠ a2 := Nat.ne_of_lt (ga2.symm ▸ E_ar.lt)
  have E4 : Exa Z h2 ar "[I" := E_ar.ext E2
  have A5 : Arv Z h2 ar kc .int (4 : Int32) [(.int el0), (.int el1), (.int el2), (.int el3)] (.int (0 : Int32)) := A_ar.ext E2
  have fr2 : n0 ≤ a2 := Nat.le_trans Z0 (Nat.le_of_eq ga2.symm)
  have Z6 : n0 ≤ h2.size := Nat.le_trans Z0 E2.1
  have K7 : Keep h0 h2 [] := K0.ext E2
  have A2 : Arv Z h2 a2 cA2 .int (8 : Int32) [(.int (0 : Int32)), (.int (0 : Int32)), (.int (0 : Int32)), (.int (0 : Int32)), (.int (0 : Int32)), (.int (0 : Int32)), (.int (0 : Int32)), (.int (0 : Int32))] (.int (0 : Int32)) := (Arv.new Ar2 (by decide)).pad (fun i => pad_rep [] (.int (0 : Int32)) 8 i)
  refine own_by st2 ?_
  show own_Go p e below (Qc4_8 Z ar kc el0 el1 el2 el3 h0 n0) (own_Fr s ({ frames := 1, cells := 1, slots := 8, locals := 40 } : Room).cells ({ frames := 1, cells := 1, slots := 8, locals := 40 } : Room).slots) (T2.setTop (mkF m 17 #[.val (.ref ar), .val (.int (8 : Int32)), .unset] [(.ref a2)]))
  refine own_astoreN (pc' := 18) X2 hx #[.val (.ref ar), .val (.int (8 : Int32)), .val (.ref a2)] rfl rfl (hb hby dc4_8_17) rfl ?_
  refine own_aloadN (pc' := 19) X2 hx rfl rfl (hb hby dc4_8_18) rfl ?_
  refine own_iconst (pc' := 20) X2 hx (0 : Int32) (by decide) (hb hby dc4_8_19) rfl ?_
  refine own_aloadN (pc' := 21) X2 hx rfl rfl (hb hby dc4_8_20) rfl ?_
  refine own_iconst (pc' := 22) X2 hx (0 : Int32) (by decide) (hb hby dc4_8_21) rfl ?_
  refine own_aloadN (pc' := 23) X2 hx rfl rfl (hb hby dc4_8_22) rfl ?_
  obtain ⟨c8, B8, q8, s8, u8, H8, G8⟩ := id A5
  refine own_by (X2.arraylength hx (by rw [e2]; exact B8.1) (State.isArrayOf_alike hZ.alike B8.2.1) (g := (mkF m 23 #[.val (.ref ar), .val (.int (8 : Int32)), .val (.ref a2)] [(.ref ar), (.int (0 : Int32)), (.ref a2), (.int (0 : Int32)), (.ref ar)])) rfl rfl (hb hby dc4_8_23)) ?_
  rw [len_of s8 u8]
  show own_Go p e below (Qc4_8 Z ar kc el0 el1 el2 el3 h0 n0) (own_Fr s ({ frames := 1, cells := 1, slots := 8, locals := 40 } : Room).cells ({ frames := 1, cells := 1, slots := 8, locals := 40 } : Room).slots) (T2.setTop (mkF m 24 #[.val (.ref ar), .val (.int (8 : Int32)), .val (.ref a2)] [(.int (4 : Int32)), (.int (0 : Int32)), (.ref a2), (.int (0 : Int32)), (.ref ar)]))
  refine own_iloadN (pc' := 25) X2 hx rfl (hb hby dc4_8_24) rfl ?_
  obtain ⟨_, _, ⟨T9, L9, k9, n9⟩, -, X9, ⟨Lc9, hQ9, l9, y9, z9⟩, st9⟩ := Jvm.LawKit.callS X2 hx (y := (⟨"java/lang/Math", "min", "(II)I"⟩ : MethodName)) hown (mvT hZ (hw _ (List.mem_of_getElem? (i := 37) rfl))) (mvT hZ (hw _ (List.mem_of_getElem? (i := 38) rfl))) (mvT hZ (hw _ (List.mem_of_getElem? (i := 39) rfl))) (mvT hZ (hw _ (List.mem_of_getElem? (i := 40) rfl))) (by decide) (backOf (W := 4) (rmm4_8 l Z a0 hw []  h2 n0 Z6 ) hZ (hw _ (List.mem_of_getElem? (i := 40) rfl)) (hw _ (List.mem_of_getElem? (i := 39) rfl)) (by decide) (by decide)) (g := (mkF m 25 #[.val (.ref ar), .val (.int (8 : Int32)), .val (.ref a2)] [(.int (8 : Int32)), (.int (4 : Int32)), (.int (0 : Int32)), (.ref a2), (.int (0 : Int32)), (.ref ar)])) rfl (by rw [hml]; rfl) (argsL := [(.int (4 : Int32)), (.int (8 : Int32))]) (rest := [(.int (0 : Int32)), (.ref a2), (.int (0 : Int32)), (.ref ar)]) (lenOf pd_0 rfl) rfl (by show 2 * 0 + _ ≤ _; exact Nat.le_of_eq rfl) (hb hby dc4_8_25) (fun _ _ => ⟨rfl, e2, (by decide : 1 + 0 ≤ _), (by decide : 8 + 0 ≤ _)⟩)
  dsimp only [Pt.U, Pt.locs, Pt.cells, Pt.slots] at X9 l9 y9 z9 st9 hQ9
  subst l9 y9 z9
  obtain ⟨rfl, pp9, N9, e9⟩ := hQ9
  have N9a := Fr.app N0 N9
  refine own_by st9 ?_
  show own_Go p e below (Qc4_8 Z ar kc el0 el1 el2 el3 h0 n0) (own_Fr s ({ frames := 1, cells := 1, slots := 8, locals := 40 } : Room).cells ({ frames := 1, cells := 1, slots := 8, locals := 40 } : Room).slots) (T9.setTop (mkF m 28 #[.val (.ref ar), .val (.int (8 : Int32)), .val (.ref a2)] [(.int (4 : Int32)), (.int (0 : Int32)), (.ref a2), (.int (0 : Int32)), (.ref ar)]))
  obtain ⟨T10, h10, L10, X10, e10, N10, Kc10, A10, st10⟩ := cpA X9 hx hZ hown (hw _ (List.mem_of_getElem? (i := 41) rfl)) (hw _ (List.mem_of_getElem? (i := 44) rfl)) (hw _ (List.mem_of_getElem? (i := 42) rfl)) (hw _ (List.mem_of_getElem? (i := 43) rfl)) e9 A5 A2 (us := [(.int el0), (.int el1), (.int el2), (.int el3)]) (Or.inl ⟨rfl, rfl⟩) (sp := (0 : Int32)) (dp := (0 : Int32)) (nn := (4 : Int32)) (by decide) (by decide) (by decide) (by decide) (by decide) rfl (by decide) N9a fr2 (g := (mkF m 28 #[.val (.ref ar), .val (.int (8 : Int32)), .val (.ref a2)] [(.int (4 : Int32)), (.int (0 : Int32)), (.ref a2), (.int (0 : Int32)), (.ref ar)])) rfl (by rw [hml]; rfl) rfl (hb hby dc4_8_28) (by decide) (W := 0) (by show 2 * 0 + _ ≤ _; exact Nat.le_of_eq rfl) (by decide)
  replace A10 : Arv Z h10 a2 cA2 .int (8 : Int32) [(.int el0), (.int el1), (.int el2), (.int el3), (.int (0 : Int32)), (.int (0 : Int32)), (.int (0 : Int32)), (.int (0 : Int32))] (.int (0 : Int32)) := A10
  have E11 : Exa Z h10 ar "[I" := E4.keep Kc10
  have E12 : Exa Z h10 a2 "[I" := Ex2.keep Kc10
  have A13 : Arv Z h10 ar kc .int (4 : Int32) [(.int el0), (.int el1), (.int el2), (.int el3)] (.int (0 : Int32)) := A5.keep Kc10 (ninS n3 nin0)
  have Z14 : n0 ≤ h10.size := Nat.le_trans Z6 Kc10.1
  have K15 : Keep h0 h10 [] := K7.trans Kc10 (allS (Or.inr (Nat.le_trans y2 (Nat.le_of_eq ga2.symm))) all0)
  refine own_by st10 ?_
  show own_Go p e below (Qc4_8 Z ar kc el0 el1 el2 el3 h0 n0) (own_Fr s ({ frames := 1, cells := 1, slots := 8, locals := 40 } : Room).cells ({ frames := 1, cells := 1, slots := 8, locals := 40 } : Room).slots) (T10.setTop (mkF m 31 #[.val (.ref ar), .val (.int (8 : Int32)), .val (.ref a2)] []))
  refine own_aloadN (pc' := 32) X10 hx rfl rfl (hb hby dc4_8_31) rfl ?_
  refine own_ret X10 hx Bd.returns Bd.notSynchronized (Or.inr (Or.inr (Or.inr (Or.inr ⟨rfl, rfl, rfl⟩)))) (hb hby dc4_8_32) rfl (by decide) (by decide) ?_
  show Qc4_8 Z ar kc el0 el1 el2 el3 h0 n0 _ T10.heap _
  rw [e10]
  exact ⟨a2, cA2, rfl, trivial, N10, K15, Nat.le_trans y2 (Nat.le_of_eq ga2.symm), E12, A10⟩
theorem pd_2 : parseMethodDescriptor "()V" = some ⟨[], none⟩ := by decide +kernel
theorem di_0 : decode prog_21_method_1_code 0 = .ok (.aload_n 0, 1) := by decide +kernel
theorem di_1 : decode prog_21_method_1_code 1 = .ok (.invokespecial 1, 3) := by decide +kernel
theorem di_4 : decode prog_21_method_1_code 4 = .ok (.aload_n 0, 1) := by decide +kernel
theorem di_5 : decode prog_21_method_1_code 5 = .ok (.iconst 4, 1) := by decide +kernel
theorem di_6 : decode prog_21_method_1_code 6 = .ok (.newarray .int, 2) := by decide +kernel
theorem di_8 : decode prog_21_method_1_code 8 = .ok (.putfield 7, 3) := by decide +kernel
theorem di_11 : decode prog_21_method_1_code 11 = .ok (.return_, 1) := by decide +kernel
theorem pn_1 : plainName "com/example/libpundit/libpundit/core/IntList" = true := by first | (simp [plainName, overriddenIn]; done) | decide +kernel
theorem ef_i (m : MethodId) (x0 : Addr) : entryFrame m #[(.ref x0)] 1 = mkF m 0 #[.val (.ref x0)] [] := by first | (simp [entryFrame, mkF, argsToLocals, Value.category, maxLocals]; done) | rfl
def Qi (Z : State) (a1 : Addr) (h0 : Heap) (n0 : Nat) (v : Option Value) (h : Heap) (L : List Loc) : Prop := ∃ ar : Addr, ∃ kc : ClassId, v = none ∧ (True) ∧ Fr n0 L ∧ Keep h0 h [a1] ∧ h0.size ≤ ar ∧ Exa Z h a1 "com/example/libpundit/libpundit/core/IntList" ∧ Exa Z h ar "[I" ∧ Fld Z h a1 "com/example/libpundit/libpundit/core/IntList" "values" "[I" (.ref ar) ∧ Fld Z h a1 "com/example/libpundit/libpundit/core/IntList" "size" "I" (.int (0 : Int32)) ∧ Arv Z h ar kc .int (4 : Int32) [(.int (0 : Int32)), (.int (0 : Int32)), (.int (0 : Int32)), (.int (0 : Int32))] (.int (0 : Int32))
set_option maxRecDepth 65536 in
set_option maxHeartbeats 40000000 in
theorem rmi (l : Launch) (Z : State) (a0 : Array Value) (hw : ∀ d ∈ tables_1, d.before a0 Z = true) (ws : List Jvm.Cond) (a1 : Addr) (h0 : Heap) (n0 : Nat) (Z0 : n0 ≤ h0.size) (E_a1 : Exa Z h0 a1 "com/example/libpundit/libpundit/core/IntList") (F_values_a1 : Fld Z h0 a1 "com/example/libpundit/libpundit/core/IntList" "values" "[I" .null) (F_size_a1 : Fld Z h0 a1 "com/example/libpundit/libpundit/core/IntList" "size" "I" (.int (0 : Int32))) (g_a1 : n0 ≤ a1) :
    MetFree l (⟨"com/example/libpundit/libpundit/core/IntList", "<init>", "()V"⟩ : MethodName) (head1 (Jvm.Cond.code (⟨"com/example/libpundit/libpundit/core/IntList", "<init>", "()V"⟩ : MethodName) prog_21_method_1_code 1 none :: ws) ({ frames := 1, cells := 1, slots := 4, locals := 12 } : Room)) (fun a U => a = #[(.ref a1)] ∧ Z.Warmed39 U.vm ∧ U.heap = h0) (fun _ _ _ _ _ => True) (fun _ U o U' => ∃ v L, o = .returned v ∧ Qi Z a1 h0 n0 v U'.heap L ∧ FrameEnd U o U' L ({ frames := 1, cells := 1, slots := 4, locals := 12 } : Room).cells ({ frames := 1, cells := 1, slots := 4, locals := 12 } : Room).slots) := by
  refine MetFree.of_bodySF (plainFor_of_name pn_1) hisR ?_
  intro p e s m args below meth c s₁ Bd hml0 hP hK
  obtain ⟨rfl, hZ, hh⟩ := hP
  have hx := Bd.exec
  have hby := Bd.bytes
  have hml : c.maxLocals = 1 := hml0
  have hown : s.vm.findClass "com/example/libpundit/libpundit/core/IntList" = some m.cls := findClass_of_methodNamed Bd.named
  have hnm := (name_of_methodNamed Bd.named Bd.method).1
  have X0 : Stand p l e ({ frames := 1, cells := 1, slots := 4, locals := 12 } : Room) s m #[(.ref a1)] below meth c s₁ [] 0 0 := Stand.of_body Bd
  have e0 : s₁.heap = h0 := by rw [← hh, Bd.state]; rfl
  have N0 := Fr.nil n0
  change own_Go p e below (Qi Z a1 h0 n0) (own_Fr s ({ frames := 1, cells := 1, slots := 4, locals := 12 } : Room).cells ({ frames := 1, cells := 1, slots := 4, locals := 12 } : Room).slots) (s₁.setTop (entryFrame m #[(.ref a1)] 1))
  rw [ef_i m a1]
  have K0 : Keep h0 h0 [a1] := Keep.refl h0 [a1]
  refine own_aloadN (pc' := 1) X0 hx rfl rfl (hb hby di_0) rfl ?_
  obtain ⟨T1, X1, e1, st1⟩ := initO X0 hx hZ hown (hw _ (List.mem_of_getElem? (i := 8) rfl)) (hw _ (List.mem_of_getElem? (i := 9) rfl)) (hw _ (List.mem_of_getElem? (i := 10) rfl)) e0 (g := (mkF m 1 #[.val (.ref a1)] [(.ref a1)])) rfl (by rw [hml]; rfl) rfl (hb hby di_1) (by decide) (W := 0) (by show 2 * 0 + _ ≤ _; exact Nat.le_of_eq rfl) (by decide)
  refine own_by st1 ?_
  show own_Go p e below (Qi Z a1 h0 n0) (own_Fr s ({ frames := 1, cells := 1, slots := 4, locals := 12 } : Room).cells ({ frames := 1, cells := 1, slots := 4, locals := 12 } : Room).slots) (T1.setTop (mkF m 4 #[.val (.ref a1)] []))
  refine own_aloadN (pc' := 5) X1 hx rfl rfl (hb hby di_4) rfl ?_
  refine own_iconst (pc' := 6) X1 hx (4 : Int32) (by decide) (hb hby di_5) rfl ?_
  obtain ⟨T2, h2, cA2, X2, e2, E2, Ar2, Ex2, st2⟩ := newPE X1 hx hZ (hw _ (List.mem_of_getElem? (i := 1) rfl)) e1 (g := (mkF m 6 #[.val (.ref a1)] [(.int (4 : Int32)), (.ref a1)])) rfl (hb hby di_6) (n := (4 : Int32)) rfl (by decide) (cap := 4) (by decide) (by decide) (by decide) (by decide) (ad := "[I") (by decide)
  obtain ⟨a2, ga2⟩ : ∃ z, z = h0.size := ⟨_, rfl⟩
  rw [← ga2] at Ar2 Ex2 st2
  have y2 : h0.size ≤ h0.size := K0.1
  have n3 : a1 ≠ a2 := Nat.ne_of_lt (ga2.symm ▸ E_a1.lt)
  have F4 : Fld Z h2 a1 "com/example/libpundit/libpundit/core/IntList" "values" "[I" .null := F_values_a1.ext E2
  have F5 : Fld Z h2 a1 "com/example/libpundit/libpundit/core/IntList" "size" "I" (.int (0 : Int32)) := F_size_a1.ext E2
  have E6 : Exa Z h2 a1 "com/example/libpundit/libpundit/core/IntList" := E_a1.ext E2
  have fr2 : n0 ≤ a2 := Nat.le_trans Z0 (Nat.le_of_eq ga2.symm)
  have Z7 : n0 ≤ h2.size := Nat.le_trans Z0 E2.1
  have K8 : Keep h0 h2 [a1] := K0.ext E2
  have A2 : Arv Z h2 a2 cA2 .int (4 : Int32) [(.int (0 : Int32)), (.int (0 : Int32)), (.int (0 : Int32)), (.int (0 : Int32))] (.int (0 : Int32)) := (Arv.new Ar2 (by decide)).pad (fun i => pad_rep [] (.int (0 : Int32)) 4 i)
  refine own_by st2 ?_
  show own_Go p e below (Qi Z a1 h0 n0) (own_Fr s ({ frames := 1, cells := 1, slots := 4, locals := 12 } : Room).cells ({ frames := 1, cells := 1, slots := 4, locals := 12 } : Room).slots) (T2.setTop (mkF m 8 #[.val (.ref a1)] [(.ref a2), (.ref a1)]))
  obtain ⟨T9, h9, X9, e9, W9, st9⟩ := putF X2 hx hZ hown (host := "") (Or.inl (hw _ (List.mem_of_getElem? (i := 11) rfl))) Via.refl e2 F4 E6 (Or.inl (hw _ (List.mem_of_getElem? (i := 12) rfl))) (hw _ (List.mem_of_getElem? (i := 3) rfl)) (ty := (.array .int)) (by decide) rfl rfl (g := (mkF m 8 #[.val (.ref a1)] [(.ref a2), (.ref a1)])) rfl rfl (hb hby di_8)
  have Fw9 : Fld Z h9 a1 "com/example/libpundit/libpundit/core/IntList" "values" "[I" (.ref a2) := F4.same W9
  have F10 : Fld Z h9 a1 "com/example/libpundit/libpundit/core/IntList" "size" "I" (.int (0 : Int32)) := F5.other W9 (Or.inr (slot_ne (Or.inl (hw _ (List.mem_of_getElem? (i := 19) rfl))) (Or.inl (hw _ (List.mem_of_getElem? (i := 12) rfl))) (by decide) (t := .int) (by decide) (t' := (.array .int)) (by decide)))
  have E11 : Exa Z h9 a1 "com/example/libpundit/libpundit/core/IntList" := E6.wr W9
  have E12 : Exa Z h9 a2 "[I" := Ex2.wr W9
  have A13 : Arv Z h9 a2 cA2 .int (4 : Int32) [(.int (0 : Int32)), (.int (0 : Int32)), (.int (0 : Int32)), (.int (0 : Int32))] (.int (0 : Int32)) := A2.other W9 (Ne.symm n3)
  have Z14 : n0 ≤ h9.size := Nat.le_trans Z7 (Nat.le_of_eq W9.size.symm)
  have N15 := Fr.snoc X9 N0 g_a1
  have K16 : Keep h0 h9 [a1] := K8.wr W9 (Or.inl (List.mem_of_getElem? (i := 0) rfl))
  refine own_by st9 ?_
  show own_Go p e below (Qi Z a1 h0 n0) (own_Fr s ({ frames := 1, cells := 1, slots := 4, locals := 12 } : Room).cells ({ frames := 1, cells := 1, slots := 4, locals := 12 } : Room).slots) (T9.setTop (mkF m 11 #[.val (.ref a1)] []))
  refine own_ret0 X9 hx Bd.returns Bd.notSynchronized (hb hby di_11) rfl (by decide) (by decide) ?_
  show Qi Z a1 h0 n0 _ T9.heap _
  rw [e9]
  exact ⟨a2, cA2, rfl, trivial, N15, K16, Nat.le_trans y2 (Nat.le_of_eq ga2.symm), E11, E12, Fw9, F10, A13⟩
theorem pd_3 : parseMethodDescriptor "(I)V" = some ⟨[.int], none⟩ := by decide +kernel
theorem da0_0 : decode prog_21_method_2_code 0 = .ok (.aload_n 0, 1) := by decide +kernel
theorem da0_1 : decode prog_21_method_2_code 1 = .ok (.getfield 13, 3) := by decide +kernel
theorem da0_4 : decode prog_21_method_2_code 4 = .ok (.aload_n 0, 1) := by decide +kernel
theorem da0_5 : decode prog_21_method_2_code 5 = .ok (.getfield 7, 3) := by decide +kernel
theorem da0_8 : decode prog_21_method_2_code 8 = .ok (.arraylength, 1) := by decide +kernel
theorem da0_9 : decode prog_21_method_2_code 9 = .ok (.if_icmp .ne 20, 3) := by decide +kernel
theorem da0_12 : decode prog_21_method_2_code 12 = .ok (.aload_n 0, 1) := by decide +kernel
theorem da0_13 : decode prog_21_method_2_code 13 = .ok (.aload_n 0, 1) := by decide +kernel
theorem da0_14 : decode prog_21_method_2_code 14 = .ok (.getfield 7, 3) := by decide +kernel
theorem da0_17 : decode prog_21_method_2_code 17 = .ok (.iconst 2, 1) := by decide +kernel
theorem da0_18 : decode prog_21_method_2_code 18 = .ok (.aload_n 0, 1) := by decide +kernel
theorem da0_19 : decode prog_21_method_2_code 19 = .ok (.getfield 13, 3) := by decide +kernel
theorem da0_22 : decode prog_21_method_2_code 22 = .ok (.imul, 1) := by decide +kernel
theorem da0_23 : decode prog_21_method_2_code 23 = .ok (.invokestatic 17, 3) := by decide +kernel
theorem da0_26 : decode prog_21_method_2_code 26 = .ok (.putfield 7, 3) := by decide +kernel
theorem da0_29 : decode prog_21_method_2_code 29 = .ok (.aload_n 0, 1) := by decide +kernel
theorem da0_30 : decode prog_21_method_2_code 30 = .ok (.getfield 7, 3) := by decide +kernel
theorem da0_33 : decode prog_21_method_2_code 33 = .ok (.aload_n 0, 1) := by decide +kernel
theorem da0_34 : decode prog_21_method_2_code 34 = .ok (.dup, 1) := by decide +kernel
theorem da0_35 : decode prog_21_method_2_code 35 = .ok (.getfield 13, 3) := by decide +kernel
theorem da0_38 : decode prog_21_method_2_code 38 = .ok (.dup_x1, 1) := by decide +kernel
theorem da0_39 : decode prog_21_method_2_code 39 = .ok (.iconst 1, 1) := by decide +kernel
theorem da0_40 : decode prog_21_method_2_code 40 = .ok (.iadd, 1) := by decide +kernel
theorem da0_41 : decode prog_21_method_2_code 41 = .ok (.putfield 13, 3) := by decide +kernel
theorem da0_44 : decode prog_21_method_2_code 44 = .ok (.iload_n 1, 1) := by decide +kernel
theorem da0_45 : decode prog_21_method_2_code 45 = .ok (.iastore, 1) := by decide +kernel
theorem da0_46 : decode prog_21_method_2_code 46 = .ok (.return_, 1) := by decide +kernel
theorem ef_a0 (m : MethodId) (x0 : Addr) (x1 : Int32) : entryFrame m #[(.ref x0), (.int x1)] 2 = mkF m 0 #[.val (.ref x0), .val (.int x1)] [] := by first | (simp [entryFrame, mkF, argsToLocals, Value.category, maxLocals]; done) | rfl
def Qa0 (Z : State) (a1 : Addr) (u : Int32) (ar : Addr) (kc : ClassId) (h0 : Heap) (n0 : Nat) (v : Option Value) (h : Heap) (L : List Loc) : Prop := v = none ∧ (True) ∧ Fr n0 L ∧ Keep h0 h [a1, ar] ∧ Exa Z h a1 "com/example/libpundit/libpundit/core/IntList" ∧ Exa Z h ar "[I" ∧ Fld Z h a1 "com/example/libpundit/libpundit/core/IntList" "values" "[I" (.ref ar) ∧ Fld Z h a1 "com/example/libpundit/libpundit/core/IntList" "size" "I" (.int (1 : Int32)) ∧ Arv Z h ar kc .int (4 : Int32) [(.int u), (.int (0 : Int32)), (.int (0 : Int32)), (.int (0 : Int32))] (.int (0 : Int32))
set_option maxRecDepth 65536 in
set_option maxHeartbeats 40000000 in
theorem rma0 (l : Launch) (Z : State) (a0 : Array Value) (hw : ∀ d ∈ tables_1, d.before a0 Z = true) (ws : List Jvm.Cond) (a1 : Addr) (u : Int32) (ar : Addr) (kc : ClassId) (h0 : Heap) (n0 : Nat) (Z0 : n0 ≤ h0.size) (E_a1 : Exa Z h0 a1 "com/example/libpundit/libpundit/core/IntList") (E_ar : Exa Z h0 ar "[I") (F_values_a1 : Fld Z h0 a1 "com/example/libpundit/libpundit/core/IntList" "values" "[I" (.ref ar)) (F_size_a1 : Fld Z h0 a1 "com/example/libpundit/libpundit/core/IntList" "size" "I" (.int (0 : Int32))) (A_ar : Arv Z h0 ar kc .int (4 : Int32) [(.int (0 : Int32)), (.int (0 : Int32)), (.int (0 : Int32)), (.int (0 : Int32))] (.int (0 : Int32))) (g_a1 : n0 ≤ a1) (g_ar : n0 ≤ ar) (ne_a1_ar : a1 ≠ ar) :
    MetFree l (⟨"com/example/libpundit/libpundit/core/IntList", "add", "(I)V"⟩ : MethodName) (head1 (Jvm.Cond.code (⟨"com/example/libpundit/libpundit/core/IntList", "add", "(I)V"⟩ : MethodName) prog_21_method_2_code 2 none :: ws) ({ frames := 0, cells := 0, slots := 0, locals := 0 } : Room)) (fun a U => a = #[(.ref a1), (.int u)] ∧ Z.Warmed39 U.vm ∧ U.heap = h0) (fun _ _ _ _ _ => True) (fun _ U o U' => ∃ v L, o = .returned v ∧ Qa0 Z a1 u ar kc h0 n0 v U'.heap L ∧ FrameEnd U o U' L ({ frames := 0, cells := 0, slots := 0, locals := 0 } : Room).cells ({ frames := 0, cells := 0, slots := 0, locals := 0 } : Room).slots) := by
  refine MetFree.of_bodySF (plainFor_of_name pn_1) hisR ?_
  intro p e s m args below meth c s₁ Bd hml0 hP hK
  obtain ⟨rfl, hZ, hh⟩ := hP
  have hx := Bd.exec
  have hby := Bd.bytes
  have hml : c.maxLocals = 2 := hml0
  have hown : s.vm.findClass "com/example/libpundit/libpundit/core/IntList" = some m.cls := findClass_of_methodNamed Bd.named
  have hnm := (name_of_methodNamed Bd.named Bd.method).1
  have X0 : Stand p l e ({ frames := 0, cells := 0, slots := 0, locals := 0 } : Room) s m #[(.ref a1), (.int u)] below meth c s₁ [] 0 0 := Stand.of_body Bd
  have e0 : s₁.heap = h0 := by rw [← hh, Bd.state]; rfl
  have N0 := Fr.nil n0
  change own_Go p e below (Qa0 Z a1 u ar kc h0 n0) (own_Fr s ({ frames := 0, cells := 0, slots := 0, locals := 0 } : Room).cells ({ frames := 0, cells := 0, slots := 0, locals := 0 } : Room).slots) (s₁.setTop (entryFrame m #[(.ref a1), (.int u)] 2))
  rw [ef_a0 m a1 u]
  have ru := rng32 u
  have K0 : Keep h0 h0 [a1, ar] := Keep.refl h0 [a1, ar]
  refine own_aloadN (pc' := 1) X0 hx rfl rfl (hb hby da0_0) rfl ?_
  obtain ⟨T1, X1, e1, st1⟩ := getF X0 hx hZ hown (host := "") (Or.inl (hw _ (List.mem_of_getElem? (i := 18) rfl))) Via.refl e0 F_size_a1 (g := (mkF m 1 #[.val (.ref a1), .val (.int u)] [(.ref a1)])) rfl rfl (hb hby da0_1)
  refine own_by st1 ?_
  show own_Go p e below (Qa0 Z a1 u ar kc h0 n0) (own_Fr s ({ frames := 0, cells := 0, slots := 0, locals := 0 } : Room).cells ({ frames := 0, cells := 0, slots := 0, locals := 0 } : Room).slots) (T1.setTop (mkF m 4 #[.val (.ref a1), .val (.int u)] [(.int (0 : Int32))]))
  refine own_aloadN (pc' := 5) X1 hx rfl rfl (hb hby da0_4) rfl ?_
  obtain ⟨T2, X2, e2, st2⟩ := getF X1 hx hZ hown (host := "") (Or.inl (hw _ (List.mem_of_getElem? (i := 11) rfl))) Via.refl e1 F_values_a1 (g := (mkF m 5 #[.val (.ref a1), .val (.int u)] [(.ref a1), (.int (0 : Int32))])) rfl rfl (hb hby da0_5)
  refine own_by st2 ?_
  show own_Go p e below (Qa0 Z a1 u ar kc h0 n0) (own_Fr s ({ frames := 0, cells := 0, slots := 0, locals := 0 } : Room).cells ({ frames := 0, cells := 0, slots := 0, locals := 0 } : Room).slots) (T2.setTop (mkF m 8 #[.val (.ref a1), .val (.int u)] [(.ref ar), (.int (0 : Int32))]))
  obtain ⟨c3, B3, q3, s3, u3, H3, G3⟩ := id A_ar
  refine own_by (X2.arraylength hx (by rw [e2]; exact B3.1) (State.isArrayOf_alike hZ.alike B3.2.1) (g := (mkF m 8 #[.val (.ref a1), .val (.int u)] [(.ref ar), (.int (0 : Int32))])) rfl rfl (hb hby da0_8)) ?_
  rw [len_of s3 u3]
  show own_Go p e below (Qa0 Z a1 u ar kc h0 n0) (own_Fr s ({ frames := 0, cells := 0, slots := 0, locals := 0 } : Room).cells ({ frames := 0, cells := 0, slots := 0, locals := 0 } : Room).slots) (T2.setTop (mkF m 9 #[.val (.ref a1), .val (.int u)] [(.int (4 : Int32)), (.int (0 : Int32))]))
  refine own_icmpYes (pc' := 29) X2 hx (hb hby da0_9) (by decide) (by decide) (by decide) ?_
  refine own_aloadN (pc' := 30) X2 hx rfl rfl (hb hby da0_29) rfl ?_
  obtain ⟨T4, X4, e4, st4⟩ := getF X2 hx hZ hown (host := "") (Or.inl (hw _ (List.mem_of_getElem? (i := 11) rfl))) Via.refl e2 F_values_a1 (g := (mkF m 30 #[.val (.ref a1), .val (.int u)] [(.ref a1)])) rfl rfl (hb hby da0_30)
  refine own_by st4 ?_
  show own_Go p e below (Qa0 Z a1 u ar kc h0 n0) (own_Fr s ({ frames := 0, cells := 0, slots := 0, locals := 0 } : Room).cells ({ frames := 0, cells := 0, slots := 0, locals := 0 } : Room).slots) (T4.setTop (mkF m 33 #[.val (.ref a1), .val (.int u)] [(.ref ar)]))
  refine own_aloadN (pc' := 34) X4 hx rfl rfl (hb hby da0_33) rfl ?_
  refine own_dup (pc' := 35) X4 hx rfl (hb hby da0_34) rfl ?_
  obtain ⟨T5, X5, e5, st5⟩ := getF X4 hx hZ hown (host := "") (Or.inl (hw _ (List.mem_of_getElem? (i := 18) rfl))) Via.refl e4 F_size_a1 (g := (mkF m 35 #[.val (.ref a1), .val (.int u)] [(.ref a1), (.ref a1), (.ref ar)])) rfl rfl (hb hby da0_35)
  refine own_by st5 ?_
  show own_Go p e below (Qa0 Z a1 u ar kc h0 n0) (own_Fr s ({ frames := 0, cells := 0, slots := 0, locals := 0 } : Room).cells ({ frames := 0, cells := 0, slots := 0, locals := 0 } : Room).slots) (T5.setTop (mkF m 38 #[.val (.ref a1), .val (.int u)] [(.int (0 : Int32)), (.ref a1), (.ref ar)]))
  refine own_dupX1 (pc' := 39) X5 hx rfl rfl (hb hby da0_38) rfl ?_
  refine own_iconst (pc' := 40) X5 hx (1 : Int32) (by decide) (hb hby da0_39) rfl ?_
  refine own_iadd (pc' := 41) X5 hx (z := (1 : Int32)) (by decide) (hb hby da0_40) rfl ?_
  obtain ⟨T6, h6, X6, e6, W6, st6⟩ := putF X5 hx hZ hown (host := "") (Or.inl (hw _ (List.mem_of_getElem? (i := 18) rfl))) Via.refl e5 F_size_a1 E_a1 (Or.inl (hw _ (List.mem_of_getElem? (i := 19) rfl))) (hw _ (List.mem_of_getElem? (i := 3) rfl)) (ty := .int) (by decide) rfl rfl (g := (mkF m 41 #[.val (.ref a1), .val (.int u)] [(.int (1 : Int32)), (.ref a1), (.int (0 : Int32)), (.ref ar)])) rfl rfl (hb hby da0_41)
  have Fw6 : Fld Z h6 a1 "com/example/libpundit/libpundit/core/IntList" "size" "I" (.int (1 : Int32)) := F_size_a1.same W6
  have F7 : Fld Z h6 a1 "com/example/libpundit/libpundit/core/IntList" "values" "[I" (.ref ar) := F_values_a1.other W6 (Or.inr (slot_ne (Or.inl (hw _ (List.mem_of_getElem? (i := 12) rfl))) (Or.inl (hw _ (List.mem_of_getElem? (i := 19) rfl))) (by decide) (t := (.array .int)) (by decide) (t' := .int) (by decide)))
  have E8 : Exa Z h6 a1 "com/example/libpundit/libpundit/core/IntList" := E_a1.wr W6
  have E9 : Exa Z h6 ar "[I" := E_ar.wr W6
  have A10 : Arv Z h6 ar kc .int (4 : Int32) [(.int (0 : Int32)), (.int (0 : Int32)), (.int (0 : Int32)), (.int (0 : Int32))] (.int (0 : Int32)) := A_ar.other W6 (Ne.symm ne_a1_ar)
  have Z11 : n0 ≤ h6.size := Nat.le_trans Z0 (Nat.le_of_eq W6.size.symm)
  have N12 := Fr.snoc X6 N0 g_a1
  have K13 : Keep h0 h6 [a1, ar] := K0.wr W6 (Or.inl (List.mem_of_getElem? (i := 0) rfl))
  refine own_by st6 ?_
  show own_Go p e below (Qa0 Z a1 u ar kc h0 n0) (own_Fr s ({ frames := 0, cells := 0, slots := 0, locals := 0 } : Room).cells ({ frames := 0, cells := 0, slots := 0, locals := 0 } : Room).slots) (T6.setTop (mkF m 44 #[.val (.ref a1), .val (.int u)] [(.int (0 : Int32)), (.ref ar)]))
  refine own_iloadN (pc' := 45) X6 hx rfl (hb hby da0_44) rfl ?_
  obtain ⟨c14, B14, q14, s14, u14, H14, G14⟩ := id A10
  obtain ⟨T14, h14, X14, e14, W14, st14⟩ := stI X6 hx hZ e6 B14 (j := (0 : Int32)) (x := u) (inb_of s14 (by decide)) (g := (mkF m 45 #[.val (.ref a1), .val (.int u)] [(.int u), (.int (0 : Int32)), (.ref ar)])) rfl rfl (hb hby da0_45)
  have A14 : Arv Z h14 ar kc .int (4 : Int32) [(.int u), (.int (0 : Int32)), (.int (0 : Int32)), (.int (0 : Int32))] (.int (0 : Int32)) := Arv.set B14 q14 s14 u14 H14 G14 rfl W14 0 (by decide) (by simp)
  have F15 : Fld Z h14 a1 "com/example/libpundit/libpundit/core/IntList" "values" "[I" (.ref ar) := F7.other W14 (Or.inl ne_a1_ar)
  have F16 : Fld Z h14 a1 "com/example/libpundit/libpundit/core/IntList" "size" "I" (.int (1 : Int32)) := Fw6.other W14 (Or.inl ne_a1_ar)
  have E17 : Exa Z h14 a1 "com/example/libpundit/libpundit/core/IntList" := E8.wr W14
  have E18 : Exa Z h14 ar "[I" := E9.wr W14
  have Z19 : n0 ≤ h14.size := Nat.le_trans Z11 (Nat.le_of_eq W14.size.symm)
  have N20 := Fr.snoc X14 N12 g_ar
  have K21 : Keep h0 h14 [a1, ar] := K13.wr W14 (Or.inl (List.mem_of_getElem? (i := 1) rfl))
  refine own_by st14 ?_
  show own_Go p e below (Qa0 Z a1 u ar kc h0 n0) (own_Fr s ({ frames := 0, cells := 0, slots := 0, locals := 0 } : Room).cells ({ frames := 0, cells := 0, slots := 0, locals := 0 } : Room).slots) (T14.setTop (mkF m 46 #[.val (.ref a1), .val (.int u)] []))
  refine own_ret0 X14 hx Bd.returns Bd.notSynchronized (hb hby da0_46) rfl (by decide) (by decide) ?_
  show Qa0 Z a1 u ar kc h0 n0 _ T14.heap _
  rw [e14]
  exact ⟨rfl, trivial, N20, K21, E17, E18, F15, F16, A14⟩
theorem ef_a1 (m : MethodId) (x0 : Addr) (x1 : Int32) : entryFrame m #[(.ref x0), (.int x1)] 2 = mkF m 0 #[.val (.ref x0), .val (.int x1)] [] := by first | (simp [entryFrame, mkF, argsToLocals, Value.category, maxLocals]; done) | rfl
def Qa1 (Z : State) (a1 : Addr) (u : Int32) (ar : Addr) (kc : ClassId) (el0 : Int32) (h0 : Heap) (n0 : Nat) (v : Option Value) (h : Heap) (L : List Loc) : Prop := v = none ∧ (True) ∧ Fr n0 L ∧ Keep h0 h [a1, ar] ∧ Exa Z h a1 "com/example/libpundit/libpundit/core/IntList" ∧ Exa Z h ar "[I" ∧ Fld Z h a1 "com/example/libpundit/libpundit/core/IntList" "values" "[I" (.ref ar) ∧ Fld Z h a1 "com/example/libpundit/libpundit/core/IntList" "size" "I" (.int (2 : Int32)) ∧ Arv Z h ar kc .int (4 : Int32) [(.int el0), (.int u), (.int (0 : Int32)), (.int (0 : Int32))] (.int (0 : Int32))
set_option maxRecDepth 65536 in
set_option maxHeartbeats 40000000 in
theorem rma1 (l : Launch) (Z : State) (a0 : Array Value) (hw : ∀ d ∈ tables_1, d.before a0 Z = true) (ws : List Jvm.Cond) (a1 : Addr) (u : Int32) (ar : Addr) (kc : ClassId) (el0 : Int32) (h0 : Heap) (n0 : Nat) (Z0 : n0 ≤ h0.size) (E_a1 : Exa Z h0 a1 "com/example/libpundit/libpundit/core/IntList") (E_ar : Exa Z h0 ar "[I") (F_values_a1 : Fld Z h0 a1 "com/example/libpundit/libpundit/core/IntList" "values" "[I" (.ref ar)) (F_size_a1 : Fld Z h0 a1 "com/example/libpundit/libpundit/core/IntList" "size" "I" (.int (1 : Int32))) (A_ar : Arv Z h0 ar kc .int (4 : Int32) [(.int el0), (.int (0 : Int32)), (.int (0 : Int32)), (.int (0 : Int32))] (.int (0 : Int32))) (g_a1 : n0 ≤ a1) (g_ar : n0 ≤ ar) (ne_a1_ar : a1 ≠ ar) :
    MetFree l (⟨"com/example/libpundit/libpundit/core/IntList", "add", "(I)V"⟩ : MethodName) (head1 (Jvm.Cond.code (⟨"com/example/libpundit/libpundit/core/IntList", "add", "(I)V"⟩ : MethodName) prog_21_method_2_code 2 none :: ws) ({ frames := 0, cells := 0, slots := 0, locals := 0 } : Room)) (fun a U => a = #[(.ref a1), (.int u)] ∧ Z.Warmed39 U.vm ∧ U.heap = h0) (fun _ _ _ _ _ => True) (fun _ U o U' => ∃ v L, o = .returned v ∧ Qa1 Z a1 u ar kc el0 h0 n0 v U'.heap L ∧ FrameEnd U o U' L ({ frames := 0, cells := 0, slots := 0, locals := 0 } : Room).cells ({ frames := 0, cells := 0, slots := 0, locals := 0 } : Room).slots) := by
  refine MetFree.of_bodySF (plainFor_of_name pn_1) hisR ?_
  intro p e s m args below meth c s₁ Bd hml0 hP hK
  obtain ⟨rfl, hZ, hh⟩ := hP
  have hx := Bd.exec
  have hby := Bd.bytes
  have hml : c.maxLocals = 2 := hml0
  have hown : s.vm.findClass "com/example/libpundit/libpundit/core/IntList" = some m.cls := findClass_of_methodNamed Bd.named
  have hnm := (name_of_methodNamed Bd.named Bd.method).1
  have X0 : Stand p l e ({ frames := 0, cells := 0, slots := 0, locals := 0 } : Room) s m #[(.ref a1), (.int u)] below meth c s₁ [] 0 0 := Stand.of_body Bd
  have e0 : s₁.heap = h0 := by rw [← hh, Bd.state]; rfl
  have N0 := Fr.nil n0
  change own_Go p e below (Qa1 Z a1 u ar kc el0 h0 n0) (own_Fr s ({ frames := 0, cells := 0, slots := 0, locals := 0 } : Room).cells ({ frames := 0, cells := 0, slots := 0, locals := 0 } : Room).slots) (s₁.setTop (entryFrame m #[(.ref a1), (.int u)] 2))
  rw [ef_a1 m a1 u]
  have ru := rng32 u
  have rel0 := rng32 el0
  have K0 : Keep h0 h0 [a1, ar] := Keep.refl h0 [a1, ar]
  refine own_aloadN (pc' := 1) X0 hx rfl rfl (hb hby da0_0) rfl ?_
  obtain ⟨T1, X1, e1, st1⟩ := getF X0 hx hZ hown (host := "") (Or.inl (hw _ (List.mem_of_getElem? (i := 18) rfl))) Via.refl e0 F_size_a1 (g := (mkF m 1 #[.val (.ref a1), .val (.int u)] [(.ref a1)])) rfl rfl (hb hby da0_1)
  refine own_by st1 ?_
  show own_Go p e below (Qa1 Z a1 u ar kc el0 h0 n0) (own_Fr s ({ frames := 0, cells := 0, slots := 0, locals := 0 } : Room).cells ({ frames := 0, cells := 0, slots := 0, locals := 0 } : Room).slots) (T1.setTop (mkF m 4 #[.val (.ref a1), .val (.int u)] [(.int (1 : Int32))]))
  refine own_aloadN (pc' := 5) X1 hx rfl rfl (hb hby da0_4) rfl ?_
  obtain ⟨T2, X2, e2, st2⟩ := getF X1 hx hZ hown (host := "") (Or.inl (hw _ (List.mem_of_getElem? (i := 11) rfl))) Via.refl e1 F_values_a1 (g := (mkF m 5 #[.val (.ref a1), .val (.int u)] [(.ref a1), (.int (1 : Int32))])) rfl rfl (hb hby da0_5)
  refine own_by st2 ?_
  show own_Go p e below (Qa1 Z a1 u ar kc el0 h0 n0) (own_Fr s ({ frames := 0, cells := 0, slots := 0, locals := 0 } : Room).cells ({ frames := 0, cells := 0, slots := 0, locals := 0 } : Room).slots) (T2.setTop (mkF m 8 #[.val (.ref a1), .val (.int u)] [(.ref ar), (.int (1 : Int32))]))
  obtain ⟨c3, B3, q3, s3, u3, H3, G3⟩ := id A_ar
  refine own_by (X2.arraylength hx (by rw [e2]; exact B3.1) (State.isArrayOf_alike hZ.alike B3.2.1) (g := (mkF m 8 #[.val (.ref a1), .val (.int u)] [(.ref ar), (.int (1 : Int32))])) rfl rfl (hb hby da0_8)) ?_
  rw [len_of s3 u3]
  show own_Go p e below (Qa1 Z a1 u ar kc el0 h0 n0) (own_Fr s ({ frames := 0, cells := 0, slots := 0, locals := 0 } : Room).cells ({ frames := 0, cells := 0, slots := 0, locals := 0 } : Room).slots) (T2.setTop (mkF m 9 #[.val (.ref a1), .val (.int u)] [(.int (4 : Int32)), (.int (1 : Int32))]))
  refine own_icmpYes (pc' := 29) X2 hx (hb hby da0_9) (by decide) (by decide) (by decide) ?_
  refine own_aloadN (pc' := 30) X2 hx rfl rfl (hb hby da0_29) rfl ?_
  obtain ⟨T4, X4, e4, st4⟩ := getF X2 hx hZ hown (host := "") (Or.inl (hw _ (List.mem_of_getElem? (i := 11) rfl))) Via.refl e2 F_values_a1 (g := (mkF m 30 #[.val (.ref a1), .val (.int u)] [(.ref a1)])) rfl rfl (hb hby da0_30)
  refine own_by st4 ?_
  show own_Go p e below (Qa1 Z a1 u ar kc el0 h0 n0) (own_Fr s ({ frames := 0, cells := 0, slots := 0, locals := 0 } : Room).cells ({ frames := 0, cells := 0, slots := 0, locals := 0 } : Room).slots) (T4.setTop (mkF m 33 #[.val (.ref a1), .val (.int u)] [(.ref ar)]))
  refine own_aloadN (pc' := 34) X4 hx rfl rfl (hb hby da0_33) rfl ?_
  refine own_dup (pc' := 35) X4 hx rfl (hb hby da0_34) rfl ?_
  obtain ⟨T5, X5, e5, st5⟩ := getF X4 hx hZ hown (host := "") (Or.inl (hw _ (List.mem_of_getElem? (i := 18) rfl))) Via.refl e4 F_size_a1 (g := (mkF m 35 #[.val (.ref a1), .val (.int u)] [(.ref a1), (.ref a1), (.ref ar)])) rfl rfl (hb hby da0_35)
  refine own_by st5 ?_
  show own_Go p e below (Qa1 Z a1 u ar kc el0 h0 n0) (own_Fr s ({ frames := 0, cells := 0, slots := 0, locals := 0 } : Room).cells ({ frames := 0, cells := 0, slots := 0, locals := 0 } : Room).slots) (T5.setTop (mkF m 38 #[.val (.ref a1), .val (.int u)] [(.int (1 : Int32)), (.ref a1), (.ref ar)]))
  refine own_dupX1 (pc' := 39) X5 hx rfl rfl (hb hby da0_38) rfl ?_
  refine own_iconst (pc' := 40) X5 hx (1 : Int32) (by decide) (hb hby da0_39) rfl ?_
  refine own_iadd (pc' := 41) X5 hx (z := (2 : Int32)) (by decide) (hb hby da0_40) rfl ?_
  obtain ⟨T6, h6, X6, e6, W6, st6⟩ := putF X5 hx hZ hown (host := "") (Or.inl (hw _ (List.mem_of_getElem? (i := 18) rfl))) Via.refl e5 F_size_a1 E_a1 (Or.inl (hw _ (List.mem_of_getElem? (i := 19) rfl))) (hw _ (List.mem_of_getElem? (i := 3) rfl)) (ty := .int) (by decide) rfl rfl (g := (mkF m 41 #[.val (.ref a1), .val (.int u)] [(.int (2 : Int32)), (.ref a1), (.int (1 : Int32)), (.ref ar)])) rfl rfl (hb hby da0_41)
  have Fw6 : Fld Z h6 a1 "com/example/libpundit/libpundit/core/IntList" "size" "I" (.int (2 : Int32)) := F_size_a1.same W6
  have F7 : Fld Z h6 a1 "com/example/libpundit/libpundit/core/IntList" "values" "[I" (.ref ar) := F_values_a1.other W6 (Or.inr (slot_ne (Or.inl (hw _ (List.mem_of_getElem? (i := 12) rfl))) (Or.inl (hw _ (List.mem_of_getElem? (i := 19) rfl))) (by decide) (t := (.array .int)) (by decide) (t' := .int) (by decide)))
  have E8 : Exa Z h6 a1 "com/example/libpundit/libpundit/core/IntList" := E_a1.wr W6
  have E9 : Exa Z h6 ar "[I" := E_ar.wr W6
  have A10 : Arv Z h6 ar kc .int (4 : Int32) [(.int el0), (.int (0 : Int32)), (.int (0 : Int32)), (.int (0 : Int32))] (.int (0 : Int32)) := A_ar.other W6 (Ne.symm ne_a1_ar)
  have Z11 : n0 ≤ h6.size := Nat.le_trans Z0 (Nat.le_of_eq W6.size.symm)
  have N12 := Fr.snoc X6 N0 g_a1
  have K13 : Keep h0 h6 [a1, ar] := K0.wr W6 (Or.inl (List.mem_of_getElem? (i := 0) rfl))
  refine own_by st6 ?_
  show own_Go p e below (Qa1 Z a1 u ar kc el0 h0 n0) (own_Fr s ({ frames := 0, cells := 0, slots := 0, locals := 0 } : Room).cells ({ frames := 0, cells := 0, slots := 0, locals := 0 } : Room).slots) (T6.setTop (mkF m 44 #[.val (.ref a1), .val (.int u)] [(.int (1 : Int32)), (.ref ar)]))
  refine own_iloadN (pc' := 45) X6 hx rfl (hb hby da0_44) rfl ?_
  obtain ⟨c14, B14, q14, s14, u14, H14, G14⟩ := id A10
  obtain ⟨T14, h14, X14, e14, W14, st14⟩ := stI X6 hx hZ e6 B14 (j := (1 : Int32)) (x := u) (inb_of s14 (by decide)) (g := (mkF m 45 #[.val (.ref a1), .val (.int u)] [(.int u), (.int (1 : Int32)), (.ref ar)])) rfl rfl (hb hby da0_45)
  have A14 : Arv Z h14 ar kc .int (4 : Int32) [(.int el0), (.int u), (.int (0 : Int32)), (.int (0 : Int32))] (.int (0 : Int32)) := Arv.set B14 q14 s14 u14 H14 G14 rfl W14 1 (by decide) (by simp)
  have F15 : Fld Z h14 a1 "com/example/libpundit/libpundit/core/IntList" "values" "[I" (.ref ar) := F7.other W14 (Or.inl ne_a1_ar)
  have F16 : Fld Z h14 a1 "com/example/libpundit/libpundit/core/IntList" "size" "I" (.int (2 : Int32)) := Fw6.other W14 (Or.inl ne_a1_ar)
  have E17 : Exa Z h14 a1 "com/example/libpundit/libpundit/core/IntList" := E8.wr W14
  have E18 : Exa Z h14 ar "[I" := E9.wr W14
  have Z19 : n0 ≤ h14.size := Nat.le_trans Z11 (Nat.le_of_eq W14.size.symm)
  have N20 := Fr.snoc X14 N12 g_ar
  have K21 : Keep h0 h14 [a1, ar] := K13.wr W14 (Or.inl (List.mem_of_getElem? (i := 1) rfl))
  refine own_by st14 ?_
  show own_Go p e below (Qa1 Z a1 u ar kc el0 h0 n0) (own_Fr s ({ frames := 0, cells := 0, slots := 0, locals := 0 } : Room).cells ({ frames := 0, cells := 0, slots := 0, locals := 0 } : Room).slots) (T14.setTop (mkF m 46 #[.val (.ref a1), .val (.int u)] []))
  refine own_ret0 X14 hx Bd.returns Bd.notSynchronized (hb hby da0_46) rfl (by decide) (by decide) ?_
  show Qa1 Z a1 u ar kc el0 h0 n0 _ T14.heap _
  rw [e14]
  exact ⟨rfl, trivial, N20, K21, E17, E18, F15, F16, A14⟩
theorem ef_a2 (m : MethodId) (x0 : Addr) (x1 : Int32) : entryFrame m #[(.ref x0), (.int x1)] 2 = mkF m 0 #[.val (.ref x0), .val (.int x1)] [] := by first | (simp [entryFrame, mkF, argsToLocals, Value.category, maxLocals]; done) | rfl
def Qa2 (Z : State) (a1 : Addr) (u : Int32) (ar : Addr) (kc : ClassId) (el0 : Int32) (el1 : Int32) (h0 : Heap) (n0 : Nat) (v : Option Value) (h : Heap) (L : List Loc) : Prop := v = none ∧ (True) ∧ Fr n0 L ∧ Keep h0 h [a1, ar] ∧ Exa Z h a1 "com/example/libpundit/libpundit/core/IntList" ∧ Exa Z h ar "[I" ∧ Fld Z h a1 "com/example/libpundit/libpundit/core/IntList" "values" "[I" (.ref ar) ∧ Fld Z h a1 "com/example/libpundit/libpundit/core/IntList" "size" "I" (.int (3 : Int32)) ∧ Arv Z h ar kc .int (4 : Int32) [(.int el0), (.int el1), (.int u), (.int (0 : Int32))] (.int (0 : Int32))
set_option maxRecDepth 65536 in
set_option maxHeartbeats 40000000 in
theorem rma2 (l : Launch) (Z : State) (a0 : Array Value) (hw : ∀ d ∈ tables_1, d.before a0 Z = true) (ws : List Jvm.Cond) (a1 : Addr) (u : Int32) (ar : Addr) (kc : ClassId) (el0 : Int32) (el1 : Int32) (h0 : Heap) (n0 : Nat) (Z0 : n0 ≤ h0.size) (E_a1 : Exa Z h0 a1 "com/example/libpundit/libpundit/core/IntList") (E_ar : Exa Z h0 ar "[I") (F_values_a1 : Fld Z h0 a1 "com/example/libpundit/libpundit/core/IntList" "values" "[I" (.ref ar)) (F_size_a1 : Fld Z h0 a1 "com/example/libpundit/libpundit/core/IntList" "size" "I" (.int (2 : Int32))) (A_ar : Arv Z h0 ar kc .int (4 : Int32) [(.int el0), (.int el1), (.int (0 : Int32)), (.int (0 : Int32))] (.int (0 : Int32))) (g_a1 : n0 ≤ a1) (g_ar : n0 ≤ ar) (ne_a1_ar : a1 ≠ ar) :
    MetFree l (⟨"com/example/libpundit/libpundit/core/IntList", "add", "(I)V"⟩ : MethodName) (head1 (Jvm.Cond.code (⟨"com/example/libpundit/libpundit/core/IntList", "add", "(I)V"⟩ : MethodName) prog_21_method_2_code 2 none :: ws) ({ frames := 0, cells := 0, slots := 0, locals := 0 } : Room)) (fun a U => a = #[(.ref a1), (.int u)] ∧ Z.Warmed39 U.vm ∧ U.heap = h0) (fun _ _ _ _ _ => True) (fun _ U o U' => ∃ v L, o = .returned v ∧ Qa2 Z a1 u ar kc el0 el1 h0 n0 v U'.heap L ∧ FrameEnd U o U' L ({ frames := 0, cells := 0, slots := 0, locals := 0 } : Room).cells ({ frames := 0, cells := 0, slots := 0, locals := 0 } : Room).slots) := by
  refine MetFree.of_bodySF (plainFor_of_name pn_1) hisR ?_
  intro p e s m args below meth c s₁ Bd hml0 hP hK
  obtain ⟨rfl, hZ, hh⟩ := hP
  have hx := Bd.exec
  have hby := Bd.bytes
  have hml : c.maxLocals = 2 := hml0
  have hown : s.vm.findClass "com/example/libpundit/libpundit/core/IntList" = some m.cls := findClass_of_methodNamed Bd.named
  have hnm := (name_of_methodNamed Bd.named Bd.method).1
  have X0 : Stand p l e ({ frames := 0, cells := 0, slots := 0, locals := 0 } : Room) s m #[(.ref a1), (.int u)] below meth c s₁ [] 0 0 := Stand.of_body Bd
  have e0 : s₁.heap = h0 := by rw [← hh, Bd.state]; rfl
  have N0 := Fr.nil n0
  change own_Go p e below (Qa2 Z a1 u ar kc el0 el1 h0 n0) (own_Fr s ({ frames := 0, cells := 0, slots := 0, locals := 0 } : Room).cells ({ frames := 0, cells := 0, slots := 0, locals := 0 } : Room).slots) (s₁.setTop (entryFrame m #[(.ref a1), (.int u)] 2))
  rw [ef_a2 m a1 u]
  have ru := rng32 u
  have rel0 := rng32 el0
  have rel1 := rng32 el1
  have K0 : Keep h0 h0 [a1, ar] := Keep.refl h0 [a1, ar]
  refine own_aloadN (pc' := 1) X0 hx rfl rfl (hb hby da0_0) rfl ?_
  obtain ⟨T1, X1, e1, st1⟩ := getF X0 hx hZ hown (host := "") (Or.inl (hw _ (List.mem_of_getElem? (i := 18) rfl))) Via.refl e0 F_size_a1 (g := (mkF m 1 #[.val (.ref a1), .val (.int u)] [(.ref a1)])) rfl rfl (hb hby da0_1)
  refine own_by st1 ?_
  show own_Go p e below (Qa2 Z a1 u ar kc el0 el1 h0 n0) (own_Fr s ({ frames := 0, cells := 0, slots := 0, locals := 0 } : Room).cells ({ frames := 0, cells := 0, slots := 0, locals := 0 } : Room).slots) (T1.setTop (mkF m 4 #[.val (.ref a1), .val (.int u)] [(.int (2 : Int32))]))
  refine own_aloadN (pc' := 5) X1 hx rfl rfl (hb hby da0_4) rfl ?_
  obtain ⟨T2, X2, e2, st2⟩ := getF X1 hx hZ hown (host := "") (Or.inl (hw _ (List.mem_of_getElem? (i := 11) rfl))) Via.refl e1 F_values_a1 (g := (mkF m 5 #[.val (.ref a1), .val (.int u)] [(.ref a1), (.int (2 : Int32))])) rfl rfl (hb hby da0_5)
  refine own_by st2 ?_
  show own_Go p e below (Qa2 Z a1 u ar kc el0 el1 h0 n0) (own_Fr s ({ frames := 0, cells := 0, slots := 0, locals := 0 } : Room).cells ({ frames := 0, cells := 0, slots := 0, locals := 0 } : Room).slots) (T2.setTop (mkF m 8 #[.val (.ref a1), .val (.int u)] [(.ref ar), (.int (2 : Int32))]))
  obtain ⟨c3, B3, q3, s3, u3, H3, G3⟩ := id A_ar
  refine own_by (X2.arraylength hx (by rw [e2]; exact B3.1) (State.isArrayOf_alike hZ.alike B3.2.1) (g := (mkF m 8 #[.val (.ref a1), .val (.int u)] [(.ref ar), (.int (2 : Int32))])) rfl rfl (hb hby da0_8)) ?_
  rw [len_of s3 u3]
  show own_Go p e below (Qa2 Z a1 u ar kc el0 el1 h0 n0) (own_Fr s ({ frames := 0, cells := 0, slots := 0, locals := 0 } : Room).cells ({ frames := 0, cells := 0, slots := 0, locals := 0 } : Room).slots) (T2.setTop (mkF m 9 #[.val (.ref a1), .val (.int u)] [(.int (4 : Int32)), (.int (2 : Int32))]))
  refine own_icmpYes (pc' := 29) X2 hx (hb hby da0_9) (by decide) (by decide) (by decide) ?_
  refine own_aloadN (pc' := 30) X2 hx rfl rfl (hb hby da0_29) rfl ?_
  obtain ⟨T4, X4, e4, st4⟩ := getF X2 hx hZ hown (host := "") (Or.inl (hw _ (List.mem_of_getElem? (i := 11) rfl))) Via.refl e2 F_values_a1 (g := (mkF m 30 #[.val (.ref a1), .val (.int u)] [(.ref a1)])) rfl rfl (hb hby da0_30)
  refine own_by st4 ?_
  show own_Go p e below (Qa2 Z a1 u ar kc el0 el1 h0 n0) (own_Fr s ({ frames := 0, cells := 0, slots := 0, locals := 0 } : Room).cells ({ frames := 0, cells := 0, slots := 0, locals := 0 } : Room).slots) (T4.setTop (mkF m 33 #[.val (.ref a1), .val (.int u)] [(.ref ar)]))
  refine own_aloadN (pc' := 34) X4 hx rfl rfl (hb hby da0_33) rfl ?_
  refine own_dup (pc' := 35) X4 hx rfl (hb hby da0_34) rfl ?_
  obtain ⟨T5, X5, e5, st5⟩ := getF X4 hx hZ hown (host := "") (Or.inl (hw _ (List.mem_of_getElem? (i := 18) rfl))) Via.refl e4 F_size_a1 (g := (mkF m 35 #[.val (.ref a1), .val (.int u)] [(.ref a1), (.ref a1), (.ref ar)])) rfl rfl (hb hby da0_35)
  refine own_by st5 ?_
  show own_Go p e below (Qa2 Z a1 u ar kc el0 el1 h0 n0) (own_Fr s ({ frames := 0, cells := 0, slots := 0, locals := 0 } : Room).cells ({ frames := 0, cells := 0, slots := 0, locals := 0 } : Room).slots) (T5.setTop (mkF m 38 #[.val (.ref a1), .val (.int u)] [(.int (2 : Int32)), (.ref a1), (.ref ar)]))
  refine own_dupX1 (pc' := 39) X5 hx rfl rfl (hb hby da0_38) rfl ?_
  refine own_iconst (pc' := 40) X5 hx (1 : Int32) (by decide) (hb hby da0_39) rfl ?_
  refine own_iadd (pc' := 41) X5 hx (z := (3 : Int32)) (by decide) (hb hby da0_40) rfl ?_
  obtain ⟨T6, h6, X6, e6, W6, st6⟩ := putF X5 hx hZ hown (host := "") (Or.inl (hw _ (List.mem_of_getElem? (i := 18) rfl))) Via.refl e5 F_size_a1 E_a1 (Or.inl (hw _ (List.mem_of_getElem? (i := 19) rfl))) (hw _ (List.mem_of_getElem? (i := 3) rfl)) (ty := .int) (by decide) rfl rfl (g := (mkF m 41 #[.val (.ref a1), .val (.int u)] [(.int (3 : Int32)), (.ref a1), (.int (2 : Int32)), (.ref ar)])) rfl rfl (hb hby da0_41)
  have Fw6 : Fld Z h6 a1 "com/example/libpundit/libpundit/core/IntList" "size" "I" (.int (3 : Int32)) := F_size_a1.same W6
  have F7 : Fld Z h6 a1 "com/example/libpundit/libpundit/core/IntList" "values" "[I" (.ref ar) := F_values_a1.other W6 (Or.inr (slot_ne (Or.inl (hw _ (List.mem_of_getElem? (i := 12) rfl))) (Or.inl (hw _ (List.mem_of_getElem? (i := 19) rfl))) (by decide) (t := (.array .int)) (by decide) (t' := .int) (by decide)))
  have E8 : Exa Z h6 a1 "com/example/libpundit/libpundit/core/IntList" := E_a1.wr W6
  have E9 : Exa Z h6 ar "[I" := E_ar.wr W6
  have A10 : Arv Z h6 ar kc .int (4 : Int32) [(.int el0), (.int el1), (.int (0 : Int32)), (.int (0 : Int32))] (.int (0 : Int32)) := A_ar.other W6 (Ne.symm ne_a1_ar)
  have Z11 : n0 ≤ h6.size := Nat.le_trans Z0 (Nat.le_of_eq W6.size.symm)
  have N12 := Fr.snoc X6 N0 g_a1
  have K13 : Keep h0 h6 [a1, ar] := K0.wr W6 (Or.inl (List.mem_of_getElem? (i := 0) rfl))
  refine own_by st6 ?_
  show own_Go p e below (Qa2 Z a1 u ar kc el0 el1 h0 n0) (own_Fr s ({ frames := 0, cells := 0, slots := 0, locals := 0 } : Room).cells ({ frames := 0, cells := 0, slots := 0, locals := 0 } : Room).slots) (T6.setTop (mkF m 44 #[.val (.ref a1), .val (.int u)] [(.int (2 : Int32)), (.ref ar)]))
  refine own_iloadN (pc' := 45) X6 hx rfl (hb hby da0_44) rfl ?_
  obtain ⟨c14, B14, q14, s14, u14, H14, G14⟩ := id A10
  obtain ⟨T14, h14, X14, e14, W14, st14⟩ := stI X6 hx hZ e6 B14 (j := (2 : Int32)) (x := u) (inb_of s14 (by decide)) (g := (mkF m 45 #[.val (.ref a1), .val (.int u)] [(.int u), (.int (2 : Int32)), (.ref ar)])) rfl rfl (hb hby da0_45)
  have A14 : Arv Z h14 ar kc .int (4 : Int32) [(.int el0), (.int el1), (.int u), (.int (0 : Int32))] (.int (0 : Int32)) := Arv.set B14 q14 s14 u14 H14 G14 rfl W14 2 (by decide) (by simp)
  have F15 : Fld Z h14 a1 "com/example/libpundit/libpundit/core/IntList" "values" "[I" (.ref ar) := F7.other W14 (Or.inl ne_a1_ar)
  have F16 : Fld Z h14 a1 "com/example/libpundit/libpundit/core/IntList" "size" "I" (.int (3 : Int32)) := Fw6.other W14 (Or.inl ne_a1_ar)
  have E17 : Exa Z h14 a1 "com/example/libpundit/libpundit/core/IntList" := E8.wr W14
  have E18 : Exa Z h14 ar "[I" := E9.wr W14
  have Z19 : n0 ≤ h14.size := Nat.le_trans Z11 (Nat.le_of_eq W14.size.symm)
  have N20 := Fr.snoc X14 N12 g_ar
  have K21 : Keep h0 h14 [a1, ar] := K13.wr W14 (Or.inl (List.mem_of_getElem? (i := 1) rfl))
  refine own_by st14 ?_
  show own_Go p e below (Qa2 Z a1 u ar kc el0 el1 h0 n0) (own_Fr s ({ frames := 0, cells := 0, slots := 0, locals := 0 } : Room).cells ({ frames := 0, cells := 0, slots := 0, locals := 0 } : Room).slots) (T14.setTop (mkF m 46 #[.val (.ref a1), .val (.int u)] []))
  refine own_ret0 X14 hx Bd.returns Bd.notSynchronized (hb hby da0_46) rfl (by decide) (by decide) ?_
  show Qa2 Z a1 u ar kc el0 el1 h0 n0 _ T14.heap _
  rw [e14]
  exact ⟨rfl, trivial, N20, K21, E17, E18, F15, F16, A14⟩
theorem ef_a3 (m : MethodId) (x0 : Addr) (x1 : Int32) : entryFrame m #[(.ref x0), (.int x1)] 2 = mkF m 0 #[.val (.ref x0), .val (.int x1)] [] := by first | (simp [entryFrame, mkF, argsToLocals, Value.category, maxLocals]; done) | rfl
def Qa3 (Z : State) (a1 : Addr) (u : Int32) (ar : Addr) (kc : ClassId) (el0 : Int32) (el1 : Int32) (el2 : Int32) (h0 : Heap) (n0 : Nat) (v : Option Value) (h : Heap) (L : List Loc) : Prop := v = none ∧ (True) ∧ Fr n0 L ∧ Keep h0 h [a1, ar] ∧ Exa Z h a1 "com/example/libpundit/libpundit/core/IntList" ∧ Exa Z h ar "[I" ∧ Fld Z h a1 "com/example/libpundit/libpundit/core/IntList" "values" "[I" (.ref ar) ∧ Fld Z h a1 "com/example/libpundit/libpundit/core/IntList" "size" "I" (.int (4 : Int32)) ∧ Arv Z h ar kc .int (4 : Int32) [(.int el0), (.int el1), (.int el2), (.int u)] (.int (0 : Int32))
set_option maxRecDepth 65536 in
set_option maxHeartbeats 40000000 in
theorem rma3 (l : Launch) (Z : State) (a0 : Array Value) (hw : ∀ d ∈ tables_1, d.before a0 Z = true) (ws : List Jvm.Cond) (a1 : Addr) (u : Int32) (ar : Addr) (kc : ClassId) (el0 : Int32) (el1 : Int32) (el2 : Int32) (h0 : Heap) (n0 : Nat) (Z0 : n0 ≤ h0.size) (E_a1 : Exa Z h0 a1 "com/example/libpundit/libpundit/core/IntList") (E_ar : Exa Z h0 ar "[I") (F_values_a1 : Fld Z h0 a1 "com/example/libpundit/libpundit/core/IntList" "values" "[I" (.ref ar)) (F_size_a1 : Fld Z h0 a1 "com/example/libpundit/libpundit/core/IntList" "size" "I" (.int (3 : Int32))) (A_ar : Arv Z h0 ar kc .int (4 : Int32) [(.int el0), (.int el1), (.int el2), (.int (0 : Int32))] (.int (0 : Int32))) (g_a1 : n0 ≤ a1) (g_ar : n0 ≤ ar) (ne_a1_ar : a1 ≠ ar) :
    MetFree l (⟨"com/example/libpundit/libpundit/core/IntList", "add", "(I)V"⟩ : MethodName) (head1 (Jvm.Cond.code (⟨"com/example/libpundit/libpundit/core/IntList", "add", "(I)V"⟩ : MethodName) prog_21_method_2_code 2 none :: ws) ({ frames := 0, cells := 0, slots := 0, locals := 0 } : Room)) (fun a U => a = #[(.ref a1), (.int u)] ∧ Z.Warmed39 U.vm ∧ U.heap = h0) (fun _ _ _ _ _ => True) (fun _ U o U' => ∃ v L, o = .returned v ∧ Qa3 Z a1 u ar kc el0 el1 el2 h0 n0 v U'.heap L ∧ FrameEnd U o U' L ({ frames := 0, cells := 0, slots := 0, locals := 0 } : Room).cells ({ frames := 0, cells := 0, slots := 0, locals := 0 } : Room).slots) := by
  refine MetFree.of_bodySF (plainFor_of_name pn_1) hisR ?_
  intro p e s m args below meth c s₁ Bd hml0 hP hK
  obtain ⟨rfl, hZ, hh⟩ := hP
  have hx := Bd.exec
  have hby := Bd.bytes
  have hml : c.maxLocals = 2 := hml0
  have hown : s.vm.findClass "com/example/libpundit/libpundit/core/IntList" = some m.cls := findClass_of_methodNamed Bd.named
  have hnm := (name_of_methodNamed Bd.named Bd.method).1
  have X0 : Stand p l e ({ frames := 0, cells := 0, slots := 0, locals := 0 } : Room) s m #[(.ref a1), (.int u)] below meth c s₁ [] 0 0 := Stand.of_body Bd
  have e0 : s₁.heap = h0 := by rw [← hh, Bd.state]; rfl
  have N0 := Fr.nil n0
  change own_Go p e below (Qa3 Z a1 u ar kc el0 el1 el2 h0 n0) (own_Fr s ({ frames := 0, cells := 0, slots := 0, locals := 0 } : Room).cells ({ frames := 0, cells := 0, slots := 0, locals := 0 } : Room).slots) (s₁.setTop (entryFrame m #[(.ref a1), (.int u)] 2))
  rw [ef_a3 m a1 u]
  have ru := rng32 u
  have rel0 := rng32 el0
  have rel1 := rng32 el1
  have rel2 := rng32 el2
  have K0 : Keep h0 h0 [a1, ar] := Keep.refl h0 [a1, ar]
  refine own_aloadN (pc' := 1) X0 hx rfl rfl (hb hby da0_0) rfl ?_
  obtain ⟨T1, X1, e1, st1⟩ := getF X0 hx hZ hown (host := "") (Or.inl (hw _ (List.mem_of_getElem? (i := 18) rfl))) Via.refl e0 F_size_a1 (g := (mkF m 1 #[.val (.ref a1), .val (.int u)] [(.ref a1)])) rfl rfl (hb hby da0_1)
  refine own_by st1 ?_
  show own_Go p e below (Qa3 Z a1 u ar kc el0 el1 el2 h0 n0) (own_Fr s ({ frames := 0, cells := 0, slots := 0, locals := 0 } : Room).cells ({ frames := 0, cells := 0, slots := 0, locals := 0 } : Room).slots) (T1.setTop (mkF m 4 #[.val (.ref a1), .val (.int u)] [(.int (3 : Int32))]))
  refine own_aloadN (pc' := 5) X1 hx rfl rfl (hb hby da0_4) rfl ?_
  obtain ⟨T2, X2, e2, st2⟩ := getF X1 hx hZ hown (host := "") (Or.inl (hw _ (List.mem_of_getElem? (i := 11) rfl))) Via.refl e1 F_values_a1 (g := (mkF m 5 #[.val (.ref a1), .val (.int u)] [(.ref a1), (.int (3 : Int32))])) rfl rfl (hb hby da0_5)
  refine own_by st2 ?_
  show own_Go p e below (Qa3 Z a1 u ar kc el0 el1 el2 h0 n0) (own_Fr s ({ frames := 0, cells := 0, slots := 0, locals := 0 } : Room).cells ({ frames := 0, cells := 0, slots := 0, locals := 0 } : Room).slots) (T2.setTop (mkF m 8 #[.val (.ref a1), .val (.int u)] [(.ref ar), (.int (3 : Int32))]))
  obtain ⟨c3, B3, q3, s3, u3, H3, G3⟩ := id A_ar
  refine own_by (X2.arraylength hx (by rw [e2]; exact B3.1) (State.isArrayOf_alike hZ.alike B3.2.1) (g := (mkF m 8 #[.val (.ref a1), .val (.int u)] [(.ref ar), (.int (3 : Int32))])) rfl rfl (hb hby da0_8)) ?_
  rw [len_of s3 u3]
  show own_Go p e below (Qa3 Z a1 u ar kc el0 el1 el2 h0 n0) (own_Fr s ({ frames := 0, cells := 0, slots := 0, locals := 0 } : Room).cells ({ frames := 0, cells := 0, slots := 0, locals := 0 } : Room).slots) (T2.setTop (mkF m 9 #[.val (.ref a1), .val (.int u)] [(.int (4 : Int32)), (.int (3 : Int32))]))
  refine own_icmpYes (pc' := 29) X2 hx (hb hby da0_9) (by decide) (by decide) (by decide) ?_
  refine own_aloadN (pc' := 30) X2 hx rfl rfl (hb hby da0_29) rfl ?_
  obtain ⟨T4, X4, e4, st4⟩ := getF X2 hx hZ hown (host := "") (Or.inl (hw _ (List.mem_of_getElem? (i := 11) rfl))) Via.refl e2 F_values_a1 (g := (mkF m 30 #[.val (.ref a1), .val (.int u)] [(.ref a1)])) rfl rfl (hb hby da0_30)
  refine own_by st4 ?_
  show own_Go p e below (Qa3 Z a1 u ar kc el0 el1 el2 h0 n0) (own_Fr s ({ frames := 0, cells := 0, slots := 0, locals := 0 } : Room).cells ({ frames := 0, cells := 0, slots := 0, locals := 0 } : Room).slots) (T4.setTop (mkF m 33 #[.val (.ref a1), .val (.int u)] [(.ref ar)]))
  refine own_aloadN (pc' := 34) X4 hx rfl rfl (hb hby da0_33) rfl ?_
  refine own_dup (pc' := 35) X4 hx rfl (hb hby da0_34) rfl ?_
  obtain ⟨T5, X5, e5, st5⟩ := getF X4 hx hZ hown (host := "") (Or.inl (hw _ (List.mem_of_getElem? (i := 18) rfl))) Via.refl e4 F_size_a1 (g := (mkF m 35 #[.val (.ref a1), .val (.int u)] [(.ref a1), (.ref a1), (.ref ar)])) rfl rfl (hb hby da0_35)
  refine own_by st5 ?_
  show own_Go p e below (Qa3 Z a1 u ar kc el0 el1 el2 h0 n0) (own_Fr s ({ frames := 0, cells := 0, slots := 0, locals := 0 } : Room).cells ({ frames := 0, cells := 0, slots := 0, locals := 0 } : Room).slots) (T5.setTop (mkF m 38 #[.val (.ref a1), .val (.int u)] [(.int (3 : Int32)), (.ref a1), (.ref ar)]))
  refine own_dupX1 (pc' := 39) X5 hx rfl rfl (hb hby da0_38) rfl ?_
  refine own_iconst (pc' := 40) X5 hx (1 : Int32) (by decide) (hb hby da0_39) rfl ?_
  refine own_iadd (pc' := 41) X5 hx (z := (4 : Int32)) (by decide) (hb hby da0_40) rfl ?_
  obtain ⟨T6, h6, X6, e6, W6, st6⟩ := putF X5 hx hZ hown (host := "") (Or.inl (hw _ (List.mem_of_getElem? (i := 18) rfl))) Via.refl e5 F_size_a1 E_a1 (Or.inl (hw _ (List.mem_of_getElem? (i := 19) rfl))) (hw _ (List.mem_of_getElem? (i := 3) rfl)) (ty := .int) (by decide) rfl rfl (g := (mkF m 41 #[.val (.ref a1), .val (.int u)] [(.int (4 : Int32)), (.ref a1), (.int (3 : Int32)), (.ref ar)])) rfl rfl (hb hby da0_41)
  have Fw6 : Fld Z h6 a1 "com/example/libpundit/libpundit/core/IntList" "size" "I" (.int (4 : Int32)) := F_size_a1.same W6
  have F7 : Fld Z h6 a1 "com/example/libpundit/libpundit/core/IntList" "values" "[I" (.ref ar) := F_values_a1.other W6 (Or.inr (slot_ne (Or.inl (hw _ (List.mem_of_getElem? (i := 12) rfl))) (Or.inl (hw _ (List.mem_of_getElem? (i := 19) rfl))) (by decide) (t := (.array .int)) (by decide) (t' := .int) (by decide)))
  have E8 : Exa Z h6 a1 "com/example/libpundit/libpundit/core/IntList" := E_a1.wr W6
  have E9 : Exa Z h6 ar "[I" := E_ar.wr W6
  have A10 : Arv Z h6 ar kc .int (4 : Int32) [(.int el0), (.int el1), (.int el2), (.int (0 : Int32))] (.int (0 : Int32)) := A_ar.other W6 (Ne.symm ne_a1_ar)
  have Z11 : n0 ≤ h6.size := Nat.le_trans Z0 (Nat.le_of_eq W6.size.symm)
  have N12 := Fr.snoc X6 N0 g_a1
  have K13 : Keep h0 h6 [a1, ar] := K0.wr W6 (Or.inl (List.mem_of_getElem? (i := 0) rfl))
  refine own_by st6 ?_
  show own_Go p e below (Qa3 Z a1 u ar kc el0 el1 el2 h0 n0) (own_Fr s ({ frames := 0, cells := 0, slots := 0, locals := 0 } : Room).cells ({ frames := 0, cells := 0, slots := 0, locals := 0 } : Room).slots) (T6.setTop (mkF m 44 #[.val (.ref a1), .val (.int u)] [(.int (3 : Int32)), (.ref ar)]))
  refine own_iloadN (pc' := 45) X6 hx rfl (hb hby da0_44) rfl ?_
  obtain ⟨c14, B14, q14, s14, u14, H14, G14⟩ := id A10
  obtain ⟨T14, h14, X14, e14, W14, st14⟩ := stI X6 hx hZ e6 B14 (j := (3 : Int32)) (x := u) (inb_of s14 (by decide)) (g := (mkF m 45 #[.val (.ref a1), .val (.int u)] [(.int u), (.int (3 : Int32)), (.ref ar)])) rfl rfl (hb hby da0_45)
  have A14 : Arv Z h14 ar kc .int (4 : Int32) [(.int el0), (.int el1), (.int el2), (.int u)] (.int (0 : Int32)) := Arv.set B14 q14 s14 u14 H14 G14 rfl W14 3 (by decide) (by simp)
  have F15 : Fld Z h14 a1 "com/example/libpundit/libpundit/core/IntList" "values" "[I" (.ref ar) := F7.other W14 (Or.inl ne_a1_ar)
  have F16 : Fld Z h14 a1 "com/example/libpundit/libpundit/core/IntList" "size" "I" (.int (4 : Int32)) := Fw6.other W14 (Or.inl ne_a1_ar)
  have E17 : Exa Z h14 a1 "com/example/libpundit/libpundit/core/IntList" := E8.wr W14
  have E18 : Exa Z h14 ar "[I" := E9.wr W14
  have Z19 : n0 ≤ h14.size := Nat.le_trans Z11 (Nat.le_of_eq W14.size.symm)
  have N20 := Fr.snoc X14 N12 g_ar
  have K21 : Keep h0 h14 [a1, ar] := K13.wr W14 (Or.inl (List.mem_of_getElem? (i := 1) rfl))
  refine own_by st14 ?_
  show own_Go p e below (Qa3 Z a1 u ar kc el0 el1 el2 h0 n0) (own_Fr s ({ frames := 0, cells := 0, slots := 0, locals := 0 } : Room).cells ({ frames := 0, cells := 0, slots := 0, locals := 0 } : Room).slots) (T14.setTop (mkF m 46 #[.val (.ref a1), .val (.int u)] []))
  refine own_ret0 X14 hx Bd.returns Bd.notSynchronized (hb hby da0_46) rfl (by decide) (by decide) ?_
  show Qa3 Z a1 u ar kc el0 el1 el2 h0 n0 _ T14.heap _
  rw [e14]
  exact ⟨rfl, trivial, N20, K21, E17, E18, F15, F16, A14⟩
theorem ef_a4 (m : MethodId) (x0 : Addr) (x1 : Int32) : entryFrame m #[(.ref x0), (.int x1)] 2 = mkF m 0 #[.val (.ref x0), .val (.int x1)] [] := by first | (simp [entryFrame, mkF, argsToLocals, Value.category, maxLocals]; done) | rfl
def Qa4 (Z : State) (a1 : Addr) (u : Int32) (ar : Addr) (kc : ClassId) (el0 : Int32) (el1 : Int32) (el2 : Int32) (el3 : Int32) (h0 : Heap) (n0 : Nat) (v : Option Value) (h : Heap) (L : List Loc) : Prop := ∃ q : Addr, ∃ kd : ClassId, v = none ∧ (True) ∧ Fr n0 L ∧ Keep h0 h [a1] ∧ h0.size ≤ q ∧ Exa Z h a1 "com/example/libpundit/libpundit/core/IntList" ∧ Exa Z h q "[I" ∧ Fld Z h a1 "com/example/libpundit/libpundit/core/IntList" "values" "[I" (.ref q) ∧ Fld Z h a1 "com/example/libpundit/libpundit/core/IntList" "size" "I" (.int (5 : Int32)) ∧ Arv Z h q kd .int (8 : Int32) [(.int el0), (.int el1), (.int el2), (.int el3), (.int u), (.int (0 : Int32)), (.int (0 : Int32)), (.int (0 : Int32))] (.int (0 : Int32))
set_option maxRecDepth 65536 in
set_option maxHeartbeats 40000000 in
theorem rma4 (l : Launch) (Z : State) (a0 : Array Value) (hw : ∀ d ∈ tables_1, d.before a0 Z = true) (ws : List Jvm.Cond) (a1 : Addr) (u : Int32) (ar : Addr) (kc : ClassId) (el0 : Int32) (el1 : Int32) (el2 : Int32) (el3 : Int32) (h0 : Heap) (n0 : Nat) (Z0 : n0 ≤ h0.size) (E_a1 : Exa Z h0 a1 "com/example/libpundit/libpundit/core/IntList") (E_ar : Exa Z h0 ar "[I") (F_values_a1 : Fld Z h0 a1 "com/example/libpundit/libpundit/core/IntList" "values" "[I" (.ref ar)) (F_size_a1 : Fld Z h0 a1 "com/example/libpundit/libpundit/core/IntList" "size" "I" (.int (4 : Int32))) (A_ar : Arv Z h0 ar kc .int (4 : Int32) [(.int el0), (.int el1), (.int el2), (.int el3)] (.int (0 : Int32))) (g_a1 : n0 ≤ a1) (ne_a1_ar : a1 ≠ ar) :
    MetFree l (⟨"com/example/libpundit/libpundit/core/IntList", "add", "(I)V"⟩ : MethodName) (head1 (Jvm.Cond.code (⟨"com/example/libpundit/libpundit/core/IntList", "add", "(I)V"⟩ : MethodName) prog_21_method_2_code 2 none :: ws) ({ frames := 2, cells := 1, slots := 8, locals := 64 } : Room)) (fun a U => a = #[(.ref a1), (.int u)] ∧ Z.Warmed39 U.vm ∧ U.heap = h0) (fun _ _ _ _ _ => True) (fun _ U o U' => ∃ v L, o = .returned v ∧ Qa4 Z a1 u ar kc el0 el1 el2 el3 h0 n0 v U'.heap L ∧ FrameEnd U o U' L ({ frames := 2, cells := 1, slots := 8, locals := 64 } : Room).cells ({ frames := 2, cells := 1, slots := 8, locals := 64 } : Room).slots) := by
  refine MetFree.of_bodySF (plainFor_of_name pn_1) hisR ?_
  intro p e s m args below meth c s₁ Bd hml0 hP hK
  obtain ⟨rfl, hZ, hh⟩ := hP
  have hx := Bd.exec
  have hby := Bd.bytes
  have hml : c.maxLocals = 2 := hml0
  have hown : s.vm.findClass "com/example/libpundit/libpundit/core/IntList" = some m.cls := findClass_of_methodNamed Bd.named
  have hnm := (name_of_methodNamed Bd.named Bd.method).1
  have X0 : Stand p l e ({ frames := 2, cells := 1, slots := 8, locals := 64 } : Room) s m #[(.ref a1), (.int u)] below meth c s₁ [] 0 0 := Stand.of_body Bd
  have e0 : s₁.heap = h0 := by rw [← hh, Bd.state]; rfl
  have N0 := Fr.nil n0
  change own_Go p e below (Qa4 Z a1 u ar kc el0 el1 el2 el3 h0 n0) (own_Fr s ({ frames := 2, cells := 1, slots := 8, locals := 64 } : Room).cells ({ frames := 2, cells := 1, slots := 8, locals := 64 } : Room).slots) (s₁.setTop (entryFrame m #[(.ref a1), (.int u)] 2))
  rw [ef_a4 m a1 u]
  have ru := rng32 u
  have rel0 := rng32 el0
  have rel1 := rng32 el1
  have rel2 := rng32 el2
  have rel3 := rng32 el3
  have K0 : Keep h0 h0 [a1] := Keep.refl h0 [a1]
  refine own_aloadN (pc' := 1) X0 hx rfl rfl (hb hby da0_0) rfl ?_
  obtain ⟨T1, X1, e1, st1⟩ := getF X0 hx hZ hown (host := "") (Or.inl (hw _ (List.mem_of_getElem? (i := 18) rfl))) Via.refl e0 F_size_a1 (g := (mkF m 1 #[.val (.ref a1), .val (.int u)] [(.ref a1)])) rfl rfl (hb hby da0_1)
  refine own_by st1 ?_
  show own_Go p e below (Qa4 Z a1 u ar kc el0 el1 el2 el3 h0 n0) (own_Fr s ({ frames := 2, cells := 1, slots := 8, locals := 64 } : Room).cells ({ frames := 2, cells := 1, slots := 8, locals := 64 } : Room).slots) (T1.setTop (mkF m 4 #[.val (.ref a1), .val (.int u)] [(.int (4 : Int32))]))
  refine own_aloadN (pc' := 5) X1 hx rfl rfl (hb hby da0_4) rfl ?_
  obtain ⟨T2, X2, e2, st2⟩ := getF X1 hx hZ hown (host := "") (Or.inl (hw _ (List.mem_of_getElem? (i := 11) rfl))) Via.refl e1 F_values_a1 (g := (mkF m 5 #[.val (.ref a1), .val (.int u)] [(.ref a1), (.int (4 : Int32))])) rfl rfl (hb hby da0_5)
  refine own_by st2 ?_
  show own_Go p e below (Qa4 Z a1 u ar kc el0 el1 el2 el3 h0 n0) (own_Fr s ({ frames := 2, cells := 1, slots := 8, locals := 64 } : Room).cells ({ frames := 2, cells := 1, slots := 8, locals := 64 } : Room).slots) (T2.setTop (mkF m 8 #[.val (.ref a1), .val (.int u)] [(.ref ar), (.int (4 : Int32))]))
  obtain ⟨c3, B3, q3, s3, u3, H3, G3⟩ := id A_ar
  refine own_by (X2.arraylength hx (by rw [e2]; exact B3.1) (State.isArrayOf_alike hZ.alike B3.2.1) (g := (mkF m 8 #[.val (.ref a1), .val (.int u)] [(.ref ar), (.int (4 : Int32))])) rfl rfl (hb hby da0_8)) ?_
  rw [len_of s3 u3]
  show own_Go p e below (Qa4 Z a1 u ar kc el0 el1 el2 el3 h0 n0) (own_Fr s ({ frames := 2, cells := 1, slots := 8, locals := 64 } : Room).cells ({ frames := 2, cells := 1, slots := 8, locals := 64 } : Room).slots) (T2.setTop (mkF m 9 #[.val (.ref a1), .val (.int u)] [(.int (4 : Int32)), (.int (4 : Int32))]))
  refine own_icmpNo (pc' := 12) X2 hx (by decide) (hb hby da0_9) rfl ?_
  refine own_aloadN (pc' := 13) X2 hx rfl rfl (hb hby da0_12) rfl ?_
  refine own_aloadN (pc' := 14) X2 hx rfl rfl (hb hby da0_13) rfl ?_
  obtain ⟨T4, X4, e4, st4⟩ := getF X2 hx hZ hown (host := "") (Or.inl (hw _ (List.mem_of_getElem? (i := 11) rfl))) Via.refl e2 F_values_a1 (g := (mkF m 14 #[.val (.ref a1), .val (.int u)] [(.ref a1), (.ref a1)])) rfl rfl (hb hby da0_14)
  refine own_by st4 ?_
  show own_Go p e below (Qa4 Z a1 u ar kc el0 el1 el2 el3 h0 n0) (own_Fr s ({ frames := 2, cells := 1, slots := 8, locals := 64 } : Room).cells ({ frames := 2, cells := 1, slots := 8, locals := 64 } : Room).slots) (T4.setTop (mkF m 17 #[.val (.ref a1), .val (.int u)] [(.ref ar), (.ref a1)]))
  refine own_iconst (pc' := 18) X4 hx (2 : Int32) (by decide) (hb hby da0_17) rfl ?_
  refine own_aloadN (pc' := 19) X4 hx rfl rfl (hb hby da0_18) rfl ?_
  obtain ⟨T5, X5, e5, st5⟩ := getF X4 hx hZ hown (host := "") (Or.inl (hw _ (List.mem_of_getElem? (i := 18) rfl))) Via.refl e4 F_size_a1 (g := (mkF m 19 #[.val (.ref a1), .val (.int u)] [(.ref a1), (.int (2 : Int32)), (.ref ar), (.ref a1)])) rfl rfl (hb hby da0_19)
  refine own_by st5 ?_
  show own_Go p e below (Qa4 Z a1 u ar kc el0 el1 el2 el3 h0 n0) (own_Fr s ({ frames := 2, cells := 1, slots := 8, locals := 64 } : Room).cells ({ frames := 2, cells := 1, slots := 8, locals := 64 } : Room).slots) (T5.setTop (mkF m 22 #[.val (.ref a1), .val (.int u)] [(.int (4 : Int32)), (.int (2 : Int32)), (.ref ar), (.ref a1)]))
  refine own_imul (pc' := 23) X5 hx (z := (8 : Int32)) (by decide) (hb hby da0_22) rfl ?_
  obtain ⟨_, _, ⟨T6, L6, k6, n6⟩, -, X6, ⟨Lc6, hQ6, l6, y6, z6⟩, st6⟩ := Jvm.LawKit.callS X5 hx (y := (⟨"java/util/Arrays", "copyOf", "([II)[I"⟩ : MethodName)) hown (mvT hZ (hw _ (List.mem_of_getElem? (i := 33) rfl))) (mvT hZ (hw _ (List.mem_of_getElem? (i := 34) rfl))) (mvT hZ (hw _ (List.mem_of_getElem? (i := 35) rfl))) (mvT hZ (hw _ (List.mem_of_getElem? (i := 36) rfl))) (by decide) (backOf (W := 1) (rmc4_8 l Z a0 hw [] ar kc el0 el1 el2 el3 h0 n0 Z0 E_ar A_ar) hZ (hw _ (List.mem_of_getElem? (i := 36) rfl)) (hw _ (List.mem_of_getElem? (i := 35) rfl)) (by decide) (by decide)) (g := (mkF m 23 #[.val (.ref a1), .val (.int u)] [(.int (8 : Int32)), (.ref ar), (.ref a1)])) rfl (by rw [hml]; rfl) (argsL := [(.ref ar), (.int (8 : Int32))]) (rest := [(.ref a1)]) (lenOf pd_1 rfl) rfl (by show 2 * 0 + _ ≤ _; exact Nat.le_of_eq rfl) (hb hby da0_23) (fun _ _ => ⟨rfl, e5, (by decide : 0 + 1 ≤ _), (by decide : 0 + 8 ≤ _)⟩)
  dsimp only [Pt.U, Pt.locs, Pt.cells, Pt.slots] at X6 l6 y6 z6 st6 hQ6
  subst l6 y6 z6
  obtain ⟨q_6, kd_6, rfl, pp6, N6, Kc6, gc6_q, Ec6_q, Ac6_q⟩ := hQ6
  have n7 : a1 ≠ q_6 := Nat.ne_of_lt (Nat.lt_of_lt_of_le E_a1.lt gc6_q)
  have n8 : ar ≠ q_6 := Nat.ne_of_lt (Nat.lt_of_lt_of_le E_ar.lt gc6_q)
  have frq_6 : n0 ≤ q_6 := Nat.le_trans Z0 gc6_q
  have y9 : h0.size ≤ q_6 := Nat.le_trans K0.1 gc6_q
  have F10 : Fld Z T6.heap a1 "com/example/libpundit/libpundit/core/IntList" "values" "[I" (.ref ar) := F_values_a1.keep Kc6 nin0
  have F11 : Fld Z T6.heap a1 "com/example/libpundit/libpundit/core/IntList" "size" "I" (.int (4 : Int32)) := F_size_a1.keep Kc6 nin0
  have E12 : Exa Z T6.heap a1 "com/example/libpundit/libpundit/core/IntList" := E_a1.keep Kc6
  have E13 : Exa Z T6.heap ar "[I" := E_ar.keep Kc6
  have A14 : Arv Z T6.heap ar kc .int (4 : Int32) [(.int el0), (.int el1), (.int el2), (.int el3)] (.int (0 : Int32)) := A_ar.keep Kc6 nin0
  have Z15 : n0 ≤ T6.heap.size := Nat.le_trans Z0 Kc6.1
  have K16 : Keep h0 T6.heap [a1] := K0.trans Kc6 all0
  have N6a := Fr.app N0 N6
  refine own_by st6 ?_
  show own_Go p e below (Qa4 Z a1 u ar kc el0 el1 el2 el3 h0 n0) (own_Fr s ({ frames := 2, cells := 1, slots := 8, locals := 64 } : Room).cells ({ frames := 2, cells := 1, slots := 8, locals := 64 } : Room).slots) (T6.setTop (mkF m 26 #[.val (.ref a1), .val (.int u)] [(.ref q_6), (.ref a1)]))
  obtain ⟨T17, h17, X17, e17, W17, st17⟩ := putF X6 hx hZ hown (host := "") (Or.inl (hw _ (List.mem_of_getElem? (i := 11) rfl))) Via.refl rfl F10 E12 (Or.inl (hw _ (List.mem_of_getElem? (i := 12) rfl))) (hw _ (List.mem_of_getElem? (i := 3) rfl)) (ty := (.array .int)) (by decide) rfl rfl (g := (mkF m 26 #[.val (.ref a1), .val (.int u)] [(.ref q_6), (.ref a1)])) rfl rfl (hb hby da0_26)
  have Fw17 : Fld Z h17 a1 "com/example/libpundit/libpundit/core/IntList" "values" "[I" (.ref q_6) := F10.same W17
  have F18 : Fld Z h17 a1 "com/example/libpundit/libpundit/core/IntList" "size" "I" (.int (4 : Int32)) := F11.other W17 (Or.inr (slot_ne (Or.inl (hw _ (List.mem_of_getElem? (i := 19) rfl))) (Or.inl (hw _ (List.mem_of_getElem? (i := 12) rfl))) (by decide) (t := .int) (by decide) (t' := (.array .int)) (by decide)))
  have E19 : Exa Z h17 a1 "com/example/libpundit/libpundit/core/IntList" := E12.wr W17
  have E20 : Exa Z h17 ar "[I" := E13.wr W17
  have E21 : Exa Z h17 q_6 "[I" := Ec6_q.wr W17
  have A22 : Arv Z h17 ar kc .int (4 : Int32) [(.int el0), (.int el1), (.int el2), (.int el3)] (.int (0 : Int32)) := A14.other W17 (Ne.symm ne_a1_ar)
  have A23 : Arv Z h17 q_6 kd_6 .int (8 : Int32) [(.int el0), (.int el1), (.int el2), (.int el3), (.int (0 : Int32)), (.int (0 : Int32)), (.int (0 : Int32)), (.int (0 : Int32))] (.int (0 : Int32)) := Ac6_q.other W17 (Ne.symm n7)
  have Z24 : n0 ≤ h17.size := Nat.le_trans Z15 (Nat.le_of_eq W17.size.symm)
  have N25 := Fr.snoc X17 N6a g_a1
  have K26 : Keep h0 h17 [a1] := K16.wr W17 (Or.inl (List.mem_of_getElem? (i := 0) rfl))
  refine own_by st17 ?_
  show own_Go p e below (Qa4 Z a1 u ar kc el0 el1 el2 el3 h0 n0) (own_Fr s ({ frames := 2, cells := 1, slots := 8, locals := 64 } : Room).cells ({ frames := 2, cells := 1, slots := 8, locals := 64 } : Room).slots) (T17.setTop (mkF m 29 #[.val (.ref a1), .val (.int u)] []))
  refine own_aloadN (pc' := 30) X17 hx rfl rfl (hb hby da0_29) rfl ?_
  obtain ⟨T27, X27, e27, st27⟩ := getF X17 hx hZ hown (host := "") (Or.inl (hw _ (List.mem_of_getElem? (i := 11) rfl))) Via.refl e17 Fw17 (g := (mkF m 30 #[.val (.ref a1), .val (.int u)] [(.ref a1)])) rfl rfl (hb hby da0_30)
  refine own_by st27 ?_
  show own_Go p e below (Qa4 Z a1 u ar kc el0 el1 el2 el3 h0 n0) (own_Fr s ({ frames := 2, cells := 1, slots := 8, locals := 64 } : Room).cells ({ frames := 2, cells := 1, slots := 8, locals := 64 } : Room).slots) (T27.setTop (mkF m 33 #[.val (.ref a1), .val (.int u)] [(.ref q_6)]))
  refine own_aloadN (pc' := 34) X27 hx rfl rfl (hb hby da0_33) rfl ?_
  refine own_dup (pc' := 35) X27 hx rfl (hb hby da0_34) rfl ?_
  obtain ⟨T28, X28, e28, st28⟩ := getF X27 hx hZ hown (host := "") (Or.inl (hw _ (List.mem_of_getElem? (i := 18) rfl))) Via.refl e27 F18 (g := (mkF m 35 #[.val (.ref a1), .val (.int u)] [(.ref a1), (.ref a1), (.ref q_6)])) rfl rfl (hb hby da0_35)
  refine own_by st28 ?_
  show own_Go p e below (Qa4 Z a1 u ar kc el0 el1 el2 el3 h0 n0) (own_Fr s ({ frames := 2, cells := 1, slots := 8, locals := 64 } : Room).cells ({ frames := 2, cells := 1, slots := 8, locals := 64 } : Room).slots) (T28.setTop (mkF m 38 #[.val (.ref a1), .val (.int u)] [(.int (4 : Int32)), (.ref a1), (.ref q_6)]))
  refine own_dupX1 (pc' := 39) X28 hx rfl rfl (hb hby da0_38) rfl ?_
  refine own_iconst (pc' := 40) X28 hx (1 : Int32) (by decide) (hb hby da0_39) rfl ?_
  refine own_iadd (pc' := 41) X28 hx (z := (5 : Int32)) (by decide) (hb hby da0_40) rfl ?_
  obtain ⟨T29, h29, X29, e29, W29, st29⟩ := putF X28 hx hZ hown (host := "") (Or.inl (hw _ (List.mem_of_getElem? (i := 18) rfl))) Via.refl e28 F18 E19 (Or.inl (hw _ (List.mem_of_getElem? (i := 19) rfl))) (hw _ (List.mem_of_getElem? (i := 3) rfl)) (ty := .int) (by decide) rfl rfl (g := (mkF m 41 #[.val (.ref a1), .val (.int u)] [(.int (5 : Int32)), (.ref a1), (.int (4 : Int32)), (.ref q_6)])) rfl rfl (hb hby da0_41)
  have Fw29 : Fld Z h29 a1 "com/example/libpundit/libpundit/core/IntList" "size" "I" (.int (5 : Int32)) := F18.same W29
  have F30 : Fld Z h29 a1 "com/example/libpundit/libpundit/core/IntList" "values" "[I" (.ref q_6) := Fw17.other W29 (Or.inr (slot_ne (Or.inl (hw _ (List.mem_of_getElem? (i := 12) rfl))) (Or.inl (hw _ (List.mem_of_getElem? (i := 19) rfl))) (by decide) (t := (.array .int)) (by decide) (t' := .int) (by decide)))
  have E31 : Exa Z h29 a1 "com/example/libpundit/libpundit/core/IntList" := E19.wr W29
  have E32 : Exa Z h29 ar "[I" := E20.wr W29
  have E33 : Exa Z h29 q_6 "[I" := E21.wr W29
  have A34 : Arv Z h29 ar kc .int (4 : Int32) [(.int el0), (.int el1), (.int el2), (.int el3)] (.int (0 : Int32)) := A22.other W29 (Ne.symm ne_a1_ar)
  have A35 : Arv Z h29 q_6 kd_6 .int (8 : Int32) [(.int el0), (.int el1), (.int el2), (.int el3), (.int (0 : Int32)), (.int (0 : Int32)), (.int (0 : Int32)), (.int (0 : Int32))] (.int (0 : Int32)) := A23.other W29 (Ne.symm n7)
  have Z36 : n0 ≤ h29.size := Nat.le_trans Z24 (Nat.le_of_eq W29.size.symm)
  have N37 := Fr.snoc X29 N25 g_a1
  have K38 : Keep h0 h29 [a1] := K26.wr W29 (Or.inl (List.mem_of_getElem? (i := 0) rfl))
  refine own_by st29 ?_
  show own_Go p e below (Qa4 Z a1 u ar kc el0 el1 el2 el3 h0 n0) (own_Fr s ({ frames := 2, cells := 1, slots := 8, locals := 64 } : Room).cells ({ frames := 2, cells := 1, slots := 8, locals := 64 } : Room).slots) (T29.setTop (mkF m 44 #[.val (.ref a1), .val (.int u)] [(.int (4 : Int32)), (.ref q_6)]))
  refine own_iloadN (pc' := 45) X29 hx rfl (hb hby da0_44) rfl ?_
  obtain ⟨c39, B39, q39, s39, u39, H39, G39⟩ := id A35
  obtain ⟨T39, h39, X39, e39, W39, st39⟩ := stI X29 hx hZ e29 B39 (j := (4 : Int32)) (x := u) (inb_of s39 (by decide)) (g := (mkF m 45 #[.val (.ref a1), .val (.int u)] [(.int u), (.int (4 : Int32)), (.ref q_6)])) rfl rfl (hb hby da0_45)
  have A39 : Arv Z h39 q_6 kd_6 .int (8 : Int32) [(.int el0), (.int el1), (.int el2), (.int el3), (.int u), (.int (0 : Int32)), (.int (0 : Int32)), (.int (0 : Int32))] (.int (0 : Int32)) := Arv.set B39 q39 s39 u39 H39 G39 rfl W39 4 (by decide) (by simp)
  have F40 : Fld Z h39 a1 "com/example/libpundit/libpundit/core/IntList" "values" "[I" (.ref q_6) := F30.other W39 (Or.inl n7)
  have F41 : Fld Z h39 a1 "com/example/libpundit/libpundit/core/IntList" "size" "I" (.int (5 : Int32)) := Fw29.other W39 (Or.inl n7)
  have E42 : Exa Z h39 a1 "com/example/libpundit/libpundit/core/IntList" := E31.wr W39
  have E43 : Exa Z h39 ar "[I" := E32.wr W39
  have E44 : Exa Z h39 q_6 "[I" := E33.wr W39
  have A45 : Arv Z h39 ar kc .int (4 : Int32) [(.int el0), (.int el1), (.int el2), (.int el3)] (.int (0 : Int32)) := A34.other W39 n8
  have Z46 : n0 ≤ h39.size := Nat.le_trans Z36 (Nat.le_of_eq W39.size.symm)
  have N47 := Fr.snoc X39 N37 frq_6
  have K48 : Keep h0 h39 [a1] := K38.wr W39 (Or.inr y9)
  refine own_by st39 ?_
  show own_Go p e below (Qa4 Z a1 u ar kc el0 el1 el2 el3 h0 n0) (own_Fr s ({ frames := 2, cells := 1, slots := 8, locals := 64 } : Room).cells ({ frames := 2, cells := 1, slots := 8, locals := 64 } : Room).slots) (T39.setTop (mkF m 46 #[.val (.ref a1), .val (.int u)] []))
  refine own_ret0 X39 hx Bd.returns Bd.notSynchronized (hb hby da0_46) rfl (by decide) (by decide) ?_
  show Qa4 Z a1 u ar kc el0 el1 el2 el3 h0 n0 _ T39.heap _
  rw [e39]
  exact ⟨q_6, kd_6, rfl, trivial, N47, K48, y9, E42, E44, F40, F41, A39⟩
theorem pd_4 : parseMethodDescriptor "(IILjava/util/function/BiFunction;)I" = some ⟨[.int, .int, .object "java/util/function/BiFunction"], some .int⟩ := by decide +kernel
theorem dp0_1_0 : decode jdk_41_method_11_code 0 = .ok (.iload_n 0, 1) := by decide +kernel
theorem dp0_1_1 : decode jdk_41_method_11_code 1 = .ok (.ifCond .lt 8, 3) := by decide +kernel
theorem dp0_1_4 : decode jdk_41_method_11_code 4 = .ok (.iload_n 0, 1) := by decide +kernel
theorem dp0_1_5 : decode jdk_41_method_11_code 5 = .ok (.iload_n 1, 1) := by decide +kernel
theorem dp0_1_6 : decode jdk_41_method_11_code 6 = .ok (.if_icmp .lt 10, 3) := by decide +kernel
theorem dp0_1_16 : decode jdk_41_method_11_code 16 = .ok (.iload_n 0, 1) := by decide +kernel
theorem dp0_1_17 : decode jdk_41_method_11_code 17 = .ok (.ireturn, 1) := by decide +kernel
theorem pn_2 : plainName "jdk/internal/util/Preconditions" = true := by first | (simp [plainName, overriddenIn]; done) | decide +kernel
theorem ef_p0_1 (m : MethodId)  : entryFrame m #[(.int (0 : Int32)), (.int (1 : Int32)), .null] 3 = mkF m 0 #[.val (.int (0 : Int32)), .val (.int (1 : Int32)), .val .null] [] := by first | (simp [entryFrame, mkF, argsToLocals, Value.category, maxLocals]; done) | rfl
def Qp0_1 (Z : State)  (h0 : Heap) (n0 : Nat) (v : Option Value) (h : Heap) (L : List Loc) : Prop := v = some (.int (0 : Int32)) ∧ (True) ∧ Fr n0 L ∧ h = h0
set_option maxRecDepth 65536 in
set_option maxHeartbeats 40000000 in
theorem rmp0_1 (l : Launch) (Z : State) (a0 : Array Value) (hw : ∀ d ∈ tables_1, d.before a0 Z = true) (ws : List Jvm.Cond)  (h0 : Heap) (n0 : Nat) (Z0 : n0 ≤ h0.size) :
    MetFree l (⟨"jdk/internal/util/Preconditions", "checkIndex", "(IILjava/util/function/BiFunction;)I"⟩ : MethodName) (head1 (Jvm.Cond.code (⟨"jdk/internal/util/Preconditions", "checkIndex", "(IILjava/util/function/BiFunction;)I"⟩ : MethodName) jdk_41_method_11_code 3 (some .int) :: ws) ({ frames := 0, cells := 0, slots := 0, locals := 0 } : Room)) (fun a U => a = #[(.int (0 : Int32)), (.int (1 : Int32)), .null] ∧ Z.Warmed39 U.vm ∧ U.heap = h0) (fun _ _ _ _ _ => True) (fun _ U o U' => ∃ v L, o = .returned v ∧ Qp0_1 Z  h0 n0 v U'.heap L ∧ FrameEnd U o U' L ({ frames := 0, cells := 0, slots := 0, locals := 0 } : Room).cells ({ frames := 0, cells := 0, slots := 0, locals := 0 } : Room).slots) := by
  refine MetFree.of_bodySF (plainFor_of_name pn_2) hisR ?_
  intro p e s m args below meth c s₁ Bd hml0 hP hK
  obtain ⟨rfl, hZ, hh⟩ := hP
  have hx := Bd.exec
  have hby := Bd.bytes
  have hml : c.maxLocals = 3 := hml0
  have hown : s.vm.findClass "jdk/internal/util/Preconditions" = some m.cls := findClass_of_methodNamed Bd.named
  have hnm := (name_of_methodNamed Bd.named Bd.method).1
  have X0 : Stand p l e ({ frames := 0, cells := 0, slots := 0, locals := 0 } : Room) s m #[(.int (0 : Int32)), (.int (1 : Int32)), .null] below meth c s₁ [] 0 0 := Stand.of_body Bd
  have e0 : s₁.heap = h0 := by rw [← hh, Bd.state]; rfl
  have N0 := Fr.nil n0
  change own_Go p e below (Qp0_1 Z  h0 n0) (own_Fr s ({ frames := 0, cells := 0, slots := 0, locals := 0 } : Room).cells ({ frames := 0, cells := 0, slots := 0, locals := 0 } : Room).slots) (s₁.setTop (entryFrame m #[(.int (0 : Int32)), (.int (1 : Int32)), .null] 3))
  rw [ef_p0_1 m ]
  refine own_iloadN (pc' := 1) X0 hx rfl (hb hby dp0_1_0) rfl ?_
  refine own_ifNo (pc' := 4) X0 hx (by decide) (hb hby dp0_1_1) rfl ?_
  refine own_iloadN (pc' := 5) X0 hx rfl (hb hby dp0_1_4) rfl ?_
  refine own_iloadN (pc' := 6) X0 hx rfl (hb hby dp0_1_5) rfl ?_
  refine own_icmpYes (pc' := 16) X0 hx (hb hby dp0_1_6) (by decide) (by decide) (by decide) ?_
  refine own_iloadN (pc' := 17) X0 hx rfl (hb hby dp0_1_16) rfl ?_
  refine own_ret X0 hx Bd.returns Bd.notSynchronized (Or.inl ⟨rfl, by simp, _, rfl⟩) (hb hby dp0_1_17) rfl (by decide) (by decide) ?_
  show Qp0_1 Z  h0 n0 _ s₁.heap _
  rw [e0]
  exact ⟨rfl, trivial, N0, rfl⟩
theorem ef_p0_2 (m : MethodId)  : entryFrame m #[(.int (0 : Int32)), (.int (2 : Int32)), .null] 3 = mkF m 0 #[.val (.int (0 : Int32)), .val (.int (2 : Int32)), .val .null] [] := by first | (simp [entryFrame, mkF, argsToLocals, Value.category, maxLocals]; done) | rfl
def Qp0_2 (Z : State)  (h0 : Heap) (n0 : Nat) (v : Option Value) (h : Heap) (L : List Loc) : Prop := v = some (.int (0 : Int32)) ∧ (True) ∧ Fr n0 L ∧ h = h0
set_option maxRecDepth 65536 in
set_option maxHeartbeats 40000000 in
theorem rmp0_2 (l : Launch) (Z : State) (a0 : Array Value) (hw : ∀ d ∈ tables_1, d.before a0 Z = true) (ws : List Jvm.Cond)  (h0 : Heap) (n0 : Nat) (Z0 : n0 ≤ h0.size) :
    MetFree l (⟨"jdk/internal/util/Preconditions", "checkIndex", "(IILjava/util/function/BiFunction;)I"⟩ : MethodName) (head1 (Jvm.Cond.code (⟨"jdk/internal/util/Preconditions", "checkIndex", "(IILjava/util/function/BiFunction;)I"⟩ : MethodName) jdk_41_method_11_code 3 (some .int) :: ws) ({ frames := 0, cells := 0, slots := 0, locals := 0 } : Room)) (fun a U => a = #[(.int (0 : Int32)), (.int (2 : Int32)), .null] ∧ Z.Warmed39 U.vm ∧ U.heap = h0) (fun _ _ _ _ _ => True) (fun _ U o U' => ∃ v L, o = .returned v ∧ Qp0_2 Z  h0 n0 v U'.heap L ∧ FrameEnd U o U' L ({ frames := 0, cells := 0, slots := 0, locals := 0 } : Room).cells ({ frames := 0, cells := 0, slots := 0, locals := 0 } : Room).slots) := by
  refine MetFree.of_bodySF (plainFor_of_name pn_2) hisR ?_
  intro p e s m args below meth c s₁ Bd hml0 hP hK
  obtain ⟨rfl, hZ, hh⟩ := hP
  have hx := Bd.exec
  have hby := Bd.bytes
  have hml : c.maxLocals = 3 := hml0
  have hown : s.vm.findClass "jdk/internal/util/Preconditions" = some m.cls := findClass_of_methodNamed Bd.named
  have hnm := (name_of_methodNamed Bd.named Bd.method).1
  have X0 : Stand p l e ({ frames := 0, cells := 0, slots := 0, locals := 0 } : Room) s m #[(.int (0 : Int32)), (.int (2 : Int32)), .null] below meth c s₁ [] 0 0 := Stand.of_body Bd
  have e0 : s₁.heap = h0 := by rw [← hh, Bd.state]; rfl
  have N0 := Fr.nil n0
  change own_Go p e below (Qp0_2 Z  h0 n0) (own_Fr s ({ frames := 0, cells := 0, slots := 0, locals := 0 } : Room).cells ({ frames := 0, cells := 0, slots := 0, locals := 0 } : Room).slots) (s₁.setTop (entryFrame m #[(.int (0 : Int32)), (.int (2 : Int32)), .null] 3))
  rw [ef_p0_2 m ]
  refine own_iloadN (pc' := 1) X0 hx rfl (hb hby dp0_1_0) rfl ?_
  refine own_ifNo (pc' := 4) X0 hx (by decide) (hb hby dp0_1_1) rfl ?_
  refine own_iloadN (pc' := 5) X0 hx rfl (hb hby dp0_1_4) rfl ?_
  refine own_iloadN (pc' := 6) X0 hx rfl (hb hby dp0_1_5) rfl ?_
  refine own_icmpYes (pc' := 16) X0 hx (hb hby dp0_1_6) (by decide) (by decide) (by decide) ?_
  refine own_iloadN (pc' := 17) X0 hx rfl (hb hby dp0_1_16) rfl ?_
  refine own_ret X0 hx Bd.returns Bd.notSynchronized (Or.inl ⟨rfl, by simp, _, rfl⟩) (hb hby dp0_1_17) rfl (by decide) (by decide) ?_
  show Qp0_2 Z  h0 n0 _ s₁.heap _
  rw [e0]
  exact ⟨rfl, trivial, N0, rfl⟩
theorem ef_p1_2 (m : MethodId)  : entryFrame m #[(.int (1 : Int32)), (.int (2 : Int32)), .null] 3 = mkF m 0 #[.val (.int (1 : Int32)), .val (.int (2 : Int32)), .val .null] [] := by first | (simp [entryFrame, mkF, argsToLocals, Value.category, maxLocals]; done) | rfl
def Qp1_2 (Z : State)  (h0 : Heap) (n0 : Nat) (v : Option Value) (h : Heap) (L : List Loc) : Prop := v = some (.int (1 : Int32)) ∧ (True) ∧ Fr n0 L ∧ h = h0
set_option maxRecDepth 65536 in
set_option maxHeartbeats 40000000 in
theorem rmp1_2 (l : Launch) (Z : State) (a0 : Array Value) (hw : ∀ d ∈ tables_1, d.before a0 Z = true) (ws : List Jvm.Cond)  (h0 : Heap) (n0 : Nat) (Z0 : n0 ≤ h0.size) :
    MetFree l (⟨"jdk/internal/util/Preconditions", "checkIndex", "(IILjava/util/function/BiFunction;)I"⟩ : MethodName) (head1 (Jvm.Cond.code (⟨"jdk/internal/util/Preconditions", "checkIndex", "(IILjava/util/function/BiFunction;)I"⟩ : MethodName) jdk_41_method_11_code 3 (some .int) :: ws) ({ frames := 0, cells := 0, slots := 0, locals := 0 } : Room)) (fun a U => a = #[(.int (1 : Int32)), (.int (2 : Int32)), .null] ∧ Z.Warmed39 U.vm ∧ U.heap = h0) (fun _ _ _ _ _ => True) (fun _ U o U' => ∃ v L, o = .returned v ∧ Qp1_2 Z  h0 n0 v U'.heap L ∧ FrameEnd U o U' L ({ frames := 0, cells := 0, slots := 0, locals := 0 } : Room).cells ({ frames := 0, cells := 0, slots := 0, locals := 0 } : Room).slots) := by
  refine MetFree.of_bodySF (plainFor_of_name pn_2) hisR ?_
  intro p e s m args below meth c s₁ Bd hml0 hP hK
  obtain ⟨rfl, hZ, hh⟩ := hP
  have hx := Bd.exec
  have hby := Bd.bytes
  have hml : c.maxLocals = 3 := hml0
  have hown : s.vm.findClass "jdk/internal/util/Preconditions" = some m.cls := findClass_of_methodNamed Bd.named
  have hnm := (name_of_methodNamed Bd.named Bd.method).1
  have X0 : Stand p l e ({ frames := 0, cells := 0, slots := 0, locals := 0 } : Room) s m #[(.int (1 : Int32)), (.int (2 : Int32)), .null] below meth c s₁ [] 0 0 := Stand.of_body Bd
  have e0 : s₁.heap = h0 := by rw [← hh, Bd.state]; rfl
  have N0 := Fr.nil n0
  change own_Go p e below (Qp1_2 Z  h0 n0) (own_Fr s ({ frames := 0, cells := 0, slots := 0, locals := 0 } : Room).cells ({ frames := 0, cells := 0, slots := 0, locals := 0 } : Room).slots) (s₁.setTop (entryFrame m #[(.int (1 : Int32)), (.int (2 : Int32)), .null] 3))
  rw [ef_p1_2 m ]
  refine own_iloadN (pc' := 1) X0 hx rfl (hb hby dp0_1_0) rfl ?_
  refine own_ifNo (pc' := 4) X0 hx (by decide) (hb hby dp0_1_1) rfl ?_
  refine own_iloadN (pc' := 5) X0 hx rfl (hb hby dp0_1_4) rfl ?_
  refine own_iloadN (pc' := 6) X0 hx rfl (hb hby dp0_1_5) rfl ?_
  refine own_icmpYes (pc' := 16) X0 hx (hb hby dp0_1_6) (by decide) (by decide) (by decide) ?_
  refine own_iloadN (pc' := 17) X0 hx rfl (hb hby dp0_1_16) rfl ?_
  refine own_ret X0 hx Bd.returns Bd.notSynchronized (Or.inl ⟨rfl, by simp, _, rfl⟩) (hb hby dp0_1_17) rfl (by decide) (by decide) ?_
  show Qp1_2 Z  h0 n0 _ s₁.heap _
  rw [e0]
  exact ⟨rfl, trivial, N0, rfl⟩
theorem ef_p0_3 (m : MethodId)  : entryFrame m #[(.int (0 : Int32)), (.int (3 : Int32)), .null] 3 = mkF m 0 #[.val (.int (0 : Int32)), .val (.int (3 : Int32)), .val .null] [] := by first | (simp [entryFrame, mkF, argsToLocals, Value.category, maxLocals]; done) | rfl
def Qp0_3 (Z : State)  (h0 : Heap) (n0 : Nat) (v : Option Value) (h : Heap) (L : List Loc) : Prop := v = some (.int (0 : Int32)) ∧ (True) ∧ Fr n0 L ∧ h = h0
set_option maxRecDepth 65536 in
set_option maxHeartbeats 40000000 in
theorem rmp0_3 (l : Launch) (Z : State) (a0 : Array Value) (hw : ∀ d ∈ tables_1, d.before a0 Z = true) (ws : List Jvm.Cond)  (h0 : Heap) (n0 : Nat) (Z0 : n0 ≤ h0.size) :
    MetFree l (⟨"jdk/internal/util/Preconditions", "checkIndex", "(IILjava/util/function/BiFunction;)I"⟩ : MethodName) (head1 (Jvm.Cond.code (⟨"jdk/internal/util/Preconditions", "checkIndex", "(IILjava/util/function/BiFunction;)I"⟩ : MethodName) jdk_41_method_11_code 3 (some .int) :: ws) ({ frames := 0, cells := 0, slots := 0, locals := 0 } : Room)) (fun a U => a = #[(.int (0 : Int32)), (.int (3 : Int32)), .null] ∧ Z.Warmed39 U.vm ∧ U.heap = h0) (fun _ _ _ _ _ => True) (fun _ U o U' => ∃ v L, o = .returned v ∧ Qp0_3 Z  h0 n0 v U'.heap L ∧ FrameEnd U o U' L ({ frames := 0, cells := 0, slots := 0, locals := 0 } : Room).cells ({ frames := 0, cells := 0, slots := 0, locals := 0 } : Room).slots) := by
  refine MetFree.of_bodySF (plainFor_of_name pn_2) hisR ?_
  intro p e s m args below meth c s₁ Bd hml0 hP hK
  obtain ⟨rfl, hZ, hh⟩ := hP
  have hx := Bd.exec
  have hby := Bd.bytes
  have hml : c.maxLocals = 3 := hml0
  have hown : s.vm.findClass "jdk/internal/util/Preconditions" = some m.cls := findClass_of_methodNamed Bd.named
  have hnm := (name_of_methodNamed Bd.named Bd.method).1
  have X0 : Stand p l e ({ frames := 0, cells := 0, slots := 0, locals := 0 } : Room) s m #[(.int (0 : Int32)), (.int (3 : Int32)), .null] below meth c s₁ [] 0 0 := Stand.of_body Bd
  have e0 : s₁.heap = h0 := by rw [← hh, Bd.state]; rfl
  have N0 := Fr.nil n0
  change own_Go p e below (Qp0_3 Z  h0 n0) (own_Fr s ({ frames := 0, cells := 0, slots := 0, locals := 0 } : Room).cells ({ frames := 0, cells := 0, slots := 0, locals := 0 } : Room).slots) (s₁.setTop (entryFrame m #[(.int (0 : Int32)), (.int (3 : Int32)), .null] 3))
  rw [ef_p0_3 m ]
  refine own_iloadN (pc' := 1) X0 hx rfl (hb hby dp0_1_0) rfl ?_
  refine own_ifNo (pc' := 4) X0 hx (by decide) (hb hby dp0_1_1) rfl ?_
  refine own_iloadN (pc' := 5) X0 hx rfl (hb hby dp0_1_4) rfl ?_
  refine own_iloadN (pc' := 6) X0 hx rfl (hb hby dp0_1_5) rfl ?_
  refine own_icmpYes (pc' := 16) X0 hx (hb hby dp0_1_6) (by decide) (by decide) (by decide) ?_
  refine own_iloadN (pc' := 17) X0 hx rfl (hb hby dp0_1_16) rfl ?_
  refine own_ret X0 hx Bd.returns Bd.notSynchronized (Or.inl ⟨rfl, by simp, _, rfl⟩) (hb hby dp0_1_17) rfl (by decide) (by decide) ?_
  show Qp0_3 Z  h0 n0 _ s₁.heap _
  rw [e0]
  exact ⟨rfl, trivial, N0, rfl⟩
theorem ef_p1_3 (m : MethodId)  : entryFrame m #[(.int (1 : Int32)), (.int (3 : Int32)), .null] 3 = mkF m 0 #[.val (.int (1 : Int32)), .val (.int (3 : Int32)), .val .null] [] := by first | (simp [entryFrame, mkF, argsToLocals, Value.category, maxLocals]; done) | rfl
def Qp1_3 (Z : State)  (h0 : Heap) (n0 : Nat) (v : Option Value) (h : Heap) (L : List Loc) : Prop := v = some (.int (1 : Int32)) ∧ (True) ∧ Fr n0 L ∧ h = h0
set_option maxRecDepth 65536 in
set_option maxHeartbeats 40000000 in
theorem rmp1_3 (l : Launch) (Z : State) (a0 : Array Value) (hw : ∀ d ∈ tables_1, d.before a0 Z = true) (ws : List Jvm.Cond)  (h0 : Heap) (n0 : Nat) (Z0 : n0 ≤ h0.size) :
    MetFree l (⟨"jdk/internal/util/Preconditions", "checkIndex", "(IILjava/util/function/BiFunction;)I"⟩ : MethodName) (head1 (Jvm.Cond.code (⟨"jdk/internal/util/Preconditions", "checkIndex", "(IILjava/util/function/BiFunction;)I"⟩ : MethodName) jdk_41_method_11_code 3 (some .int) :: ws) ({ frames := 0, cells := 0, slots := 0, locals := 0 } : Room)) (fun a U => a = #[(.int (1 : Int32)), (.int (3 : Int32)), .null] ∧ Z.Warmed39 U.vm ∧ U.heap = h0) (fun _ _ _ _ _ => True) (fun _ U o U' => ∃ v L, o = .returned v ∧ Qp1_3 Z  h0 n0 v U'.heap L ∧ FrameEnd U o U' L ({ frames := 0, cells := 0, slots := 0, locals := 0 } : Room).cells ({ frames := 0, cells := 0, slots := 0, locals := 0 } : Room).slots) := by
  refine MetFree.of_bodySF (plainFor_of_name pn_2) hisR ?_
  intro p e s m args below meth c s₁ Bd hml0 hP hK
  obtain ⟨rfl, hZ, hh⟩ := hP
  have hx := Bd.exec
  have hby := Bd.bytes
  have hml : c.maxLocals = 3 := hml0
  have hown : s.vm.findClass "jdk/internal/util/Preconditions" = some m.cls := findClass_of_methodNamed Bd.named
  have hnm := (name_of_methodNamed Bd.named Bd.method).1
  have X0 : Stand p l e ({ frames := 0, cells := 0, slots := 0, locals := 0 } : Room) s m #[(.int (1 : Int32)), (.int (3 : Int32)), .null] below meth c s₁ [] 0 0 := Stand.of_body Bd
  have e0 : s₁.heap = h0 := by rw [← hh, Bd.state]; rfl
  have N0 := Fr.nil n0
  change own_Go p e below (Qp1_3 Z  h0 n0) (own_Fr s ({ frames := 0, cells := 0, slots := 0, locals := 0 } : Room).cells ({ frames := 0, cells := 0, slots := 0, locals := 0 } : Room).slots) (s₁.setTop (entryFrame m #[(.int (1 : Int32)), (.int (3 : Int32)), .null] 3))
  rw [ef_p1_3 m ]
  refine own_iloadN (pc' := 1) X0 hx rfl (hb hby dp0_1_0) rfl ?_
  refine own_ifNo (pc' := 4) X0 hx (by decide) (hb hby dp0_1_1) rfl ?_
  refine own_iloadN (pc' := 5) X0 hx rfl (hb hby dp0_1_4) rfl ?_
  refine own_iloadN (pc' := 6) X0 hx rfl (hb hby dp0_1_5) rfl ?_
  refine own_icmpYes (pc' := 16) X0 hx (hb hby dp0_1_6) (by decide) (by decide) (by decide) ?_
  refine own_iloadN (pc' := 17) X0 hx rfl (hb hby dp0_1_16) rfl ?_
  refine own_ret X0 hx Bd.returns Bd.notSynchronized (Or.inl ⟨rfl, by simp, _, rfl⟩) (hb hby dp0_1_17) rfl (by decide) (by decide) ?_
  show Qp1_3 Z  h0 n0 _ s₁.heap _
  rw [e0]
  exact ⟨rfl, trivial, N0, rfl⟩
theorem ef_p2_3 (m : MethodId)  : entryFrame m #[(.int (2 : Int32)), (.int (3 : Int32)), .null] 3 = mkF m 0 #[.val (.int (2 : Int32)), .val (.int (3 : Int32)), .val .null] [] := by first | (simp [entryFrame, mkF, argsToLocals, Value.category, maxLocals]; done) | rfl
def Qp2_3 (Z : State)  (h0 : Heap) (n0 : Nat) (v : Option Value) (h : Heap) (L : List Loc) : Prop := v = some (.int (2 : Int32)) ∧ (True) ∧ Fr n0 L ∧ h = h0
set_option maxRecDepth 65536 in
set_option maxHeartbeats 40000000 in
theorem rmp2_3 (l : Launch) (Z : State) (a0 : Array Value) (hw : ∀ d ∈ tables_1, d.before a0 Z = true) (ws : List Jvm.Cond)  (h0 : Heap) (n0 : Nat) (Z0 : n0 ≤ h0.size) :
    MetFree l (⟨"jdk/internal/util/Preconditions", "checkIndex", "(IILjava/util/function/BiFunction;)I"⟩ : MethodName) (head1 (Jvm.Cond.code (⟨"jdk/internal/util/Preconditions", "checkIndex", "(IILjava/util/function/BiFunction;)I"⟩ : MethodName) jdk_41_method_11_code 3 (some .int) :: ws) ({ frames := 0, cells := 0, slots := 0, locals := 0 } : Room)) (fun a U => a = #[(.int (2 : Int32)), (.int (3 : Int32)), .null] ∧ Z.Warmed39 U.vm ∧ U.heap = h0) (fun _ _ _ _ _ => True) (fun _ U o U' => ∃ v L, o = .returned v ∧ Qp2_3 Z  h0 n0 v U'.heap L ∧ FrameEnd U o U' L ({ frames := 0, cells := 0, slots := 0, locals := 0 } : Room).cells ({ frames := 0, cells := 0, slots := 0, locals := 0 } : Room).slots) := by
  refine MetFree.of_bodySF (plainFor_of_name pn_2) hisR ?_
  intro p e s m args below meth c s₁ Bd hml0 hP hK
  obtain ⟨rfl, hZ, hh⟩ := hP
  have hx := Bd.exec
  have hby := Bd.bytes
  have hml : c.maxLocals = 3 := hml0
  have hown : s.vm.findClass "jdk/internal/util/Preconditions" = some m.cls := findClass_of_methodNamed Bd.named
  have hnm := (name_of_methodNamed Bd.named Bd.method).1
  have X0 : Stand p l e ({ frames := 0, cells := 0, slots := 0, locals := 0 } : Room) s m #[(.int (2 : Int32)), (.int (3 : Int32)), .null] below meth c s₁ [] 0 0 := Stand.of_body Bd
  have e0 : s₁.heap = h0 := by rw [← hh, Bd.state]; rfl
  have N0 := Fr.nil n0
  change own_Go p e below (Qp2_3 Z  h0 n0) (own_Fr s ({ frames := 0, cells := 0, slots := 0, locals := 0 } : Room).cells ({ frames := 0, cells := 0, slots := 0, locals := 0 } : Room).slots) (s₁.setTop (entryFrame m #[(.int (2 : Int32)), (.int (3 : Int32)), .null] 3))
  rw [ef_p2_3 m ]
  refine own_iloadN (pc' := 1) X0 hx rfl (hb hby dp0_1_0) rfl ?_
  refine own_ifNo (pc' := 4) X0 hx (by decide) (hb hby dp0_1_1) rfl ?_
  refine own_iloadN (pc' := 5) X0 hx rfl (hb hby dp0_1_4) rfl ?_
  refine own_iloadN (pc' := 6) X0 hx rfl (hb hby dp0_1_5) rfl ?_
  refine own_icmpYes (pc' := 16) X0 hx (hb hby dp0_1_6) (by decide) (by decide) (by decide) ?_
  refine own_iloadN (pc' := 17) X0 hx rfl (hb hby dp0_1_16) rfl ?_
  refine own_ret X0 hx Bd.returns Bd.notSynchronized (Or.inl ⟨rfl, by simp, _, rfl⟩) (hb hby dp0_1_17) rfl (by decide) (by decide) ?_
  show Qp2_3 Z  h0 n0 _ s₁.heap _
  rw [e0]
  exact ⟨rfl, trivial, N0, rfl⟩
theorem ef_p0_4 (m : MethodId)  : entryFrame m #[(.int (0 : Int32)), (.int (4 : Int32)), .null] 3 = mkF m 0 #[.val (.int (0 : Int32)), .val (.int (4 : Int32)), .val .null] [] := by first | (simp [entryFrame, mkF, argsToLocals, Value.category, maxLocals]; done) | rfl
def Qp0_4 (Z : State)  (h0 : Heap) (n0 : Nat) (v : Option Value) (h : Heap) (L : List Loc) : Prop := v = some (.int (0 : Int32)) ∧ (True) ∧ Fr n0 L ∧ h = h0
set_option maxRecDepth 65536 in
set_option maxHeartbeats 40000000 in
theorem rmp0_4 (l : Launch) (Z : State) (a0 : Array Value) (hw : ∀ d ∈ tables_1, d.before a0 Z = true) (ws : List Jvm.Cond)  (h0 : Heap) (n0 : Nat) (Z0 : n0 ≤ h0.size) :
    MetFree l (⟨"jdk/internal/util/Preconditions", "checkIndex", "(IILjava/util/function/BiFunction;)I"⟩ : MethodName) (head1 (Jvm.Cond.code (⟨"jdk/internal/util/Preconditions", "checkIndex", "(IILjava/util/function/BiFunction;)I"⟩ : MethodName) jdk_41_method_11_code 3 (some .int) :: ws) ({ frames := 0, cells := 0, slots := 0, locals := 0 } : Room)) (fun a U => a = #[(.int (0 : Int32)), (.int (4 : Int32)), .null] ∧ Z.Warmed39 U.vm ∧ U.heap = h0) (fun _ _ _ _ _ => True) (fun _ U o U' => ∃ v L, o = .returned v ∧ Qp0_4 Z  h0 n0 v U'.heap L ∧ FrameEnd U o U' L ({ frames := 0, cells := 0, slots := 0, locals := 0 } : Room).cells ({ frames := 0, cells := 0, slots := 0, locals := 0 } : Room).slots) := by
  refine MetFree.of_bodySF (plainFor_of_name pn_2) hisR ?_
  intro p e s m args below meth c s₁ Bd hml0 hP hK
  obtain ⟨rfl, hZ, hh⟩ := hP
  have hx := Bd.exec
  have hby := Bd.bytes
  have hml : c.maxLocals = 3 := hml0
  have hown : s.vm.findClass "jdk/internal/util/Preconditions" = some m.cls := findClass_of_methodNamed Bd.named
  have hnm := (name_of_methodNamed Bd.named Bd.method).1
  have X0 : Stand p l e ({ frames := 0, cells := 0, slots := 0, locals := 0 } : Room) s m #[(.int (0 : Int32)), (.int (4 : Int32)), .null] below meth c s₁ [] 0 0 := Stand.of_body Bd
  have e0 : s₁.heap = h0 := by rw [← hh, Bd.state]; rfl
  have N0 := Fr.nil n0
  change own_Go p e below (Qp0_4 Z  h0 n0) (own_Fr s ({ frames := 0, cells := 0, slots := 0, locals := 0 } : Room).cells ({ frames := 0, cells := 0, slots := 0, locals := 0 } : Room).slots) (s₁.setTop (entryFrame m #[(.int (0 : Int32)), (.int (4 : Int32)), .null] 3))
  rw [ef_p0_4 m ]
  refine own_iloadN (pc' := 1) X0 hx rfl (hb hby dp0_1_0) rfl ?_
  refine own_ifNo (pc' := 4) X0 hx (by decide) (hb hby dp0_1_1) rfl ?_
  refine own_iloadN (pc' := 5) X0 hx rfl (hb hby dp0_1_4) rfl ?_
  refine own_iloadN (pc' := 6) X0 hx rfl (hb hby dp0_1_5) rfl ?_
  refine own_icmpYes (pc' := 16) X0 hx (hb hby dp0_1_6) (by decide) (by decide) (by decide) ?_
  refine own_iloadN (pc' := 17) X0 hx rfl (hb hby dp0_1_16) rfl ?_
  refine own_ret X0 hx Bd.returns Bd.notSynchronized (Or.inl ⟨rfl, by simp, _, rfl⟩) (hb hby dp0_1_17) rfl (by decide) (by decide) ?_
  show Qp0_4 Z  h0 n0 _ s₁.heap _
  rw [e0]
  exact ⟨rfl, trivial, N0, rfl⟩
theorem ef_p1_4 (m : MethodId)  : entryFrame m #[(.int (1 : Int32)), (.int (4 : Int32)), .null] 3 = mkF m 0 #[.val (.int (1 : Int32)), .val (.int (4 : Int32)), .val .null] [] := by first | (simp [entryFrame, mkF, argsToLocals, Value.category, maxLocals]; done) | rfl
def Qp1_4 (Z : State)  (h0 : Heap) (n0 : Nat) (v : Option Value) (h : Heap) (L : List Loc) : Prop := v = some (.int (1 : Int32)) ∧ (True) ∧ Fr n0 L ∧ h = h0
set_option maxRecDepth 65536 in
set_option maxHeartbeats 40000000 in
theorem rmp1_4 (l : Launch) (Z : State) (a0 : Array Value) (hw : ∀ d ∈ tables_1, d.before a0 Z = true) (ws : List Jvm.Cond)  (h0 : Heap) (n0 : Nat) (Z0 : n0 ≤ h0.size) :
    MetFree l (⟨"jdk/internal/util/Preconditions", "checkIndex", "(IILjava/util/function/BiFunction;)I"⟩ : MethodName) (head1 (Jvm.Cond.code (⟨"jdk/internal/util/Preconditions", "checkIndex", "(IILjava/util/function/BiFunction;)I"⟩ : MethodName) jdk_41_method_11_code 3 (some .int) :: ws) ({ frames := 0, cells := 0, slots := 0, locals := 0 } : Room)) (fun a U => a = #[(.int (1 : Int32)), (.int (4 : Int32)), .null] ∧ Z.Warmed39 U.vm ∧ U.heap = h0) (fun _ _ _ _ _ => True) (fun _ U o U' => ∃ v L, o = .returned v ∧ Qp1_4 Z  h0 n0 v U'.heap L ∧ FrameEnd U o U' L ({ frames := 0, cells := 0, slots := 0, locals := 0 } : Room).cells ({ frames := 0, cells := 0, slots := 0, locals := 0 } : Room).slots) := by
  refine MetFree.of_bodySF (plainFor_of_name pn_2) hisR ?_
  intro p e s m args below meth c s₁ Bd hml0 hP hK
  obtain ⟨rfl, hZ, hh⟩ := hP
  have hx := Bd.exec
  have hby := Bd.bytes
  have hml : c.maxLocals = 3 := hml0
  have hown : s.vm.findClass "jdk/internal/util/Preconditions" = some m.cls := findClass_of_methodNamed Bd.named
  have hnm := (name_of_methodNamed Bd.named Bd.method).1
  have X0 : Stand p l e ({ frames := 0, cells := 0, slots := 0, locals := 0 } : Room) s m #[(.int (1 : Int32)), (.int (4 : Int32)), .null] below meth c s₁ [] 0 0 := Stand.of_body Bd
  have e0 : s₁.heap = h0 := by rw [← hh, Bd.state]; rfl
  have N0 := Fr.nil n0
  change own_Go p e below (Qp1_4 Z  h0 n0) (own_Fr s ({ frames := 0, cells := 0, slots := 0, locals := 0 } : Room).cells ({ frames := 0, cells := 0, slots := 0, locals := 0 } : Room).slots) (s₁.setTop (entryFrame m #[(.int (1 : Int32)), (.int (4 : Int32)), .null] 3))
  rw [ef_p1_4 m ]
  refine own_iloadN (pc' := 1) X0 hx rfl (hb hby dp0_1_0) rfl ?_
  refine own_ifNo (pc' := 4) X0 hx (by decide) (hb hby dp0_1_1) rfl ?_
  refine own_iloadN (pc' := 5) X0 hx rfl (hb hby dp0_1_4) rfl ?_
  refine own_iloadN (pc' := 6) X0 hx rfl (hb hby dp0_1_5) rfl ?_
  refine own_icmpYes (pc' := 16) X0 hx (hb hby dp0_1_6) (by decide) (by decide) (by decide) ?_
  refine own_iloadN (pc' := 17) X0 hx rfl (hb hby dp0_1_16) rfl ?_
  refine own_ret X0 hx Bd.returns Bd.notSynchronized (Or.inl ⟨rfl, by simp, _, rfl⟩) (hb hby dp0_1_17) rfl (by decide) (by decide) ?_
  show Qp1_4 Z  h0 n0 _ s₁.heap _
  rw [e0]
  exact ⟨rfl, trivial, N0, rfl⟩
theorem ef_p2_4 (m : MethodId)  : entryFrame m #[(.int (2 : Int32)), (.int (4 : Int32)), .null] 3 = mkF m 0 #[.val (.int (2 : Int32)), .val (.int (4 : Int32)), .val .null] [] := by first | (simp [entryFrame, mkF, argsToLocals, Value.category, maxLocals]; done) | rfl
def Qp2_4 (Z : State)  (h0 : Heap) (n0 : Nat) (v : Option Value) (h : Heap) (L : List Loc) : Prop := v = some (.int (2 : Int32)) ∧ (True) ∧ Fr n0 L ∧ h = h0
set_option maxRecDepth 65536 in
set_option maxHeartbeats 40000000 in
theorem rmp2_4 (l : Launch) (Z : State) (a0 : Array Value) (hw : ∀ d ∈ tables_1, d.before a0 Z = true) (ws : List Jvm.Cond)  (h0 : Heap) (n0 : Nat) (Z0 : n0 ≤ h0.size) :
    MetFree l (⟨"jdk/internal/util/Preconditions", "checkIndex", "(IILjava/util/function/BiFunction;)I"⟩ : MethodName) (head1 (Jvm.Cond.code (⟨"jdk/internal/util/Preconditions", "checkIndex", "(IILjava/util/function/BiFunction;)I"⟩ : MethodName) jdk_41_method_11_code 3 (some .int) :: ws) ({ frames := 0, cells := 0, slots := 0, locals := 0 } : Room)) (fun a U => a = #[(.int (2 : Int32)), (.int (4 : Int32)), .null] ∧ Z.Warmed39 U.vm ∧ U.heap = h0) (fun _ _ _ _ _ => True) (fun _ U o U' => ∃ v L, o = .returned v ∧ Qp2_4 Z  h0 n0 v U'.heap L ∧ FrameEnd U o U' L ({ frames := 0, cells := 0, slots := 0, locals := 0 } : Room).cells ({ frames := 0, cells := 0, slots := 0, locals := 0 } : Room).slots) := by
  refine MetFree.of_bodySF (plainFor_of_name pn_2) hisR ?_
  intro p e s m args below meth c s₁ Bd hml0 hP hK
  obtain ⟨rfl, hZ, hh⟩ := hP
  have hx := Bd.exec
  have hby := Bd.bytes
  have hml : c.maxLocals = 3 := hml0
  have hown : s.vm.findClass "jdk/internal/util/Preconditions" = some m.cls := findClass_of_methodNamed Bd.named
  have hnm := (name_of_methodNamed Bd.named Bd.method).1
  have X0 : Stand p l e ({ frames := 0, cells := 0, slots := 0, locals := 0 } : Room) s m #[(.int (2 : Int32)), (.int (4 : Int32)), .null] below meth c s₁ [] 0 0 := Stand.of_body Bd
  have e0 : s₁.heap = h0 := by rw [← hh, Bd.state]; rfl
  have N0 := Fr.nil n0
  change own_Go p e below (Qp2_4 Z  h0 n0) (own_Fr s ({ frames := 0, cells := 0, slots := 0, locals := 0 } : Room).cells ({ frames := 0, cells := 0, slots := 0, locals := 0 } : Room).slots) (s₁.setTop (entryFrame m #[(.int (2 : Int32)), (.int (4 : Int32)), .null] 3))
  rw [ef_p2_4 m ]
  refine own_iloadN (pc' := 1) X0 hx rfl (hb hby dp0_1_0) rfl ?_
  refine own_ifNo (pc' := 4) X0 hx (by decide) (hb hby dp0_1_1) rfl ?_
  refine own_iloadN (pc' := 5) X0 hx rfl (hb hby dp0_1_4) rfl ?_
  refine own_iloadN (pc' := 6) X0 hx rfl (hb hby dp0_1_5) rfl ?_
  refine own_icmpYes (pc' := 16) X0 hx (hb hby dp0_1_6) (by decide) (by decide) (by decide) ?_
  refine own_iloadN (pc' := 17) X0 hx rfl (hb hby dp0_1_16) rfl ?_
  refine own_ret X0 hx Bd.returns Bd.notSynchronized (Or.inl ⟨rfl, by simp, _, rfl⟩) (hb hby dp0_1_17) rfl (by decide) (by decide) ?_
  show Qp2_4 Z  h0 n0 _ s₁.heap _
  rw [e0]
  exact ⟨rfl, trivial, N0, rfl⟩
theorem ef_p3_4 (m : MethodId)  : entryFrame m #[(.int (3 : Int32)), (.int (4 : Int32)), .null] 3 = mkF m 0 #[.val (.int (3 : Int32)), .val (.int (4 : Int32)), .val .null] [] := by first | (simp [entryFrame, mkF, argsToLocals, Value.category, maxLocals]; done) | rfl
def Qp3_4 (Z : State)  (h0 : Heap) (n0 : Nat) (v : Option Value) (h : Heap) (L : List Loc) : Prop := v = some (.int (3 : Int32)) ∧ (True) ∧ Fr n0 L ∧ h = h0
set_option maxRecDepth 65536 in
set_option maxHeartbeats 40000000 in
theorem rmp3_4 (l : Launch) (Z : State) (a0 : Array Value) (hw : ∀ d ∈ tables_1, d.before a0 Z = true) (ws : List Jvm.Cond)  (h0 : Heap) (n0 : Nat) (Z0 : n0 ≤ h0.size) :
    MetFree l (⟨"jdk/internal/util/Preconditions", "checkIndex", "(IILjava/util/function/BiFunction;)I"⟩ : MethodName) (head1 (Jvm.Cond.code (⟨"jdk/internal/util/Preconditions", "checkIndex", "(IILjava/util/function/BiFunction;)I"⟩ : MethodName) jdk_41_method_11_code 3 (some .int) :: ws) ({ frames := 0, cells := 0, slots := 0, locals := 0 } : Room)) (fun a U => a = #[(.int (3 : Int32)), (.int (4 : Int32)), .null] ∧ Z.Warmed39 U.vm ∧ U.heap = h0) (fun _ _ _ _ _ => True) (fun _ U o U' => ∃ v L, o = .returned v ∧ Qp3_4 Z  h0 n0 v U'.heap L ∧ FrameEnd U o U' L ({ frames := 0, cells := 0, slots := 0, locals := 0 } : Room).cells ({ frames := 0, cells := 0, slots := 0, locals := 0 } : Room).slots) := by
  refine MetFree.of_bodySF (plainFor_of_name pn_2) hisR ?_
  intro p e s m args below meth c s₁ Bd hml0 hP hK
  obtain ⟨rfl, hZ, hh⟩ := hP
  have hx := Bd.exec
  have hby := Bd.bytes
  have hml : c.maxLocals = 3 := hml0
  have hown : s.vm.findClass "jdk/internal/util/Preconditions" = some m.cls := findClass_of_methodNamed Bd.named
  have hnm := (name_of_methodNamed Bd.named Bd.method).1
  have X0 : Stand p l e ({ frames := 0, cells := 0, slots := 0, locals := 0 } : Room) s m #[(.int (3 : Int32)), (.int (4 : Int32)), .null] below meth c s₁ [] 0 0 := Stand.of_body Bd
  have e0 : s₁.heap = h0 := by rw [← hh, Bd.state]; rfl
  have N0 := Fr.nil n0
  change own_Go p e below (Qp3_4 Z  h0 n0) (own_Fr s ({ frames := 0, cells := 0, slots := 0, locals := 0 } : Room).cells ({ frames := 0, cells := 0, slots := 0, locals := 0 } : Room).slots) (s₁.setTop (entryFrame m #[(.int (3 : Int32)), (.int (4 : Int32)), .null] 3))
  rw [ef_p3_4 m ]
  refine own_iloadN (pc' := 1) X0 hx rfl (hb hby dp0_1_0) rfl ?_
  refine own_ifNo (pc' := 4) X0 hx (by decide) (hb hby dp0_1_1) rfl ?_
  refine own_iloadN (pc' := 5) X0 hx rfl (hb hby dp0_1_4) rfl ?_
  refine own_iloadN (pc' := 6) X0 hx rfl (hb hby dp0_1_5) rfl ?_
  refine own_icmpYes (pc' := 16) X0 hx (hb hby dp0_1_6) (by decide) (by decide) (by decide) ?_
  refine own_iloadN (pc' := 17) X0 hx rfl (hb hby dp0_1_16) rfl ?_
  refine own_ret X0 hx Bd.returns Bd.notSynchronized (Or.inl ⟨rfl, by simp, _, rfl⟩) (hb hby dp0_1_17) rfl (by decide) (by decide) ?_
  show Qp3_4 Z  h0 n0 _ s₁.heap _
  rw [e0]
  exact ⟨rfl, trivial, N0, rfl⟩
theorem ef_p0_5 (m : MethodId)  : entryFrame m #[(.int (0 : Int32)), (.int (5 : Int32)), .null] 3 = mkF m 0 #[.val (.int (0 : Int32)), .val (.int (5 : Int32)), .val .null] [] := by first | (simp [entryFrame, mkF, argsToLocals, Value.category, maxLocals]; done) | rfl
def Qp0_5 (Z : State)  (h0 : Heap) (n0 : Nat) (v : Option Value) (h : Heap) (L : List Loc) : Prop := v = some (.int (0 : Int32)) ∧ (True) ∧ Fr n0 L ∧ h = h0
set_option maxRecDepth 65536 in
set_option maxHeartbeats 40000000 in
theorem rmp0_5 (l : Launch) (Z : State) (a0 : Array Value) (hw : ∀ d ∈ tables_1, d.before a0 Z = true) (ws : List Jvm.Cond)  (h0 : Heap) (n0 : Nat) (Z0 : n0 ≤ h0.size) :
    MetFree l (⟨"jdk/internal/util/Preconditions", "checkIndex", "(IILjava/util/function/BiFunction;)I"⟩ : MethodName) (head1 (Jvm.Cond.code (⟨"jdk/internal/util/Preconditions", "checkIndex", "(IILjava/util/function/BiFunction;)I"⟩ : MethodName) jdk_41_method_11_code 3 (some .int) :: ws) ({ frames := 0, cells := 0, slots := 0, locals := 0 } : Room)) (fun a U => a = #[(.int (0 : Int32)), (.int (5 : Int32)), .null] ∧ Z.Warmed39 U.vm ∧ U.heap = h0) (fun _ _ _ _ _ => True) (fun _ U o U' => ∃ v L, o = .returned v ∧ Qp0_5 Z  h0 n0 v U'.heap L ∧ FrameEnd U o U' L ({ frames := 0, cells := 0, slots := 0, locals := 0 } : Room).cells ({ frames := 0, cells := 0, slots := 0, locals := 0 } : Room).slots) := by
  refine MetFree.of_bodySF (plainFor_of_name pn_2) hisR ?_
  intro p e s m args below meth c s₁ Bd hml0 hP hK
  obtain ⟨rfl, hZ, hh⟩ := hP
  have hx := Bd.exec
  have hby := Bd.bytes
  have hml : c.maxLocals = 3 := hml0
  have hown : s.vm.findClass "jdk/internal/util/Preconditions" = some m.cls := findClass_of_methodNamed Bd.named
  have hnm := (name_of_methodNamed Bd.named Bd.method).1
  have X0 : Stand p l e ({ frames := 0, cells := 0, slots := 0, locals := 0 } : Room) s m #[(.int (0 : Int32)), (.int (5 : Int32)), .null] below meth c s₁ [] 0 0 := Stand.of_body Bd
  have e0 : s₁.heap = h0 := by rw [← hh, Bd.state]; rfl
  have N0 := Fr.nil n0
  change own_Go p e below (Qp0_5 Z  h0 n0) (own_Fr s ({ frames := 0, cells := 0, slots := 0, locals := 0 } : Room).cells ({ frames := 0, cells := 0, slots := 0, locals := 0 } : Room).slots) (s₁.setTop (entryFrame m #[(.int (0 : Int32)), (.int (5 : Int32)), .null] 3))
  rw [ef_p0_5 m ]
  refine own_iloadN (pc' := 1) X0 hx rfl (hb hby dp0_1_0) rfl ?_
  refine own_ifNo (pc' := 4) X0 hx (by decide) (hb hby dp0_1_1) rfl ?_
  refine own_iloadN (pc' := 5) X0 hx rfl (hb hby dp0_1_4) rfl ?_
  refine own_iloadN (pc' := 6) X0 hx rfl (hb hby dp0_1_5) rfl ?_
  refine own_icmpYes (pc' := 16) X0 hx (hb hby dp0_1_6) (by decide) (by decide) (by decide) ?_
  refine own_iloadN (pc' := 17) X0 hx rfl (hb hby dp0_1_16) rfl ?_
  refine own_ret X0 hx Bd.returns Bd.notSynchronized (Or.inl ⟨rfl, by simp, _, rfl⟩) (hb hby dp0_1_17) rfl (by decide) (by decide) ?_
  show Qp0_5 Z  h0 n0 _ s₁.heap _
  rw [e0]
  exact ⟨rfl, trivial, N0, rfl⟩
theorem ef_p1_5 (m : MethodId)  : entryFrame m #[(.int (1 : Int32)), (.int (5 : Int32)), .null] 3 = mkF m 0 #[.val (.int (1 : Int32)), .val (.int (5 : Int32)), .val .null] [] := by first | (simp [entryFrame, mkF, argsToLocals, Value.category, maxLocals]; done) | rfl
def Qp1_5 (Z : State)  (h0 : Heap) (n0 : Nat) (v : Option Value) (h : Heap) (L : List Loc) : Prop := v = some (.int (1 : Int32)) ∧ (True) ∧ Fr n0 L ∧ h = h0
set_option maxRecDepth 65536 in
set_option maxHeartbeats 40000000 in
theorem rmp1_5 (l : Launch) (Z : State) (a0 : Array Value) (hw : ∀ d ∈ tables_1, d.before a0 Z = true) (ws : List Jvm.Cond)  (h0 : Heap) (n0 : Nat) (Z0 : n0 ≤ h0.size) :
    MetFree l (⟨"jdk/internal/util/Preconditions", "checkIndex", "(IILjava/util/function/BiFunction;)I"⟩ : MethodName) (head1 (Jvm.Cond.code (⟨"jdk/internal/util/Preconditions", "checkIndex", "(IILjava/util/function/BiFunction;)I"⟩ : MethodName) jdk_41_method_11_code 3 (some .int) :: ws) ({ frames := 0, cells := 0, slots := 0, locals := 0 } : Room)) (fun a U => a = #[(.int (1 : Int32)), (.int (5 : Int32)), .null] ∧ Z.Warmed39 U.vm ∧ U.heap = h0) (fun _ _ _ _ _ => True) (fun _ U o U' => ∃ v L, o = .returned v ∧ Qp1_5 Z  h0 n0 v U'.heap L ∧ FrameEnd U o U' L ({ frames := 0, cells := 0, slots := 0, locals := 0 } : Room).cells ({ frames := 0, cells := 0, slots := 0, locals := 0 } : Room).slots) := by
  refine MetFree.of_bodySF (plainFor_of_name pn_2) hisR ?_
  intro p e s m args below meth c s₁ Bd hml0 hP hK
  obtain ⟨rfl, hZ, hh⟩ := hP
  have hx := Bd.exec
  have hby := Bd.bytes
  have hml : c.maxLocals = 3 := hml0
  have hown : s.vm.findClass "jdk/internal/util/Preconditions" = some m.cls := findClass_of_methodNamed Bd.named
  have hnm := (name_of_methodNamed Bd.named Bd.method).1
  have X0 : Stand p l e ({ frames := 0, cells := 0, slots := 0, locals := 0 } : Room) s m #[(.int (1 : Int32)), (.int (5 : Int32)), .null] below meth c s₁ [] 0 0 := Stand.of_body Bd
  have e0 : s₁.heap = h0 := by rw [← hh, Bd.state]; rfl
  have N0 := Fr.nil n0
  change own_Go p e below (Qp1_5 Z  h0 n0) (own_Fr s ({ frames := 0, cells := 0, slots := 0, locals := 0 } : Room).cells ({ frames := 0, cells := 0, slots := 0, locals := 0 } : Room).slots) (s₁.setTop (entryFrame m #[(.int (1 : Int32)), (.int (5 : Int32)), .null] 3))
  rw [ef_p1_5 m ]
  refine own_iloadN (pc' := 1) X0 hx rfl (hb hby dp0_1_0) rfl ?_
  refine own_ifNo (pc' := 4) X0 hx (by decide) (hb hby dp0_1_1) rfl ?_
  refine own_iloadN (pc' := 5) X0 hx rfl (hb hby dp0_1_4) rfl ?_
  refine own_iloadN (pc' := 6) X0 hx rfl (hb hby dp0_1_5) rfl ?_
  refine own_icmpYes (pc' := 16) X0 hx (hb hby dp0_1_6) (by decide) (by decide) (by decide) ?_
  refine own_iloadN (pc' := 17) X0 hx rfl (hb hby dp0_1_16) rfl ?_
  refine own_ret X0 hx Bd.returns Bd.notSynchronized (Or.inl ⟨rfl, by simp, _, rfl⟩) (hb hby dp0_1_17) rfl (by decide) (by decide) ?_
  show Qp1_5 Z  h0 n0 _ s₁.heap _
  rw [e0]
  exact ⟨rfl, trivial, N0, rfl⟩
theorem ef_p2_5 (m : MethodId)  : entryFrame m #[(.int (2 : Int32)), (.int (5 : Int32)), .null] 3 = mkF m 0 #[.val (.int (2 : Int32)), .val (.int (5 : Int32)), .val .null] [] := by first | (simp [entryFrame, mkF, argsToLocals, Value.category, maxLocals]; done) | rfl
def Qp2_5 (Z : State)  (h0 : Heap) (n0 : Nat) (v : Option Value) (h : Heap) (L : List Loc) : Prop := v = some (.int (2 : Int32)) ∧ (True) ∧ Fr n0 L ∧ h = h0
set_option maxRecDepth 65536 in
set_option maxHeartbeats 40000000 in
theorem rmp2_5 (l : Launch) (Z : State) (a0 : Array Value) (hw : ∀ d ∈ tables_1, d.before a0 Z = true) (ws : List Jvm.Cond)  (h0 : Heap) (n0 : Nat) (Z0 : n0 ≤ h0.size) :
    MetFree l (⟨"jdk/internal/util/Preconditions", "checkIndex", "(IILjava/util/function/BiFunction;)I"⟩ : MethodName) (head1 (Jvm.Cond.code (⟨"jdk/internal/util/Preconditions", "checkIndex", "(IILjava/util/function/BiFunction;)I"⟩ : MethodName) jdk_41_method_11_code 3 (some .int) :: ws) ({ frames := 0, cells := 0, slots := 0, locals := 0 } : Room)) (fun a U => a = #[(.int (2 : Int32)), (.int (5 : Int32)), .null] ∧ Z.Warmed39 U.vm ∧ U.heap = h0) (fun _ _ _ _ _ => True) (fun _ U o U' => ∃ v L, o = .returned v ∧ Qp2_5 Z  h0 n0 v U'.heap L ∧ FrameEnd U o U' L ({ frames := 0, cells := 0, slots := 0, locals := 0 } : Room).cells ({ frames := 0, cells := 0, slots := 0, locals := 0 } : Room).slots) := by
  refine MetFree.of_bodySF (plainFor_of_name pn_2) hisR ?_
  intro p e s m args below meth c s₁ Bd hml0 hP hK
  obtain ⟨rfl, hZ, hh⟩ := hP
  have hx := Bd.exec
  have hby := Bd.bytes
  have hml : c.maxLocals = 3 := hml0
  have hown : s.vm.findClass "jdk/internal/util/Preconditions" = some m.cls := findClass_of_methodNamed Bd.named
  have hnm := (name_of_methodNamed Bd.named Bd.method).1
  have X0 : Stand p l e ({ frames := 0, cells := 0, slots := 0, locals := 0 } : Room) s m #[(.int (2 : Int32)), (.int (5 : Int32)), .null] below meth c s₁ [] 0 0 := Stand.of_body Bd
  have e0 : s₁.heap = h0 := by rw [← hh, Bd.state]; rfl
  have N0 := Fr.nil n0
  change own_Go p e below (Qp2_5 Z  h0 n0) (own_Fr s ({ frames := 0, cells := 0, slots := 0, locals := 0 } : Room).cells ({ frames := 0, cells := 0, slots := 0, locals := 0 } : Room).slots) (s₁.setTop (entryFrame m #[(.int (2 : Int32)), (.int (5 : Int32)), .null] 3))
  rw [ef_p2_5 m ]
  refine own_iloadN (pc' := 1) X0 hx rfl (hb hby dp0_1_0) rfl ?_
  refine own_ifNo (pc' := 4) X0 hx (by decide) (hb hby dp0_1_1) rfl ?_
  refine own_iloadN (pc' := 5) X0 hx rfl (hb hby dp0_1_4) rfl ?_
  refine own_iloadN (pc' := 6) X0 hx rfl (hb hby dp0_1_5) rfl ?_
  refine own_icmpYes (pc' := 16) X0 hx (hb hby dp0_1_6) (by decide) (by decide) (by decide) ?_
  refine own_iloadN (pc' := 17) X0 hx rfl (hb hby dp0_1_16) rfl ?_
  refine own_ret X0 hx Bd.returns Bd.notSynchronized (Or.inl ⟨rfl, by simp, _, rfl⟩) (hb hby dp0_1_17) rfl (by decide) (by decide) ?_
  show Qp2_5 Z  h0 n0 _ s₁.heap _
  rw [e0]
  exact ⟨rfl, trivial, N0, rfl⟩
theorem ef_p3_5 (m : MethodId)  : entryFrame m #[(.int (3 : Int32)), (.int (5 : Int32)), .null] 3 = mkF m 0 #[.val (.int (3 : Int32)), .val (.int (5 : Int32)), .val .null] [] := by first | (simp [entryFrame, mkF, argsToLocals, Value.category, maxLocals]; done) | rfl
def Qp3_5 (Z : State)  (h0 : Heap) (n0 : Nat) (v : Option Value) (h : Heap) (L : List Loc) : Prop := v = some (.int (3 : Int32)) ∧ (True) ∧ Fr n0 L ∧ h = h0
set_option maxRecDepth 65536 in
set_option maxHeartbeats 40000000 in
theorem rmp3_5 (l : Launch) (Z : State) (a0 : Array Value) (hw : ∀ d ∈ tables_1, d.before a0 Z = true) (ws : List Jvm.Cond)  (h0 : Heap) (n0 : Nat) (Z0 : n0 ≤ h0.size) :
    MetFree l (⟨"jdk/internal/util/Preconditions", "checkIndex", "(IILjava/util/function/BiFunction;)I"⟩ : MethodName) (head1 (Jvm.Cond.code (⟨"jdk/internal/util/Preconditions", "checkIndex", "(IILjava/util/function/BiFunction;)I"⟩ : MethodName) jdk_41_method_11_code 3 (some .int) :: ws) ({ frames := 0, cells := 0, slots := 0, locals := 0 } : Room)) (fun a U => a = #[(.int (3 : Int32)), (.int (5 : Int32)), .null] ∧ Z.Warmed39 U.vm ∧ U.heap = h0) (fun _ _ _ _ _ => True) (fun _ U o U' => ∃ v L, o = .returned v ∧ Qp3_5 Z  h0 n0 v U'.heap L ∧ FrameEnd U o U' L ({ frames := 0, cells := 0, slots := 0, locals := 0 } : Room).cells ({ frames := 0, cells := 0, slots := 0, locals := 0 } : Room).slots) := by
  refine MetFree.of_bodySF (plainFor_of_name pn_2) hisR ?_
  intro p e s m args below meth c s₁ Bd hml0 hP hK
  obtain ⟨rfl, hZ, hh⟩ := hP
  have hx := Bd.exec
  have hby := Bd.bytes
  have hml : c.maxLocals = 3 := hml0
  have hown : s.vm.findClass "jdk/internal/util/Preconditions" = some m.cls := findClass_of_methodNamed Bd.named
  have hnm := (name_of_methodNamed Bd.named Bd.method).1
  have X0 : Stand p l e ({ frames := 0, cells := 0, slots := 0, locals := 0 } : Room) s m #[(.int (3 : Int32)), (.int (5 : Int32)), .null] below meth c s₁ [] 0 0 := Stand.of_body Bd
  have e0 : s₁.heap = h0 := by rw [← hh, Bd.state]; rfl
  have N0 := Fr.nil n0
  change own_Go p e below (Qp3_5 Z  h0 n0) (own_Fr s ({ frames := 0, cells := 0, slots := 0, locals := 0 } : Room).cells ({ frames := 0, cells := 0, slots := 0, locals := 0 } : Room).slots) (s₁.setTop (entryFrame m #[(.int (3 : Int32)), (.int (5 : Int32)), .null] 3))
  rw [ef_p3_5 m ]
  refine own_iloadN (pc' := 1) X0 hx rfl (hb hby dp0_1_0) rfl ?_
  refine own_ifNo (pc' := 4) X0 hx (by decide) (hb hby dp0_1_1) rfl ?_
  refine own_iloadN (pc' := 5) X0 hx rfl (hb hby dp0_1_4) rfl ?_
  refine own_iloadN (pc' := 6) X0 hx rfl (hb hby dp0_1_5) rfl ?_
  refine own_icmpYes (pc' := 16) X0 hx (hb hby dp0_1_6) (by decide) (by decide) (by decide) ?_
  refine own_iloadN (pc' := 17) X0 hx rfl (hb hby dp0_1_16) rfl ?_
  refine own_ret X0 hx Bd.returns Bd.notSynchronized (Or.inl ⟨rfl, by simp, _, rfl⟩) (hb hby dp0_1_17) rfl (by decide) (by decide) ?_
  show Qp3_5 Z  h0 n0 _ s₁.heap _
  rw [e0]
  exact ⟨rfl, trivial, N0, rfl⟩
theorem ef_p4_5 (m : MethodId)  : entryFrame m #[(.int (4 : Int32)), (.int (5 : Int32)), .null] 3 = mkF m 0 #[.val (.int (4 : Int32)), .val (.int (5 : Int32)), .val .null] [] := by first | (simp [entryFrame, mkF, argsToLocals, Value.category, maxLocals]; done) | rfl
def Qp4_5 (Z : State)  (h0 : Heap) (n0 : Nat) (v : Option Value) (h : Heap) (L : List Loc) : Prop := v = some (.int (4 : Int32)) ∧ (True) ∧ Fr n0 L ∧ h = h0
set_option maxRecDepth 65536 in
set_option maxHeartbeats 40000000 in
theorem rmp4_5 (l : Launch) (Z : State) (a0 : Array Value) (hw : ∀ d ∈ tables_1, d.before a0 Z = true) (ws : List Jvm.Cond)  (h0 : Heap) (n0 : Nat) (Z0 : n0 ≤ h0.size) :
    MetFree l (⟨"jdk/internal/util/Preconditions", "checkIndex", "(IILjava/util/function/BiFunction;)I"⟩ : MethodName) (head1 (Jvm.Cond.code (⟨"jdk/internal/util/Preconditions", "checkIndex", "(IILjava/util/function/BiFunction;)I"⟩ : MethodName) jdk_41_method_11_code 3 (some .int) :: ws) ({ frames := 0, cells := 0, slots := 0, locals := 0 } : Room)) (fun a U => a = #[(.int (4 : Int32)), (.int (5 : Int32)), .null] ∧ Z.Warmed39 U.vm ∧ U.heap = h0) (fun _ _ _ _ _ => True) (fun _ U o U' => ∃ v L, o = .returned v ∧ Qp4_5 Z  h0 n0 v U'.heap L ∧ FrameEnd U o U' L ({ frames := 0, cells := 0, slots := 0, locals := 0 } : Room).cells ({ frames := 0, cells := 0, slots := 0, locals := 0 } : Room).slots) := by
  refine MetFree.of_bodySF (plainFor_of_name pn_2) hisR ?_
  intro p e s m args below meth c s₁ Bd hml0 hP hK
  obtain ⟨rfl, hZ, hh⟩ := hP
  have hx := Bd.exec
  have hby := Bd.bytes
  have hml : c.maxLocals = 3 := hml0
  have hown : s.vm.findClass "jdk/internal/util/Preconditions" = some m.cls := findClass_of_methodNamed Bd.named
  have hnm := (name_of_methodNamed Bd.named Bd.method).1
  have X0 : Stand p l e ({ frames := 0, cells := 0, slots := 0, locals := 0 } : Room) s m #[(.int (4 : Int32)), (.int (5 : Int32)), .null] below meth c s₁ [] 0 0 := Stand.of_body Bd
  have e0 : s₁.heap = h0 := by rw [← hh, Bd.state]; rfl
  have N0 := Fr.nil n0
  change own_Go p e below (Qp4_5 Z  h0 n0) (own_Fr s ({ frames := 0, cells := 0, slots := 0, locals := 0 } : Room).cells ({ frames := 0, cells := 0, slots := 0, locals := 0 } : Room).slots) (s₁.setTop (entryFrame m #[(.int (4 : Int32)), (.int (5 : Int32)), .null] 3))
  rw [ef_p4_5 m ]
  refine own_iloadN (pc' := 1) X0 hx rfl (hb hby dp0_1_0) rfl ?_
  refine own_ifNo (pc' := 4) X0 hx (by decide) (hb hby dp0_1_1) rfl ?_
  refine own_iloadN (pc' := 5) X0 hx rfl (hb hby dp0_1_4) rfl ?_
  refine own_iloadN (pc' := 6) X0 hx rfl (hb hby dp0_1_5) rfl ?_
  refine own_icmpYes (pc' := 16) X0 hx (hb hby dp0_1_6) (by decide) (by decide) (by decide) ?_
  refine own_iloadN (pc' := 17) X0 hx rfl (hb hby dp0_1_16) rfl ?_
  refine own_ret X0 hx Bd.returns Bd.notSynchronized (Or.inl ⟨rfl, by simp, _, rfl⟩) (hb hby dp0_1_17) rfl (by decide) (by decide) ?_
  show Qp4_5 Z  h0 n0 _ s₁.heap _
  rw [e0]
  exact ⟨rfl, trivial, N0, rfl⟩
theorem do0_1_0 : decode jdk_31_method_17_code 0 = .ok (.iload_n 0, 1) := by decide +kernel
theorem do0_1_1 : decode jdk_31_method_17_code 1 = .ok (.iload_n 1, 1) := by decide +kernel
theorem do0_1_2 : decode jdk_31_method_17_code 2 = .ok (.aconst_null, 1) := by decide +kernel
theorem do0_1_3 : decode jdk_31_method_17_code 3 = .ok (.invokestatic 105, 3) := by decide +kernel
theorem do0_1_6 : decode jdk_31_method_17_code 6 = .ok (.ireturn, 1) := by decide +kernel
theorem pn_3 : plainName "java/util/Objects" = true := by first | (simp [plainName, overriddenIn]; done) | decide +kernel
theorem ef_o0_1 (m : MethodId)  : entryFrame m #[(.int (0 : Int32)), (.int (1 : Int32))] 2 = mkF m 0 #[.val (.int (0 : Int32)), .val (.int (1 : Int32))] [] := by first | (simp [entryFrame, mkF, argsToLocals, Value.category, maxLocals]; done) | rfl
def Qo0_1 (Z : State)  (h0 : Heap) (n0 : Nat) (v : Option Value) (h : Heap) (L : List Loc) : Prop := v = some (.int (0 : Int32)) ∧ (True) ∧ Fr n0 L ∧ h = h0
set_option maxRecDepth 65536 in
set_option maxHeartbeats 40000000 in
theorem rmo0_1 (l : Launch) (Z : State) (a0 : Array Value) (hw : ∀ d ∈ tables_1, d.before a0 Z = true) (ws : List Jvm.Cond)  (h0 : Heap) (n0 : Nat) (Z0 : n0 ≤ h0.size) :
    MetFree l (⟨"java/util/Objects", "checkIndex", "(II)I"⟩ : MethodName) (head1 (Jvm.Cond.code (⟨"java/util/Objects", "checkIndex", "(II)I"⟩ : MethodName) jdk_31_method_17_code 2 (some .int) :: ws) ({ frames := 1, cells := 0, slots := 0, locals := 14 } : Room)) (fun a U => a = #[(.int (0 : Int32)), (.int (1 : Int32))] ∧ Z.Warmed39 U.vm ∧ U.heap = h0) (fun _ _ _ _ _ => True) (fun _ U o U' => ∃ v L, o = .returned v ∧ Qo0_1 Z  h0 n0 v U'.heap L ∧ FrameEnd U o U' L ({ frames := 1, cells := 0, slots := 0, locals := 14 } : Room).cells ({ frames := 1, cells := 0, slots := 0, locals := 14 } : Room).slots) := by
  refine MetFree.of_bodySF (plainFor_of_name pn_3) hisR ?_
  intro p e s m args below meth c s₁ Bd hml0 hP hK
  obtain ⟨rfl, hZ, hh⟩ := hP
  have hx := Bd.exec
  have hby := Bd.bytes
  have hml : c.maxLocals = 2 := hml0
  have hown : s.vm.findClass "java/util/Objects" = some m.cls := findClass_of_methodNamed Bd.named
  have hnm := (name_of_methodNamed Bd.named Bd.method).1
  have X0 : Stand p l e ({ frames := 1, cells := 0, slots := 0, locals := 14 } : Room) s m #[(.int (0 : Int32)), (.int (1 : Int32))] below meth c s₁ [] 0 0 := Stand.of_body Bd
  have e0 : s₁.heap = h0 := by rw [← hh, Bd.state]; rfl
  have N0 := Fr.nil n0
  change own_Go p e below (Qo0_1 Z  h0 n0) (own_Fr s ({ frames := 1, cells := 0, slots := 0, locals := 14 } : Room).cells ({ frames := 1, cells := 0, slots := 0, locals := 14 } : Room).slots) (s₁.setTop (entryFrame m #[(.int (0 : Int32)), (.int (1 : Int32))] 2))
  rw [ef_o0_1 m ]
  refine own_iloadN (pc' := 1) X0 hx rfl (hb hby do0_1_0) rfl ?_
  refine own_iloadN (pc' := 2) X0 hx rfl (hb hby do0_1_1) rfl ?_
  refine own_aconstNull (pc' := 3) X0 hx (hb hby do0_1_2) rfl ?_
  obtain ⟨_, _, ⟨T1, L1, k1, n1⟩, -, X1, ⟨Lc1, hQ1, l1, y1, z1⟩, st1⟩ := Jvm.LawKit.callS X0 hx (y := (⟨"jdk/internal/util/Preconditions", "checkIndex", "(IILjava/util/function/BiFunction;)I"⟩ : MethodName)) hown (mvT hZ (hw _ (List.mem_of_getElem? (i := 29) rfl))) (mvT hZ (hw _ (List.mem_of_getElem? (i := 30) rfl))) (mvT hZ (hw _ (List.mem_of_getElem? (i := 31) rfl))) (mvT hZ (hw _ (List.mem_of_getElem? (i := 32) rfl))) (by decide) (backOf (W := 0) (rmp0_1 l Z a0 hw []  h0 n0 Z0 ) hZ (hw _ (List.mem_of_getElem? (i := 32) rfl)) (hw _ (List.mem_of_getElem? (i := 31) rfl)) (by decide) (by decide)) (g := (mkF m 3 #[.val (.int (0 : Int32)), .val (.int (1 : Int32))] [.null, (.int (1 : Int32)), (.int (0 : Int32))])) rfl (by rw [hml]; rfl) (argsL := [(.int (0 : Int32)), (.int (1 : Int32)), .null]) (rest := []) (lenOf pd_4 rfl) rfl (by show 2 * 0 + _ ≤ _; exact Nat.le_of_eq rfl) (hb hby do0_1_3) (fun _ _ => ⟨rfl, e0, (by decide : 0 + 0 ≤ _), (by decide : 0 + 0 ≤ _)⟩)
  dsimp only [Pt.U, Pt.locs, Pt.cells, Pt.slots] at X1 l1 y1 z1 st1 hQ1
  subst l1 y1 z1
  obtain ⟨rfl, pp1, N1, e1⟩ := hQ1
  have N1a := Fr.app N0 N1
  refine own_by st1 ?_
  show own_Go p e below (Qo0_1 Z  h0 n0) (own_Fr s ({ frames := 1, cells := 0, slots := 0, locals := 14 } : Room).cells ({ frames := 1, cells := 0, slots := 0, locals := 14 } : Room).slots) (T1.setTop (mkF m 6 #[.val (.int (0 : Int32)), .val (.int (1 : Int32))] [(.int (0 : Int32))]))
  refine own_ret X1 hx Bd.returns Bd.notSynchronized (Or.inl ⟨rfl, by simp, _, rfl⟩) (hb hby do0_1_6) rfl (by decide) (by decide) ?_
  show Qo0_1 Z  h0 n0 _ T1.heap _
  rw [e1]
  exact ⟨rfl, trivial, N1a, rfl⟩
theorem ef_o0_2 (m : MethodId)  : entryFrame m #[(.int (0 : Int32)), (.int (2 : Int32))] 2 = mkF m 0 #[.val (.int (0 : Int32)), .val (.int (2 : Int32))] [] := by first | (simp [entryFrame, mkF, argsToLocals, Value.category, maxLocals]; done) | rfl
def Qo0_2 (Z : State)  (h0 : Heap) (n0 : Nat) (v : Option Value) (h : Heap) (L : List Loc) : Prop := v = some (.int (0 : Int32)) ∧ (True) ∧ Fr n0 L ∧ h = h0
set_option maxRecDepth 65536 in
set_option maxHeartbeats 40000000 in
theorem rmo0_2 (l : Launch) (Z : State) (a0 : Array Value) (hw : ∀ d ∈ tables_1, d.before a0 Z = true) (ws : List Jvm.Cond)  (h0 : Heap) (n0 : Nat) (Z0 : n0 ≤ h0.size) :
    MetFree l (⟨"java/util/Objects", "checkIndex", "(II)I"⟩ : MethodName) (head1 (Jvm.Cond.code (⟨"java/util/Objects", "checkIndex", "(II)I"⟩ : MethodName) jdk_31_method_17_code 2 (some .int) :: ws) ({ frames := 1, cells := 0, slots := 0, locals := 14 } : Room)) (fun a U => a = #[(.int (0 : Int32)), (.int (2 : Int32))] ∧ Z.Warmed39 U.vm ∧ U.heap = h0) (fun _ _ _ _ _ => True) (fun _ U o U' => ∃ v L, o = .returned v ∧ Qo0_2 Z  h0 n0 v U'.heap L ∧ FrameEnd U o U' L ({ frames := 1, cells := 0, slots := 0, locals := 14 } : Room).cells ({ frames := 1, cells := 0, slots := 0, locals := 14 } : Room).slots) := by
  refine MetFree.of_bodySF (plainFor_of_name pn_3) hisR ?_
  intro p e s m args below meth c s₁ Bd hml0 hP hK
  obtain ⟨rfl, hZ, hh⟩ := hP
  have hx := Bd.exec
  have hby := Bd.bytes
  have hml : c.maxLocals = 2 := hml0
  have hown : s.vm.findClass "java/util/Objects" = some m.cls := findClass_of_methodNamed Bd.named
  have hnm := (name_of_methodNamed Bd.named Bd.method).1
  have X0 : Stand p l e ({ frames := 1, cells := 0, slots := 0, locals := 14 } : Room) s m #[(.int (0 : Int32)), (.int (2 : Int32))] below meth c s₁ [] 0 0 := Stand.of_body Bd
  have e0 : s₁.heap = h0 := by rw [← hh, Bd.state]; rfl
  have N0 := Fr.nil n0
  change own_Go p e below (Qo0_2 Z  h0 n0) (own_Fr s ({ frames := 1, cells := 0, slots := 0, locals := 14 } : Room).cells ({ frames := 1, cells := 0, slots := 0, locals := 14 } : Room).slots) (s₁.setTop (entryFrame m #[(.int (0 : Int32)), (.int (2 : Int32))] 2))
  rw [ef_o0_2 m ]
  refine own_iloadN (pc' := 1) X0 hx rfl (hb hby do0_1_0) rfl ?_
  refine own_iloadN (pc' := 2) X0 hx rfl (hb hby do0_1_1) rfl ?_
  refine own_aconstNull (pc' := 3) X0 hx (hb hby do0_1_2) rfl ?_
  obtain ⟨_, _, ⟨T1, L1, k1, n1⟩, -, X1, ⟨Lc1, hQ1, l1, y1, z1⟩, st1⟩ := Jvm.LawKit.callS X0 hx (y := (⟨"jdk/internal/util/Preconditions", "checkIndex", "(IILjava/util/function/BiFunction;)I"⟩ : MethodName)) hown (mvT hZ (hw _ (List.mem_of_getElem? (i := 29) rfl))) (mvT hZ (hw _ (List.mem_of_getElem? (i := 30) rfl))) (mvT hZ (hw _ (List.mem_of_getElem? (i := 31) rfl))) (mvT hZ (hw _ (List.mem_of_getElem? (i := 32) rfl))) (by decide) (backOf (W := 0) (rmp0_2 l Z a0 hw []  h0 n0 Z0 ) hZ (hw _ (List.mem_of_getElem? (i := 32) rfl)) (hw _ (List.mem_of_getElem? (i := 31) rfl)) (by decide) (by decide)) (g := (mkF m 3 #[.val (.int (0 : Int32)), .val (.int (2 : Int32))] [.null, (.int (2 : Int32)), (.int (0 : Int32))])) rfl (by rw [hml]; rfl) (argsL := [(.int (0 : Int32)), (.int (2 : Int32)), .null]) (rest := []) (lenOf pd_4 rfl) rfl (by show 2 * 0 + _ ≤ _; exact Nat.le_of_eq rfl) (hb hby do0_1_3) (fun _ _ => ⟨rfl, e0, (by decide : 0 + 0 ≤ _), (by decide : 0 + 0 ≤ _)⟩)
  dsimp only [Pt.U, Pt.locs, Pt.cells, Pt.slots] at X1 l1 y1 z1 st1 hQ1
  subst l1 y1 z1
  obtain ⟨rfl, pp1, N1, e1⟩ := hQ1
  have N1a := Fr.app N0 N1
  refine own_by st1 ?_
  show own_Go p e below (Qo0_2 Z  h0 n0) (own_Fr s ({ frames := 1, cells := 0, slots := 0, locals := 14 } : Room).cells ({ frames := 1, cells := 0, slots := 0, locals := 14 } : Room).slots) (T1.setTop (mkF m 6 #[.val (.int (0 : Int32)), .val (.int (2 : Int32))] [(.int (0 : Int32))]))
  refine own_ret X1 hx Bd.returns Bd.notSynchronized (Or.inl ⟨rfl, by simp, _, rfl⟩) (hb hby do0_1_6) rfl (by decide) (by decide) ?_
  show Qo0_2 Z  h0 n0 _ T1.heap _
  rw [e1]
  exact ⟨rfl, trivial, N1a, rfl⟩
theorem ef_o1_2 (m : MethodId)  : entryFrame m #[(.int (1 : Int32)), (.int (2 : Int32))] 2 = mkF m 0 #[.val (.int (1 : Int32)), .val (.int (2 : Int32))] [] := by first | (simp [entryFrame, mkF, argsToLocals, Value.category, maxLocals]; done) | rfl
def Qo1_2 (Z : State)  (h0 : Heap) (n0 : Nat) (v : Option Value) (h : Heap) (L : List Loc) : Prop := v = some (.int (1 : Int32)) ∧ (True) ∧ Fr n0 L ∧ h = h0
set_option maxRecDepth 65536 in
set_option maxHeartbeats 40000000 in
theorem rmo1_2 (l : Launch) (Z : State) (a0 : Array Value) (hw : ∀ d ∈ tables_1, d.before a0 Z = true) (ws : List Jvm.Cond)  (h0 : Heap) (n0 : Nat) (Z0 : n0 ≤ h0.size) :
    MetFree l (⟨"java/util/Objects", "checkIndex", "(II)I"⟩ : MethodName) (head1 (Jvm.Cond.code (⟨"java/util/Objects", "checkIndex", "(II)I"⟩ : MethodName) jdk_31_method_17_code 2 (some .int) :: ws) ({ frames := 1, cells := 0, slots := 0, locals := 14 } : Room)) (fun a U => a = #[(.int (1 : Int32)), (.int (2 : Int32))] ∧ Z.Warmed39 U.vm ∧ U.heap = h0) (fun _ _ _ _ _ => True) (fun _ U o U' => ∃ v L, o = .returned v ∧ Qo1_2 Z  h0 n0 v U'.heap L ∧ FrameEnd U o U' L ({ frames := 1, cells := 0, slots := 0, locals := 14 } : Room).cells ({ frames := 1, cells := 0, slots := 0, locals := 14 } : Room).slots) := by
  refine MetFree.of_bodySF (plainFor_of_name pn_3) hisR ?_
  intro p e s m args below meth c s₁ Bd hml0 hP hK
  obtain ⟨rfl, hZ, hh⟩ := hP
  have hx := Bd.exec
  have hby := Bd.bytes
  have hml : c.maxLocals = 2 := hml0
  have hown : s.vm.findClass "java/util/Objects" = some m.cls := findClass_of_methodNamed Bd.named
  have hnm := (name_of_methodNamed Bd.named Bd.method).1
  have X0 : Stand p l e ({ frames := 1, cells := 0, slots := 0, locals := 14 } : Room) s m #[(.int (1 : Int32)), (.int (2 : Int32))] below meth c s₁ [] 0 0 := Stand.of_body Bd
  have e0 : s₁.heap = h0 := by rw [← hh, Bd.state]; rfl
  have N0 := Fr.nil n0
  change own_Go p e below (Qo1_2 Z  h0 n0) (own_Fr s ({ frames := 1, cells := 0, slots := 0, locals := 14 } : Room).cells ({ frames := 1, cells := 0, slots := 0, locals := 14 } : Room).slots) (s₁.setTop (entryFrame m #[(.int (1 : Int32)), (.int (2 : Int32))] 2))
  rw [ef_o1_2 m ]
  refine own_iloadN (pc' := 1) X0 hx rfl (hb hby do0_1_0) rfl ?_
  refine own_iloadN (pc' := 2) X0 hx rfl (hb hby do0_1_1) rfl ?_
  refine own_aconstNull (pc' := 3) X0 hx (hb hby do0_1_2) rfl ?_
  obtain ⟨_, _, ⟨T1, L1, k1, n1⟩, -, X1, ⟨Lc1, hQ1, l1, y1, z1⟩, st1⟩ := Jvm.LawKit.callS X0 hx (y := (⟨"jdk/internal/util/Preconditions", "checkIndex", "(IILjava/util/function/BiFunction;)I"⟩ : MethodName)) hown (mvT hZ (hw _ (List.mem_of_getElem? (i := 29) rfl))) (mvT hZ (hw _ (List.mem_of_getElem? (i := 30) rfl))) (mvT hZ (hw _ (List.mem_of_getElem? (i := 31) rfl))) (mvT hZ (hw _ (List.mem_of_getElem? (i := 32) rfl))) (by decide) (backOf (W := 0) (rmp1_2 l Z a0 hw []  h0 n0 Z0 ) hZ (hw _ (List.mem_of_getElem? (i := 32) rfl)) (hw _ (List.mem_of_getElem? (i := 31) rfl)) (by decide) (by decide)) (g := (mkF m 3 #[.val (.int (1 : Int32)), .val (.int (2 : Int32))] [.null, (.int (2 : Int32)), (.int (1 : Int32))])) rfl (by rw [hml]; rfl) (argsL := [(.int (1 : Int32)), (.int (2 : Int32)), .null]) (rest := []) (lenOf pd_4 rfl) rfl (by show 2 * 0 + _ ≤ _; exact Nat.le_of_eq rfl) (hb hby do0_1_3) (fun _ _ => ⟨rfl, e0, (by decide : 0 + 0 ≤ _), (by decide : 0 + 0 ≤ _)⟩)
  dsimp only [Pt.U, Pt.locs, Pt.cells, Pt.slots] at X1 l1 y1 z1 st1 hQ1
  subst l1 y1 z1
  obtain ⟨rfl, pp1, N1, e1⟩ := hQ1
  have N1a := Fr.app N0 N1
  refine own_by st1 ?_
  show own_Go p e below (Qo1_2 Z  h0 n0) (own_Fr s ({ frames := 1, cells := 0, slots := 0, locals := 14 } : Room).cells ({ frames := 1, cells := 0, slots := 0, locals := 14 } : Room).slots) (T1.setTop (mkF m 6 #[.val (.int (1 : Int32)), .val (.int (2 : Int32))] [(.int (1 : Int32))]))
  refine own_ret X1 hx Bd.returns Bd.notSynchronized (Or.inl ⟨rfl, by simp, _, rfl⟩) (hb hby do0_1_6) rfl (by decide) (by decide) ?_
  show Qo1_2 Z  h0 n0 _ T1.heap _
  rw [e1]
  exact ⟨rfl, trivial, N1a, rfl⟩
theorem ef_o0_3 (m : MethodId)  : entryFrame m #[(.int (0 : Int32)), (.int (3 : Int32))] 2 = mkF m 0 #[.val (.int (0 : Int32)), .val (.int (3 : Int32))] [] := by first | (simp [entryFrame, mkF, argsToLocals, Value.category, maxLocals]; done) | rfl
def Qo0_3 (Z : State)  (h0 : Heap) (n0 : Nat) (v : Option Value) (h : Heap) (L : List Loc) : Prop := v = some (.int (0 : Int32)) ∧ (True) ∧ Fr n0 L ∧ h = h0
set_option maxRecDepth 65536 in
set_option maxHeartbeats 40000000 in
theorem rmo0_3 (l : Launch) (Z : State) (a0 : Array Value) (hw : ∀ d ∈ tables_1, d.before a0 Z = true) (ws : List Jvm.Cond)  (h0 : Heap) (n0 : Nat) (Z0 : n0 ≤ h0.size) :
    MetFree l (⟨"java/util/Objects", "checkIndex", "(II)I"⟩ : MethodName) (head1 (Jvm.Cond.code (⟨"java/util/Objects", "checkIndex", "(II)I"⟩ : MethodName) jdk_31_method_17_code 2 (some .int) :: ws) ({ frames := 1, cells := 0, slots := 0, locals := 14 } : Room)) (fun a U => a = #[(.int (0 : Int32)), (.int (3 : Int32))] ∧ Z.Warmed39 U.vm ∧ U.heap = h0) (fun _ _ _ _ _ => True) (fun _ U o U' => ∃ v L, o = .returned v ∧ Qo0_3 Z  h0 n0 v U'.heap L ∧ FrameEnd U o U' L ({ frames := 1, cells := 0, slots := 0, locals := 14 } : Room).cells ({ frames := 1, cells := 0, slots := 0, locals := 14 } : Room).slots) := by
  refine MetFree.of_bodySF (plainFor_of_name pn_3) hisR ?_
  intro p e s m args below meth c s₁ Bd hml0 hP hK
  obtain ⟨rfl, hZ, hh⟩ := hP
  have hx := Bd.exec
  have hby := Bd.bytes
  have hml : c.maxLocals = 2 := hml0
  have hown : s.vm.findClass "java/util/Objects" = some m.cls := findClass_of_methodNamed Bd.named
  have hnm := (name_of_methodNamed Bd.named Bd.method).1
  have X0 : Stand p l e ({ frames := 1, cells := 0, slots := 0, locals := 14 } : Room) s m #[(.int (0 : Int32)), (.int (3 : Int32))] below meth c s₁ [] 0 0 := Stand.of_body Bd
  have e0 : s₁.heap = h0 := by rw [← hh, Bd.state]; rfl
  have N0 := Fr.nil n0
  change own_Go p e below (Qo0_3 Z  h0 n0) (own_Fr s ({ frames := 1, cells := 0, slots := 0, locals := 14 } : Room).cells ({ frames := 1, cells := 0, slots := 0, locals := 14 } : Room).slots) (s₁.setTop (entryFrame m #[(.int (0 : Int32)), (.int (3 : Int32))] 2))
  rw [ef_o0_3 m ]
  refine own_iloadN (pc' := 1) X0 hx rfl (hb hby do0_1_0) rfl ?_
  refine own_iloadN (pc' := 2) X0 hx rfl (hb hby do0_1_1) rfl ?_
  refine own_aconstNull (pc' := 3) X0 hx (hb hby do0_1_2) rfl ?_
  obtain ⟨_, _, ⟨T1, L1, k1, n1⟩, -, X1, ⟨Lc1, hQ1, l1, y1, z1⟩, st1⟩ := Jvm.LawKit.callS X0 hx (y := (⟨"jdk/internal/util/Preconditions", "checkIndex", "(IILjava/util/function/BiFunction;)I"⟩ : MethodName)) hown (mvT hZ (hw _ (List.mem_of_getElem? (i := 29) rfl))) (mvT hZ (hw _ (List.mem_of_getElem? (i := 30) rfl))) (mvT hZ (hw _ (List.mem_of_getElem? (i := 31) rfl))) (mvT hZ (hw _ (List.mem_of_getElem? (i := 32) rfl))) (by decide) (backOf (W := 0) (rmp0_3 l Z a0 hw []  h0 n0 Z0 ) hZ (hw _ (List.mem_of_getElem? (i := 32) rfl)) (hw _ (List.mem_of_getElem? (i := 31) rfl)) (by decide) (by decide)) (g := (mkF m 3 #[.val (.int (0 : Int32)), .val (.int (3 : Int32))] [.null, (.int (3 : Int32)), (.int (0 : Int32))])) rfl (by rw [hml]; rfl) (argsL := [(.int (0 : Int32)), (.int (3 : Int32)), .null]) (rest := []) (lenOf pd_4 rfl) rfl (by show 2 * 0 + _ ≤ _; exact Nat.le_of_eq rfl) (hb hby do0_1_3) (fun _ _ => ⟨rfl, e0, (by decide : 0 + 0 ≤ _), (by decide : 0 + 0 ≤ _)⟩)
  dsimp only [Pt.U, Pt.locs, Pt.cells, Pt.slots] at X1 l1 y1 z1 st1 hQ1
  subst l1 y1 z1
  obtain ⟨rfl, pp1, N1, e1⟩ := hQ1
  have N1a := Fr.app N0 N1
  refine own_by st1 ?_
  show own_Go p e below (Qo0_3 Z  h0 n0) (own_Fr s ({ frames := 1, cells := 0, slots := 0, locals := 14 } : Room).cells ({ frames := 1, cells := 0, slots := 0, locals := 14 } : Room).slots) (T1.setTop (mkF m 6 #[.val (.int (0 : Int32)), .val (.int (3 : Int32))] [(.int (0 : Int32))]))
  refine own_ret X1 hx Bd.returns Bd.notSynchronized (Or.inl ⟨rfl, by simp, _, rfl⟩) (hb hby do0_1_6) rfl (by decide) (by decide) ?_
  show Qo0_3 Z  h0 n0 _ T1.heap _
  rw [e1]
  exact ⟨rfl, trivial, N1a, rfl⟩
theorem ef_o1_3 (m : MethodId)  : entryFrame m #[(.int (1 : Int32)), (.int (3 : Int32))] 2 = mkF m 0 #[.val (.int (1 : Int32)), .val (.int (3 : Int32))] [] := by first | (simp [entryFrame, mkF, argsToLocals, Value.category, maxLocals]; done) | rfl
def Qo1_3 (Z : State)  (h0 : Heap) (n0 : Nat) (v : Option Value) (h : Heap) (L : List Loc) : Prop := v = some (.int (1 : Int32)) ∧ (True) ∧ Fr n0 L ∧ h = h0
set_option maxRecDepth 65536 in
set_option maxHeartbeats 40000000 in
theorem rmo1_3 (l : Launch) (Z : State) (a0 : Array Value) (hw : ∀ d ∈ tables_1, d.before a0 Z = true) (ws : List Jvm.Cond)  (h0 : Heap) (n0 : Nat) (Z0 : n0 ≤ h0.size) :
    MetFree l (⟨"java/util/Objects", "checkIndex", "(II)I"⟩ : MethodName) (head1 (Jvm.Cond.code (⟨"java/util/Objects", "checkIndex", "(II)I"⟩ : MethodName) jdk_31_method_17_code 2 (some .int) :: ws) ({ frames := 1, cells := 0, slots := 0, locals := 14 } : Room)) (fun a U => a = #[(.int (1 : Int32)), (.int (3 : Int32))] ∧ Z.Warmed39 U.vm ∧ U.heap = h0) (fun _ _ _ _ _ => True) (fun _ U o U' => ∃ v L, o = .returned v ∧ Qo1_3 Z  h0 n0 v U'.heap L ∧ FrameEnd U o U' L ({ frames := 1, cells := 0, slots := 0, locals := 14 } : Room).cells ({ frames := 1, cells := 0, slots := 0, locals := 14 } : Room).slots) := by
  refine MetFree.of_bodySF (plainFor_of_name pn_3) hisR ?_
  intro p e s m args below meth c s₁ Bd hml0 hP hK
  obtain ⟨rfl, hZ, hh⟩ := hP
  have hx := Bd.exec
  have hby := Bd.bytes
  have hml : c.maxLocals = 2 := hml0
  have hown : s.vm.findClass "java/util/Objects" = some m.cls := findClass_of_methodNamed Bd.named
  have hnm := (name_of_methodNamed Bd.named Bd.method).1
  have X0 : Stand p l e ({ frames := 1, cells := 0, slots := 0, locals := 14 } : Room) s m #[(.int (1 : Int32)), (.int (3 : Int32))] below meth c s₁ [] 0 0 := Stand.of_body Bd
  have e0 : s₁.heap = h0 := by rw [← hh, Bd.state]; rfl
  have N0 := Fr.nil n0
  change own_Go p e below (Qo1_3 Z  h0 n0) (own_Fr s ({ frames := 1, cells := 0, slots := 0, locals := 14 } : Room).cells ({ frames := 1, cells := 0, slots := 0, locals := 14 } : Room).slots) (s₁.setTop (entryFrame m #[(.int (1 : Int32)), (.int (3 : Int32))] 2))
  rw [ef_o1_3 m ]
  refine own_iloadN (pc' := 1) X0 hx rfl (hb hby do0_1_0) rfl ?_
  refine own_iloadN (pc' := 2) X0 hx rfl (hb hby do0_1_1) rfl ?_
  refine own_aconstNull (pc' := 3) X0 hx (hb hby do0_1_2) rfl ?_
  obtain ⟨_, _, ⟨T1, L1, k1, n1⟩, -, X1, ⟨Lc1, hQ1, l1, y1, z1⟩, st1⟩ := Jvm.LawKit.callS X0 hx (y := (⟨"jdk/internal/util/Preconditions", "checkIndex", "(IILjava/util/function/BiFunction;)I"⟩ : MethodName)) hown (mvT hZ (hw _ (List.mem_of_getElem? (i := 29) rfl))) (mvT hZ (hw _ (List.mem_of_getElem? (i := 30) rfl))) (mvT hZ (hw _ (List.mem_of_getElem? (i := 31) rfl))) (mvT hZ (hw _ (List.mem_of_getElem? (i := 32) rfl))) (by decide) (backOf (W := 0) (rmp1_3 l Z a0 hw []  h0 n0 Z0 ) hZ (hw _ (List.mem_of_getElem? (i := 32) rfl)) (hw _ (List.mem_of_getElem? (i := 31) rfl)) (by decide) (by decide)) (g := (mkF m 3 #[.val (.int (1 : Int32)), .val (.int (3 : Int32))] [.null, (.int (3 : Int32)), (.int (1 : Int32))])) rfl (by rw [hml]; rfl) (argsL := [(.int (1 : Int32)), (.int (3 : Int32)), .null]) (rest := []) (lenOf pd_4 rfl) rfl (by show 2 * 0 + _ ≤ _; exact Nat.le_of_eq rfl) (hb hby do0_1_3) (fun _ _ => ⟨rfl, e0, (by decide : 0 + 0 ≤ _), (by decide : 0 + 0 ≤ _)⟩)
  dsimp only [Pt.U, Pt.locs, Pt.cells, Pt.slots] at X1 l1 y1 z1 st1 hQ1
  subst l1 y1 z1
  obtain ⟨rfl, pp1, N1, e1⟩ := hQ1
  have N1a := Fr.app N0 N1
  refine own_by st1 ?_
  show own_Go p e below (Qo1_3 Z  h0 n0) (own_Fr s ({ frames := 1, cells := 0, slots := 0, locals := 14 } : Room).cells ({ frames := 1, cells := 0, slots := 0, locals := 14 } : Room).slots) (T1.setTop (mkF m 6 #[.val (.int (1 : Int32)), .val (.int (3 : Int32))] [(.int (1 : Int32))]))
  refine own_ret X1 hx Bd.returns Bd.notSynchronized (Or.inl ⟨rfl, by simp, _, rfl⟩) (hb hby do0_1_6) rfl (by decide) (by decide) ?_
  show Qo1_3 Z  h0 n0 _ T1.heap _
  rw [e1]
  exact ⟨rfl, trivial, N1a, rfl⟩
theorem ef_o2_3 (m : MethodId)  : entryFrame m #[(.int (2 : Int32)), (.int (3 : Int32))] 2 = mkF m 0 #[.val (.int (2 : Int32)), .val (.int (3 : Int32))] [] := by first | (simp [entryFrame, mkF, argsToLocals, Value.category, maxLocals]; done) | rfl
def Qo2_3 (Z : State)  (h0 : Heap) (n0 : Nat) (v : Option Value) (h : Heap) (L : List Loc) : Prop := v = some (.int (2 : Int32)) ∧ (True) ∧ Fr n0 L ∧ h = h0
set_option maxRecDepth 65536 in
set_option maxHeartbeats 40000000 in
theorem rmo2_3 (l : Launch) (Z : State) (a0 : Array Value) (hw : ∀ d ∈ tables_1, d.before a0 Z = true) (ws : List Jvm.Cond)  (h0 : Heap) (n0 : Nat) (Z0 : n0 ≤ h0.size) :
    MetFree l (⟨"java/util/Objects", "checkIndex", "(II)I"⟩ : MethodName) (head1 (Jvm.Cond.code (⟨"java/util/Objects", "checkIndex", "(II)I"⟩ : MethodName) jdk_31_method_17_code 2 (some .int) :: ws) ({ frames := 1, cells := 0, slots := 0, locals := 14 } : Room)) (fun a U => a = #[(.int (2 : Int32)), (.int (3 : Int32))] ∧ Z.Warmed39 U.vm ∧ U.heap = h0) (fun _ _ _ _ _ => True) (fun _ U o U' => ∃ v L, o = .returned v ∧ Qo2_3 Z  h0 n0 v U'.heap L ∧ FrameEnd U o U' L ({ frames := 1, cells := 0, slots := 0, locals := 14 } : Room).cells ({ frames := 1, cells := 0, slots := 0, locals := 14 } : Room).slots) := by
  refine MetFree.of_bodySF (plainFor_of_name pn_3) hisR ?_
  intro p e s m args below meth c s₁ Bd hml0 hP hK
  obtain ⟨rfl, hZ, hh⟩ := hP
  have hx := Bd.exec
  have hby := Bd.bytes
  have hml : c.maxLocals = 2 := hml0
  have hown : s.vm.findClass "java/util/Objects" = some m.cls := findClass_of_methodNamed Bd.named
  have hnm := (name_of_methodNamed Bd.named Bd.method).1
  have X0 : Stand p l e ({ frames := 1, cells := 0, slots := 0, locals := 14 } : Room) s m #[(.int (2 : Int32)), (.int (3 : Int32))] below meth c s₁ [] 0 0 := Stand.of_body Bd
  have e0 : s₁.heap = h0 := by rw [← hh, Bd.state]; rfl
  have N0 := Fr.nil n0
  change own_Go p e below (Qo2_3 Z  h0 n0) (own_Fr s ({ frames := 1, cells := 0, slots := 0, locals := 14 } : Room).cells ({ frames := 1, cells := 0, slots := 0, locals := 14 } : Room).slots) (s₁.setTop (entryFrame m #[(.int (2 : Int32)), (.int (3 : Int32))] 2))
  rw [ef_o2_3 m ]
  refine own_iloadN (pc' := 1) X0 hx rfl (hb hby do0_1_0) rfl ?_
  refine own_iloadN (pc' := 2) X0 hx rfl (hb hby do0_1_1) rfl ?_
  refine own_aconstNull (pc' := 3) X0 hx (hb hby do0_1_2) rfl ?_
  obtain ⟨_, _, ⟨T1, L1, k1, n1⟩, -, X1, ⟨Lc1, hQ1, l1, y1, z1⟩, st1⟩ := Jvm.LawKit.callS X0 hx (y := (⟨"jdk/internal/util/Preconditions", "checkIndex", "(IILjava/util/function/BiFunction;)I"⟩ : MethodName)) hown (mvT hZ (hw _ (List.mem_of_getElem? (i := 29) rfl))) (mvT hZ (hw _ (List.mem_of_getElem? (i := 30) rfl))) (mvT hZ (hw _ (List.mem_of_getElem? (i := 31) rfl))) (mvT hZ (hw _ (List.mem_of_getElem? (i := 32) rfl))) (by decide) (backOf (W := 0) (rmp2_3 l Z a0 hw []  h0 n0 Z0 ) hZ (hw _ (List.mem_of_getElem? (i := 32) rfl)) (hw _ (List.mem_of_getElem? (i := 31) rfl)) (by decide) (by decide)) (g := (mkF m 3 #[.val (.int (2 : Int32)), .val (.int (3 : Int32))] [.null, (.int (3 : Int32)), (.int (2 : Int32))])) rfl (by rw [hml]; rfl) (argsL := [(.int (2 : Int32)), (.int (3 : Int32)), .null]) (rest := []) (lenOf pd_4 rfl) rfl (by show 2 * 0 + _ ≤ _; exact Nat.le_of_eq rfl) (hb hby do0_1_3) (fun _ _ => ⟨rfl, e0, (by decide : 0 + 0 ≤ _), (by decide : 0 + 0 ≤ _)⟩)
  dsimp only [Pt.U, Pt.locs, Pt.cells, Pt.slots] at X1 l1 y1 z1 st1 hQ1
  subst l1 y1 z1
  obtain ⟨rfl, pp1, N1, e1⟩ := hQ1
  have N1a := Fr.app N0 N1
  refine own_by st1 ?_
  show own_Go p e below (Qo2_3 Z  h0 n0) (own_Fr s ({ frames := 1, cells := 0, slots := 0, locals := 14 } : Room).cells ({ frames := 1, cells := 0, slots := 0, locals := 14 } : Room).slots) (T1.setTop (mkF m 6 #[.val (.int (2 : Int32)), .val (.int (3 : Int32))] [(.int (2 : Int32))]))
  refine own_ret X1 hx Bd.returns Bd.notSynchronized (Or.inl ⟨rfl, by simp, _, rfl⟩) (hb hby do0_1_6) rfl (by decide) (by decide) ?_
  show Qo2_3 Z  h0 n0 _ T1.heap _
  rw [e1]
  exact ⟨rfl, trivial, N1a, rfl⟩
theorem ef_o0_4 (m : MethodId)  : entryFrame m #[(.int (0 : Int32)), (.int (4 : Int32))] 2 = mkF m 0 #[.val (.int (0 : Int32)), .val (.int (4 : Int32))] [] := by first | (simp [entryFrame, mkF, argsToLocals, Value.category, maxLocals]; done) | rfl
def Qo0_4 (Z : State)  (h0 : Heap) (n0 : Nat) (v : Option Value) (h : Heap) (L : List Loc) : Prop := v = some (.int (0 : Int32)) ∧ (True) ∧ Fr n0 L ∧ h = h0
set_option maxRecDepth 65536 in
set_option maxHeartbeats 40000000 in
theorem rmo0_4 (l : Launch) (Z : State) (a0 : Array Value) (hw : ∀ d ∈ tables_1, d.before a0 Z = true) (ws : List Jvm.Cond)  (h0 : Heap) (n0 : Nat) (Z0 : n0 ≤ h0.size) :
    MetFree l (⟨"java/util/Objects", "checkIndex", "(II)I"⟩ : MethodName) (head1 (Jvm.Cond.code (⟨"java/util/Objects", "checkIndex", "(II)I"⟩ : MethodName) jdk_31_method_17_code 2 (some .int) :: ws) ({ frames := 1, cells := 0, slots := 0, locals := 14 } : Room)) (fun a U => a = #[(.int (0 : Int32)), (.int (4 : Int32))] ∧ Z.Warmed39 U.vm ∧ U.heap = h0) (fun _ _ _ _ _ => True) (fun _ U o U' => ∃ v L, o = .returned v ∧ Qo0_4 Z  h0 n0 v U'.heap L ∧ FrameEnd U o U' L ({ frames := 1, cells := 0, slots := 0, locals := 14 } : Room).cells ({ frames := 1, cells := 0, slots := 0, locals := 14 } : Room).slots) := by
  refine MetFree.of_bodySF (plainFor_of_name pn_3) hisR ?_
  intro p e s m args below meth c s₁ Bd hml0 hP hK
  obtain ⟨rfl, hZ, hh⟩ := hP
  have hx := Bd.exec
  have hby := Bd.bytes
  have hml : c.maxLocals = 2 := hml0
  have hown : s.vm.findClass "java/util/Objects" = some m.cls := findClass_of_methodNamed Bd.named
  have hnm := (name_of_methodNamed Bd.named Bd.method).1
  have X0 : Stand p l e ({ frames := 1, cells := 0, slots := 0, locals := 14 } : Room) s m #[(.int (0 : Int32)), (.int (4 : Int32))] below meth c s₁ [] 0 0 := Stand.of_body Bd
  have e0 : s₁.heap = h0 := by rw [← hh, Bd.state]; rfl
  have N0 := Fr.nil n0
  change own_Go p e below (Qo0_4 Z  h0 n0) (own_Fr s ({ frames := 1, cells := 0, slots := 0, locals := 14 } : Room).cells ({ frames := 1, cells := 0, slots := 0, locals := 14 } : Room).slots) (s₁.setTop (entryFrame m #[(.int (0 : Int32)), (.int (4 : Int32))] 2))
  rw [ef_o0_4 m ]
  refine own_iloadN (pc' := 1) X0 hx rfl (hb hby do0_1_0) rfl ?_
  refine own_iloadN (pc' := 2) X0 hx rfl (hb hby do0_1_1) rfl ?_
  refine own_aconstNull (pc' := 3) X0 hx (hb hby do0_1_2) rfl ?_
  obtain ⟨_, _, ⟨T1, L1, k1, n1⟩, -, X1, ⟨Lc1, hQ1, l1, y1, z1⟩, st1⟩ := Jvm.LawKit.callS X0 hx (y := (⟨"jdk/internal/util/Preconditions", "checkIndex", "(IILjava/util/function/BiFunction;)I"⟩ : MethodName)) hown (mvT hZ (hw _ (List.mem_of_getElem? (i := 29) rfl))) (mvT hZ (hw _ (List.mem_of_getElem? (i := 30) rfl))) (mvT hZ (hw _ (List.mem_of_getElem? (i := 31) rfl))) (mvT hZ (hw _ (List.mem_of_getElem? (i := 32) rfl))) (by decide) (backOf (W := 0) (rmp0_4 l Z a0 hw []  h0 n0 Z0 ) hZ (hw _ (List.mem_of_getElem? (i := 32) rfl)) (hw _ (List.mem_of_getElem? (i := 31) rfl)) (by decide) (by decide)) (g := (mkF m 3 #[.val (.int (0 : Int32)), .val (.int (4 : Int32))] [.null, (.int (4 : Int32)), (.int (0 : Int32))])) rfl (by rw [hml]; rfl) (argsL := [(.int (0 : Int32)), (.int (4 : Int32)), .null]) (rest := []) (lenOf pd_4 rfl) rfl (by show 2 * 0 + _ ≤ _; exact Nat.le_of_eq rfl) (hb hby do0_1_3) (fun _ _ => ⟨rfl, e0, (by decide : 0 + 0 ≤ _), (by decide : 0 + 0 ≤ _)⟩)
  dsimp only [Pt.U, Pt.locs, Pt.cells, Pt.slots] at X1 l1 y1 z1 st1 hQ1
  subst l1 y1 z1
  obtain ⟨rfl, pp1, N1, e1⟩ := hQ1
  have N1a := Fr.app N0 N1
  refine own_by st1 ?_
  show own_Go p e below (Qo0_4 Z  h0 n0) (own_Fr s ({ frames := 1, cells := 0, slots := 0, locals := 14 } : Room).cells ({ frames := 1, cells := 0, slots := 0, locals := 14 } : Room).slots) (T1.setTop (mkF m 6 #[.val (.int (0 : Int32)), .val (.int (4 : Int32))] [(.int (0 : Int32))]))
  refine own_ret X1 hx Bd.returns Bd.notSynchronized (Or.inl ⟨rfl, by simp, _, rfl⟩) (hb hby do0_1_6) rfl (by decide) (by decide) ?_
  show Qo0_4 Z  h0 n0 _ T1.heap _
  rw [e1]
  exact ⟨rfl, trivial, N1a, rfl⟩
theorem ef_o1_4 (m : MethodId)  : entryFrame m #[(.int (1 : Int32)), (.int (4 : Int32))] 2 = mkF m 0 #[.val (.int (1 : Int32)), .val (.int (4 : Int32))] [] := by first | (simp [entryFrame, mkF, argsToLocals, Value.category, maxLocals]; done) | rfl
def Qo1_4 (Z : State)  (h0 : Heap) (n0 : Nat) (v : Option Value) (h : Heap) (L : List Loc) : Prop := v = some (.int (1 : Int32)) ∧ (True) ∧ Fr n0 L ∧ h = h0
set_option maxRecDepth 65536 in
set_option maxHeartbeats 40000000 in
theorem rmo1_4 (l : Launch) (Z : State) (a0 : Array Value) (hw : ∀ d ∈ tables_1, d.before a0 Z = true) (ws : List Jvm.Cond)  (h0 : Heap) (n0 : Nat) (Z0 : n0 ≤ h0.size) :
    MetFree l (⟨"java/util/Objects", "checkIndex", "(II)I"⟩ : MethodName) (head1 (Jvm.Cond.code (⟨"java/util/Objects", "checkIndex", "(II)I"⟩ : MethodName) jdk_31_method_17_code 2 (some .int) :: ws) ({ frames := 1, cells := 0, slots := 0, locals := 14 } : Room)) (fun a U => a = #[(.int (1 : Int32)), (.int (4 : Int32))] ∧ Z.Warmed39 U.vm ∧ U.heap = h0) (fun _ _ _ _ _ => True) (fun _ U o U' => ∃ v L, o = .returned v ∧ Qo1_4 Z  h0 n0 v U'.heap L ∧ FrameEnd U o U' L ({ frames := 1, cells := 0, slots := 0, locals := 14 } : Room).cells ({ frames := 1, cells := 0, slots := 0, locals := 14 } : Room).slots) := by
  refine MetFree.of_bodySF (plainFor_of_name pn_3) hisR ?_
  intro p e s m args below meth c s₁ Bd hml0 hP hK
  obtain ⟨rfl, hZ, hh⟩ := hP
  have hx := Bd.exec
  have hby := Bd.bytes
  have hml : c.maxLocals = 2 := hml0
  have hown : s.vm.findClass "java/util/Objects" = some m.cls := findClass_of_methodNamed Bd.named
  have hnm := (name_of_methodNamed Bd.named Bd.method).1
  have X0 : Stand p l e ({ frames := 1, cells := 0, slots := 0, locals := 14 } : Room) s m #[(.int (1 : Int32)), (.int (4 : Int32))] below meth c s₁ [] 0 0 := Stand.of_body Bd
  have e0 : s₁.heap = h0 := by rw [← hh, Bd.state]; rfl
  have N0 := Fr.nil n0
  change own_Go p e below (Qo1_4 Z  h0 n0) (own_Fr s ({ frames := 1, cells := 0, slots := 0, locals := 14 } : Room).cells ({ frames := 1, cells := 0, slots := 0, locals := 14 } : Room).slots) (s₁.setTop (entryFrame m #[(.int (1 : Int32)), (.int (4 : Int32))] 2))
  rw [ef_o1_4 m ]
  refine own_iloadN (pc' := 1) X0 hx rfl (hb hby do0_1_0) rfl ?_
  refine own_iloadN (pc' := 2) X0 hx rfl (hb hby do0_1_1) rfl ?_
  refine own_aconstNull (pc' := 3) X0 hx (hb hby do0_1_2) rfl ?_
  obtain ⟨_, _, ⟨T1, L1, k1, n1⟩, -, X1, ⟨Lc1, hQ1, l1, y1, z1⟩, st1⟩ := Jvm.LawKit.callS X0 hx (y := (⟨"jdk/internal/util/Preconditions", "checkIndex", "(IILjava/util/function/BiFunction;)I"⟩ : MethodName)) hown (mvT hZ (hw _ (List.mem_of_getElem? (i := 29) rfl))) (mvT hZ (hw _ (List.mem_of_getElem? (i := 30) rfl))) (mvT hZ (hw _ (List.mem_of_getElem? (i := 31) rfl))) (mvT hZ (hw _ (List.mem_of_getElem? (i := 32) rfl))) (by decide) (backOf (W := 0) (rmp1_4 l Z a0 hw []  h0 n0 Z0 ) hZ (hw _ (List.mem_of_getElem? (i := 32) rfl)) (hw _ (List.mem_of_getElem? (i := 31) rfl)) (by decide) (by decide)) (g := (mkF m 3 #[.val (.int (1 : Int32)), .val (.int (4 : Int32))] [.null, (.int (4 : Int32)), (.int (1 : Int32))])) rfl (by rw [hml]; rfl) (argsL := [(.int (1 : Int32)), (.int (4 : Int32)), .null]) (rest := []) (lenOf pd_4 rfl) rfl (by show 2 * 0 + _ ≤ _; exact Nat.le_of_eq rfl) (hb hby do0_1_3) (fun _ _ => ⟨rfl, e0, (by decide : 0 + 0 ≤ _), (by decide : 0 + 0 ≤ _)⟩)
  dsimp only [Pt.U, Pt.locs, Pt.cells, Pt.slots] at X1 l1 y1 z1 st1 hQ1
  subst l1 y1 z1
  obtain ⟨rfl, pp1, N1, e1⟩ := hQ1
  have N1a := Fr.app N0 N1
  refine own_by st1 ?_
  show own_Go p e below (Qo1_4 Z  h0 n0) (own_Fr s ({ frames := 1, cells := 0, slots := 0, locals := 14 } : Room).cells ({ frames := 1, cells := 0, slots := 0, locals := 14 } : Room).slots) (T1.setTop (mkF m 6 #[.val (.int (1 : Int32)), .val (.int (4 : Int32))] [(.int (1 : Int32))]))
  refine own_ret X1 hx Bd.returns Bd.notSynchronized (Or.inl ⟨rfl, by simp, _, rfl⟩) (hb hby do0_1_6) rfl (by decide) (by decide) ?_
  show Qo1_4 Z  h0 n0 _ T1.heap _
  rw [e1]
  exact ⟨rfl, trivial, N1a, rfl⟩
theorem ef_o2_4 (m : MethodId)  : entryFrame m #[(.int (2 : Int32)), (.int (4 : Int32))] 2 = mkF m 0 #[.val (.int (2 : Int32)), .val (.int (4 : Int32))] [] := by first | (simp [entryFrame, mkF, argsToLocals, Value.category, maxLocals]; done) | rfl
def Qo2_4 (Z : State)  (h0 : Heap) (n0 : Nat) (v : Option Value) (h : Heap) (L : List Loc) : Prop := v = some (.int (2 : Int32)) ∧ (True) ∧ Fr n0 L ∧ h = h0
set_option maxRecDepth 65536 in
set_option maxHeartbeats 40000000 in
theorem rmo2_4 (l : Launch) (Z : State) (a0 : Array Value) (hw : ∀ d ∈ tables_1, d.before a0 Z = true) (ws : List Jvm.Cond)  (h0 : Heap) (n0 : Nat) (Z0 : n0 ≤ h0.size) :
    MetFree l (⟨"java/util/Objects", "checkIndex", "(II)I"⟩ : MethodName) (head1 (Jvm.Cond.code (⟨"java/util/Objects", "checkIndex", "(II)I"⟩ : MethodName) jdk_31_method_17_code 2 (some .int) :: ws) ({ frames := 1, cells := 0, slots := 0, locals := 14 } : Room)) (fun a U => a = #[(.int (2 : Int32)), (.int (4 : Int32))] ∧ Z.Warmed39 U.vm ∧ U.heap = h0) (fun _ _ _ _ _ => True) (fun _ U o U' => ∃ v L, o = .returned v ∧ Qo2_4 Z  h0 n0 v U'.heap L ∧ FrameEnd U o U' L ({ frames := 1, cells := 0, slots := 0, locals := 14 } : Room).cells ({ frames := 1, cells := 0, slots := 0, locals := 14 } : Room).slots) := by
  refine MetFree.of_bodySF (plainFor_of_name pn_3) hisR ?_
  intro p e s m args below meth c s₁ Bd hml0 hP hK
  obtain ⟨rfl, hZ, hh⟩ := hP
  have hx := Bd.exec
  have hby := Bd.bytes
  have hml : c.maxLocals = 2 := hml0
  have hown : s.vm.findClass "java/util/Objects" = some m.cls := findClass_of_methodNamed Bd.named
  have hnm := (name_of_methodNamed Bd.named Bd.method).1
  have X0 : Stand p l e ({ frames := 1, cells := 0, slots := 0, locals := 14 } : Room) s m #[(.int (2 : Int32)), (.int (4 : Int32))] below meth c s₁ [] 0 0 := Stand.of_body Bd
  have e0 : s₁.heap = h0 := by rw [← hh, Bd.state]; rfl
  have N0 := Fr.nil n0
  change own_Go p e below (Qo2_4 Z  h0 n0) (own_Fr s ({ frames := 1, cells := 0, slots := 0, locals := 14 } : Room).cells ({ frames := 1, cells := 0, slots := 0, locals := 14 } : Room).slots) (s₁.setTop (entryFrame m #[(.int (2 : Int32)), (.int (4 : Int32))] 2))
  rw [ef_o2_4 m ]
  refine own_iloadN (pc' := 1) X0 hx rfl (hb hby do0_1_0) rfl ?_
  refine own_iloadN (pc' := 2) X0 hx rfl (hb hby do0_1_1) rfl ?_
  refine own_aconstNull (pc' := 3) X0 hx (hb hby do0_1_2) rfl ?_
  obtain ⟨_, _, ⟨T1, L1, k1, n1⟩, -, X1, ⟨Lc1, hQ1, l1, y1, z1⟩, st1⟩ := Jvm.LawKit.callS X0 hx (y := (⟨"jdk/internal/util/Preconditions", "checkIndex", "(IILjava/util/function/BiFunction;)I"⟩ : MethodName)) hown (mvT hZ (hw _ (List.mem_of_getElem? (i := 29) rfl))) (mvT hZ (hw _ (List.mem_of_getElem? (i := 30) rfl))) (mvT hZ (hw _ (List.mem_of_getElem? (i := 31) rfl))) (mvT hZ (hw _ (List.mem_of_getElem? (i := 32) rfl))) (by decide) (backOf (W := 0) (rmp2_4 l Z a0 hw []  h0 n0 Z0 ) hZ (hw _ (List.mem_of_getElem? (i := 32) rfl)) (hw _ (List.mem_of_getElem? (i := 31) rfl)) (by decide) (by decide)) (g := (mkF m 3 #[.val (.int (2 : Int32)), .val (.int (4 : Int32))] [.null, (.int (4 : Int32)), (.int (2 : Int32))])) rfl (by rw [hml]; rfl) (argsL := [(.int (2 : Int32)), (.int (4 : Int32)), .null]) (rest := []) (lenOf pd_4 rfl) rfl (by show 2 * 0 + _ ≤ _; exact Nat.le_of_eq rfl) (hb hby do0_1_3) (fun _ _ => ⟨rfl, e0, (by decide : 0 + 0 ≤ _), (by decide : 0 + 0 ≤ _)⟩)
  dsimp only [Pt.U, Pt.locs, Pt.cells, Pt.slots] at X1 l1 y1 z1 st1 hQ1
  subst l1 y1 z1
  obtain ⟨rfl, pp1, N1, e1⟩ := hQ1
  have N1a := Fr.app N0 N1
  refine own_by st1 ?_
  show own_Go p e below (Qo2_4 Z  h0 n0) (own_Fr s ({ frames := 1, cells := 0, slots := 0, locals := 14 } : Room).cells ({ frames := 1, cells := 0, slots := 0, locals := 14 } : Room).slots) (T1.setTop (mkF m 6 #[.val (.int (2 : Int32)), .val (.int (4 : Int32))] [(.int (2 : Int32))]))
  refine own_ret X1 hx Bd.returns Bd.notSynchronized (Or.inl ⟨rfl, by simp, _, rfl⟩) (hb hby do0_1_6) rfl (by decide) (by decide) ?_
  show Qo2_4 Z  h0 n0 _ T1.heap _
  rw [e1]
  exact ⟨rfl, trivial, N1a, rfl⟩
theorem ef_o3_4 (m : MethodId)  : entryFrame m #[(.int (3 : Int32)), (.int (4 : Int32))] 2 = mkF m 0 #[.val (.int (3 : Int32)), .val (.int (4 : Int32))] [] := by first | (simp [entryFrame, mkF, argsToLocals, Value.category, maxLocals]; done) | rfl
def Qo3_4 (Z : State)  (h0 : Heap) (n0 : Nat) (v : Option Value) (h : Heap) (L : List Loc) : Prop := v = some (.int (3 : Int32)) ∧ (True) ∧ Fr n0 L ∧ h = h0
set_option maxRecDepth 65536 in
set_option maxHeartbeats 40000000 in
theorem rmo3_4 (l : Launch) (Z : State) (a0 : Array Value) (hw : ∀ d ∈ tables_1, d.before a0 Z = true) (ws : List Jvm.Cond)  (h0 : Heap) (n0 : Nat) (Z0 : n0 ≤ h0.size) :
    MetFree l (⟨"java/util/Objects", "checkIndex", "(II)I"⟩ : MethodName) (head1 (Jvm.Cond.code (⟨"java/util/Objects", "checkIndex", "(II)I"⟩ : MethodName) jdk_31_method_17_code 2 (some .int) :: ws) ({ frames := 1, cells := 0, slots := 0, locals := 14 } : Room)) (fun a U => a = #[(.int (3 : Int32)), (.int (4 : Int32))] ∧ Z.Warmed39 U.vm ∧ U.heap = h0) (fun _ _ _ _ _ => True) (fun _ U o U' => ∃ v L, o = .returned v ∧ Qo3_4 Z  h0 n0 v U'.heap L ∧ FrameEnd U o U' L ({ frames := 1, cells := 0, slots := 0, locals := 14 } : Room).cells ({ frames := 1, cells := 0, slots := 0, locals := 14 } : Room).slots) := by
  refine MetFree.of_bodySF (plainFor_of_name pn_3) hisR ?_
  intro p e s m args below meth c s₁ Bd hml0 hP hK
  obtain ⟨rfl, hZ, hh⟩ := hP
  have hx := Bd.exec
  have hby := Bd.bytes
  have hml : c.maxLocals = 2 := hml0
  have hown : s.vm.findClass "java/util/Objects" = some m.cls := findClass_of_methodNamed Bd.named
  have hnm := (name_of_methodNamed Bd.named Bd.method).1
  have X0 : Stand p l e ({ frames := 1, cells := 0, slots := 0, locals := 14 } : Room) s m #[(.int (3 : Int32)), (.int (4 : Int32))] below meth c s₁ [] 0 0 := Stand.of_body Bd
  have e0 : s₁.heap = h0 := by rw [← hh, Bd.state]; rfl
  have N0 := Fr.nil n0
  change own_Go p e below (Qo3_4 Z  h0 n0) (own_Fr s ({ frames := 1, cells := 0, slots := 0, locals := 14 } : Room).cells ({ frames := 1, cells := 0, slots := 0, locals := 14 } : Room).slots) (s₁.setTop (entryFrame m #[(.int (3 : Int32)), (.int (4 : Int32))] 2))
  rw [ef_o3_4 m ]
  refine own_iloadN (pc' := 1) X0 hx rfl (hb hby do0_1_0) rfl ?_
  refine own_iloadN (pc' := 2) X0 hx rfl (hb hby do0_1_1) rfl ?_
  refine own_aconstNull (pc' := 3) X0 hx (hb hby do0_1_2) rfl ?_
  obtain ⟨_, _, ⟨T1, L1, k1, n1⟩, -, X1, ⟨Lc1, hQ1, l1, y1, z1⟩, st1⟩ := Jvm.LawKit.callS X0 hx (y := (⟨"jdk/internal/util/Preconditions", "checkIndex", "(IILjava/util/function/BiFunction;)I"⟩ : MethodName)) hown (mvT hZ (hw _ (List.mem_of_getElem? (i := 29) rfl))) (mvT hZ (hw _ (List.mem_of_getElem? (i := 30) rfl))) (mvT hZ (hw _ (List.mem_of_getElem? (i := 31) rfl))) (mvT hZ (hw _ (List.mem_of_getElem? (i := 32) rfl))) (by decide) (backOf (W := 0) (rmp3_4 l Z a0 hw []  h0 n0 Z0 ) hZ (hw _ (List.mem_of_getElem? (i := 32) rfl)) (hw _ (List.mem_of_getElem? (i := 31) rfl)) (by decide) (by decide)) (g := (mkF m 3 #[.val (.int (3 : Int32)), .val (.int (4 : Int32))] [.null, (.int (4 : Int32)), (.int (3 : Int32))])) rfl (by rw [hml]; rfl) (argsL := [(.int (3 : Int32)), (.int (4 : Int32)), .null]) (rest := []) (lenOf pd_4 rfl) rfl (by show 2 * 0 + _ ≤ _; exact Nat.le_of_eq rfl) (hb hby do0_1_3) (fun _ _ => ⟨rfl, e0, (by decide : 0 + 0 ≤ _), (by decide : 0 + 0 ≤ _)⟩)
  dsimp only [Pt.U, Pt.locs, Pt.cells, Pt.slots] at X1 l1 y1 z1 st1 hQ1
  subst l1 y1 z1
  obtain ⟨rfl, pp1, N1, e1⟩ := hQ1
  have N1a := Fr.app N0 N1
  refine own_by st1 ?_
  show own_Go p e below (Qo3_4 Z  h0 n0) (own_Fr s ({ frames := 1, cells := 0, slots := 0, locals := 14 } : Room).cells ({ frames := 1, cells := 0, slots := 0, locals := 14 } : Room).slots) (T1.setTop (mkF m 6 #[.val (.int (3 : Int32)), .val (.int (4 : Int32))] [(.int (3 : Int32))]))
  refine own_ret X1 hx Bd.returns Bd.notSynchronized (Or.inl ⟨rfl, by simp, _, rfl⟩) (hb hby do0_1_6) rfl (by decide) (by decide) ?_
  show Qo3_4 Z  h0 n0 _ T1.heap _
  rw [e1]
  exact ⟨rfl, trivial, N1a, rfl⟩
theorem ef_o0_5 (m : MethodId)  : entryFrame m #[(.int (0 : Int32)), (.int (5 : Int32))] 2 = mkF m 0 #[.val (.int (0 : Int32)), .val (.int (5 : Int32))] [] := by first | (simp [entryFrame, mkF, argsToLocals, Value.category, maxLocals]; done) | rfl
def Qo0_5 (Z : State)  (h0 : Heap) (n0 : Nat) (v : Option Value) (h : Heap) (L : List Loc) : Prop := v = some (.int (0 : Int32)) ∧ (True) ∧ Fr n0 L ∧ h = h0
set_option maxRecDepth 65536 in
set_option maxHeartbeats 40000000 in
theorem rmo0_5 (l : Launch) (Z : State) (a0 : Array Value) (hw : ∀ d ∈ tables_1, d.before a0 Z = true) (ws : List Jvm.Cond)  (h0 : Heap) (n0 : Nat) (Z0 : n0 ≤ h0.size) :
    MetFree l (⟨"java/util/Objects", "checkIndex", "(II)I"⟩ : MethodName) (head1 (Jvm.Cond.code (⟨"java/util/Objects", "checkIndex", "(II)I"⟩ : MethodName) jdk_31_method_17_code 2 (some .int) :: ws) ({ frames := 1, cells := 0, slots := 0, locals := 14 } : Room)) (fun a U => a = #[(.int (0 : Int32)), (.int (5 : Int32))] ∧ Z.Warmed39 U.vm ∧ U.heap = h0) (fun _ _ _ _ _ => True) (fun _ U o U' => ∃ v L, o = .returned v ∧ Qo0_5 Z  h0 n0 v U'.heap L ∧ FrameEnd U o U' L ({ frames := 1, cells := 0, slots := 0, locals := 14 } : Room).cells ({ frames := 1, cells := 0, slots := 0, locals := 14 } : Room).slots) := by
  refine MetFree.of_bodySF (plainFor_of_name pn_3) hisR ?_
  intro p e s m args below meth c s₁ Bd hml0 hP hK
  obtain ⟨rfl, hZ, hh⟩ := hP
  have hx := Bd.exec
  have hby := Bd.bytes
  have hml : c.maxLocals = 2 := hml0
  have hown : s.vm.findClass "java/util/Objects" = some m.cls := findClass_of_methodNamed Bd.named
  have hnm := (name_of_methodNamed Bd.named Bd.method).1
  have X0 : Stand p l e ({ frames := 1, cells := 0, slots := 0, locals := 14 } : Room) s m #[(.int (0 : Int32)), (.int (5 : Int32))] below meth c s₁ [] 0 0 := Stand.of_body Bd
  have e0 : s₁.heap = h0 := by rw [← hh, Bd.state]; rfl
  have N0 := Fr.nil n0
  change own_Go p e below (Qo0_5 Z  h0 n0) (own_Fr s ({ frames := 1, cells := 0, slots := 0, locals := 14 } : Room).cells ({ frames := 1, cells := 0, slots := 0, locals := 14 } : Room).slots) (s₁.setTop (entryFrame m #[(.int (0 : Int32)), (.int (5 : Int32))] 2))
  rw [ef_o0_5 m ]
  refine own_iloadN (pc' := 1) X0 hx rfl (hb hby do0_1_0) rfl ?_
  refine own_iloadN (pc' := 2) X0 hx rfl (hb hby do0_1_1) rfl ?_
  refine own_aconstNull (pc' := 3) X0 hx (hb hby do0_1_2) rfl ?_
  obtain ⟨_, _, ⟨T1, L1, k1, n1⟩, -, X1, ⟨Lc1, hQ1, l1, y1, z1⟩, st1⟩ := Jvm.LawKit.callS X0 hx (y := (⟨"jdk/internal/util/Preconditions", "checkIndex", "(IILjava/util/function/BiFunction;)I"⟩ : MethodName)) hown (mvT hZ (hw _ (List.mem_of_getElem? (i := 29) rfl))) (mvT hZ (hw _ (List.mem_of_getElem? (i := 30) rfl))) (mvT hZ (hw _ (List.mem_of_getElem? (i := 31) rfl))) (mvT hZ (hw _ (List.mem_of_getElem? (i := 32) rfl))) (by decide) (backOf (W := 0) (rmp0_5 l Z a0 hw []  h0 n0 Z0 ) hZ (hw _ (List.mem_of_getElem? (i := 32) rfl)) (hw _ (List.mem_of_getElem? (i := 31) rfl)) (by decide) (by decide)) (g := (mkF m 3 #[.val (.int (0 : Int32)), .val (.int (5 : Int32))] [.null, (.int (5 : Int32)), (.int (0 : Int32))])) rfl (by rw [hml]; rfl) (argsL := [(.int (0 : Int32)), (.int (5 : Int32)), .null]) (rest := []) (lenOf pd_4 rfl) rfl (by show 2 * 0 + _ ≤ _; exact Nat.le_of_eq rfl) (hb hby do0_1_3) (fun _ _ => ⟨rfl, e0, (by decide : 0 + 0 ≤ _), (by decide : 0 + 0 ≤ _)⟩)
  dsimp only [Pt.U, Pt.locs, Pt.cells, Pt.slots] at X1 l1 y1 z1 st1 hQ1
  subst l1 y1 z1
  obtain ⟨rfl, pp1, N1, e1⟩ := hQ1
  have N1a := Fr.app N0 N1
  refine own_by st1 ?_
  show own_Go p e below (Qo0_5 Z  h0 n0) (own_Fr s ({ frames := 1, cells := 0, slots := 0, locals := 14 } : Room).cells ({ frames := 1, cells := 0, slots := 0, locals := 14 } : Room).slots) (T1.setTop (mkF m 6 #[.val (.int (0 : Int32)), .val (.int (5 : Int32))] [(.int (0 : Int32))]))
  refine own_ret X1 hx Bd.returns Bd.notSynchronized (Or.inl ⟨rfl, by simp, _, rfl⟩) (hb hby do0_1_6) rfl (by decide) (by decide) ?_
  show Qo0_5 Z  h0 n0 _ T1.heap _
  rw [e1]
  exact ⟨rfl, trivial, N1a, rfl⟩
theorem ef_o1_5 (m : MethodId)  : entryFrame m #[(.int (1 : Int32)), (.int (5 : Int32))] 2 = mkF m 0 #[.val (.int (1 : Int32)), .val (.int (5 : Int32))] [] := by first | (simp [entryFrame, mkF, argsToLocals, Value.category, maxLocals]; done) | rfl
def Qo1_5 (Z : State)  (h0 : Heap) (n0 : Nat) (v : Option Value) (h : Heap) (L : List Loc) : Prop := v = some (.int (1 : Int32)) ∧ (True) ∧ Fr n0 L ∧ h = h0
set_option maxRecDepth 65536 in
set_option maxHeartbeats 40000000 in
theorem rmo1_5 (l : Launch) (Z : State) (a0 : Array Value) (hw : ∀ d ∈ tables_1, d.before a0 Z = true) (ws : List Jvm.Cond)  (h0 : Heap) (n0 : Nat) (Z0 : n0 ≤ h0.size) :
    MetFree l (⟨"java/util/Objects", "checkIndex", "(II)I"⟩ : MethodName) (head1 (Jvm.Cond.code (⟨"java/util/Objects", "checkIndex", "(II)I"⟩ : MethodName) jdk_31_method_17_code 2 (some .int) :: ws) ({ frames := 1, cells := 0, slots := 0, locals := 14 } : Room)) (fun a U => a = #[(.int (1 : Int32)), (.int (5 : Int32))] ∧ Z.Warmed39 U.vm ∧ U.heap = h0) (fun _ _ _ _ _ => True) (fun _ U o U' => ∃ v L, o = .returned v ∧ Qo1_5 Z  h0 n0 v U'.heap L ∧ FrameEnd U o U' L ({ frames := 1, cells := 0, slots := 0, locals := 14 } : Room).cells ({ frames := 1, cells := 0, slots := 0, locals := 14 } : Room).slots) := by
  refine MetFree.of_bodySF (plainFor_of_name pn_3) hisR ?_
  intro p e s m args below meth c s₁ Bd hml0 hP hK
  obtain ⟨rfl, hZ, hh⟩ := hP
  have hx := Bd.exec
  have hby := Bd.bytes
  have hml : c.maxLocals = 2 := hml0
  have hown : s.vm.findClass "java/util/Objects" = some m.cls := findClass_of_methodNamed Bd.named
  have hnm := (name_of_methodNamed Bd.named Bd.method).1
  have X0 : Stand p l e ({ frames := 1, cells := 0, slots := 0, locals := 14 } : Room) s m #[(.int (1 : Int32)), (.int (5 : Int32))] below meth c s₁ [] 0 0 := Stand.of_body Bd
  have e0 : s₁.heap = h0 := by rw [← hh, Bd.state]; rfl
  have N0 := Fr.nil n0
  change own_Go p e below (Qo1_5 Z  h0 n0) (own_Fr s ({ frames := 1, cells := 0, slots := 0, locals := 14 } : Room).cells ({ frames := 1, cells := 0, slots := 0, locals := 14 } : Room).slots) (s₁.setTop (entryFrame m #[(.int (1 : Int32)), (.int (5 : Int32))] 2))
  rw [ef_o1_5 m ]
  refine own_iloadN (pc' := 1) X0 hx rfl (hb hby do0_1_0) rfl ?_
  refine own_iloadN (pc' := 2) X0 hx rfl (hb hby do0_1_1) rfl ?_
  refine own_aconstNull (pc' := 3) X0 hx (hb hby do0_1_2) rfl ?_
  obtain ⟨_, _, ⟨T1, L1, k1, n1⟩, -, X1, ⟨Lc1, hQ1, l1, y1, z1⟩, st1⟩ := Jvm.LawKit.callS X0 hx (y := (⟨"jdk/internal/util/Preconditions", "checkIndex", "(IILjava/util/function/BiFunction;)I"⟩ : MethodName)) hown (mvT hZ (hw _ (List.mem_of_getElem? (i := 29) rfl))) (mvT hZ (hw _ (List.mem_of_getElem? (i := 30) rfl))) (mvT hZ (hw _ (List.mem_of_getElem? (i := 31) rfl))) (mvT hZ (hw _ (List.mem_of_getElem? (i := 32) rfl))) (by decide) (backOf (W := 0) (rmp1_5 l Z a0 hw []  h0 n0 Z0 ) hZ (hw _ (List.mem_of_getElem? (i := 32) rfl)) (hw _ (List.mem_of_getElem? (i := 31) rfl)) (by decide) (by decide)) (g := (mkF m 3 #[.val (.int (1 : Int32)), .val (.int (5 : Int32))] [.null, (.int (5 : Int32)), (.int (1 : Int32))])) rfl (by rw [hml]; rfl) (argsL := [(.int (1 : Int32)), (.int (5 : Int32)), .null]) (rest := []) (lenOf pd_4 rfl) rfl (by show 2 * 0 + _ ≤ _; exact Nat.le_of_eq rfl) (hb hby do0_1_3) (fun _ _ => ⟨rfl, e0, (by decide : 0 + 0 ≤ _), (by decide : 0 + 0 ≤ _)⟩)
  dsimp only [Pt.U, Pt.locs, Pt.cells, Pt.slots] at X1 l1 y1 z1 st1 hQ1
  subst l1 y1 z1
  obtain ⟨rfl, pp1, N1, e1⟩ := hQ1
  have N1a := Fr.app N0 N1
  refine own_by st1 ?_
  show own_Go p e below (Qo1_5 Z  h0 n0) (own_Fr s ({ frames := 1, cells := 0, slots := 0, locals := 14 } : Room).cells ({ frames := 1, cells := 0, slots := 0, locals := 14 } : Room).slots) (T1.setTop (mkF m 6 #[.val (.int (1 : Int32)), .val (.int (5 : Int32))] [(.int (1 : Int32))]))
  refine own_ret X1 hx Bd.returns Bd.notSynchronized (Or.inl ⟨rfl, by simp, _, rfl⟩) (hb hby do0_1_6) rfl (by decide) (by decide) ?_
  show Qo1_5 Z  h0 n0 _ T1.heap _
  rw [e1]
  exact ⟨rfl, trivial, N1a, rfl⟩
theorem ef_o2_5 (m : MethodId)  : entryFrame m #[(.int (2 : Int32)), (.int (5 : Int32))] 2 = mkF m 0 #[.val (.int (2 : Int32)), .val (.int (5 : Int32))] [] := by first | (simp [entryFrame, mkF, argsToLocals, Value.category, maxLocals]; done) | rfl
def Qo2_5 (Z : State)  (h0 : Heap) (n0 : Nat) (v : Option Value) (h : Heap) (L : List Loc) : Prop := v = some (.int (2 : Int32)) ∧ (True) ∧ Fr n0 L ∧ h = h0
set_option maxRecDepth 65536 in
set_option maxHeartbeats 40000000 in
theorem rmo2_5 (l : Launch) (Z : State) (a0 : Array Value) (hw : ∀ d ∈ tables_1, d.before a0 Z = true) (ws : List Jvm.Cond)  (h0 : Heap) (n0 : Nat) (Z0 : n0 ≤ h0.size) :
    MetFree l (⟨"java/util/Objects", "checkIndex", "(II)I"⟩ : MethodName) (head1 (Jvm.Cond.code (⟨"java/util/Objects", "checkIndex", "(II)I"⟩ : MethodName) jdk_31_method_17_code 2 (some .int) :: ws) ({ frames := 1, cells := 0, slots := 0, locals := 14 } : Room)) (fun a U => a = #[(.int (2 : Int32)), (.int (5 : Int32))] ∧ Z.Warmed39 U.vm ∧ U.heap = h0) (fun _ _ _ _ _ => True) (fun _ U o U' => ∃ v L, o = .returned v ∧ Qo2_5 Z  h0 n0 v U'.heap L ∧ FrameEnd U o U' L ({ frames := 1, cells := 0, slots := 0, locals := 14 } : Room).cells ({ frames := 1, cells := 0, slots := 0, locals := 14 } : Room).slots) := by
  refine MetFree.of_bodySF (plainFor_of_name pn_3) hisR ?_
  intro p e s m args below meth c s₁ Bd hml0 hP hK
  obtain ⟨rfl, hZ, hh⟩ := hP
  have hx := Bd.exec
  have hby := Bd.bytes
  have hml : c.maxLocals = 2 := hml0
  have hown : s.vm.findClass "java/util/Objects" = some m.cls := findClass_of_methodNamed Bd.named
  have hnm := (name_of_methodNamed Bd.named Bd.method).1
  have X0 : Stand p l e ({ frames := 1, cells := 0, slots := 0, locals := 14 } : Room) s m #[(.int (2 : Int32)), (.int (5 : Int32))] below meth c s₁ [] 0 0 := Stand.of_body Bd
  have e0 : s₁.heap = h0 := by rw [← hh, Bd.state]; rfl
  have N0 := Fr.nil n0
  change own_Go p e below (Qo2_5 Z  h0 n0) (own_Fr s ({ frames := 1, cells := 0, slots := 0, locals := 14 } : Room).cells ({ frames := 1, cells := 0, slots := 0, locals := 14 } : Room).slots) (s₁.setTop (entryFrame m #[(.int (2 : Int32)), (.int (5 : Int32))] 2))
  rw [ef_o2_5 m ]
  refine own_iloadN (pc' := 1) X0 hx rfl (hb hby do0_1_0) rfl ?_
  refine own_iloadN (pc' := 2) X0 hx rfl (hb hby do0_1_1) rfl ?_
  refine own_aconstNull (pc' := 3) X0 hx (hb hby do0_1_2) rfl ?_
  obtain ⟨_, _, ⟨T1, L1, k1, n1⟩, -, X1, ⟨Lc1, hQ1, l1, y1, z1⟩, st1⟩ := Jvm.LawKit.callS X0 hx (y := (⟨"jdk/internal/util/Preconditions", "checkIndex", "(IILjava/util/function/BiFunction;)I"⟩ : MethodName)) hown (mvT hZ (hw _ (List.mem_of_getElem? (i := 29) rfl))) (mvT hZ (hw _ (List.mem_of_getElem? (i := 30) rfl))) (mvT hZ (hw _ (List.mem_of_getElem? (i := 31) rfl))) (mvT hZ (hw _ (List.mem_of_getElem? (i := 32) rfl))) (by decide) (backOf (W := 0) (rmp2_5 l Z a0 hw []  h0 n0 Z0 ) hZ (hw _ (List.mem_of_getElem? (i := 32) rfl)) (hw _ (List.mem_of_getElem? (i := 31) rfl)) (by decide) (by decide)) (g := (mkF m 3 #[.val (.int (2 : Int32)), .val (.int (5 : Int32))] [.null, (.int (5 : Int32)), (.int (2 : Int32))])) rfl (by rw [hml]; rfl) (argsL := [(.int (2 : Int32)), (.int (5 : Int32)), .null]) (rest := []) (lenOf pd_4 rfl) rfl (by show 2 * 0 + _ ≤ _; exact Nat.le_of_eq rfl) (hb hby do0_1_3) (fun _ _ => ⟨rfl, e0, (by decide : 0 + 0 ≤ _), (by decide : 0 + 0 ≤ _)⟩)
  dsimp only [Pt.U, Pt.locs, Pt.cells, Pt.slots] at X1 l1 y1 z1 st1 hQ1
  subst l1 y1 z1
  obtain ⟨rfl, pp1, N1, e1⟩ := hQ1
  have N1a := Fr.app N0 N1
  refine own_by st1 ?_
  show own_Go p e below (Qo2_5 Z  h0 n0) (own_Fr s ({ frames := 1, cells := 0, slots := 0, locals := 14 } : Room).cells ({ frames := 1, cells := 0, slots := 0, locals := 14 } : Room).slots) (T1.setTop (mkF m 6 #[.val (.int (2 : Int32)), .val (.int (5 : Int32))] [(.int (2 : Int32))]))
  refine own_ret X1 hx Bd.returns Bd.notSynchronized (Or.inl ⟨rfl, by simp, _, rfl⟩) (hb hby do0_1_6) rfl (by decide) (by decide) ?_
  show Qo2_5 Z  h0 n0 _ T1.heap _
  rw [e1]
  exact ⟨rfl, trivial, N1a, rfl⟩
theorem ef_o3_5 (m : MethodId)  : entryFrame m #[(.int (3 : Int32)), (.int (5 : Int32))] 2 = mkF m 0 #[.val (.int (3 : Int32)), .val (.int (5 : Int32))] [] := by first | (simp [entryFrame, mkF, argsToLocals, Value.category, maxLocals]; done) | rfl
def Qo3_5 (Z : State)  (h0 : Heap) (n0 : Nat) (v : Option Value) (h : Heap) (L : List Loc) : Prop := v = some (.int (3 : Int32)) ∧ (True) ∧ Fr n0 L ∧ h = h0
set_option maxRecDepth 65536 in
set_option maxHeartbeats 40000000 in
theorem rmo3_5 (l : Launch) (Z : State) (a0 : Array Value) (hw : ∀ d ∈ tables_1, d.before a0 Z = true) (ws : List Jvm.Cond)  (h0 : Heap) (n0 : Nat) (Z0 : n0 ≤ h0.size) :
    MetFree l (⟨"java/util/Objects", "checkIndex", "(II)I"⟩ : MethodName) (head1 (Jvm.Cond.code (⟨"java/util/Objects", "checkIndex", "(II)I"⟩ : MethodName) jdk_31_method_17_code 2 (some .int) :: ws) ({ frames := 1, cells := 0, slots := 0, locals := 14 } : Room)) (fun a U => a = #[(.int (3 : Int32)), (.int (5 : Int32))] ∧ Z.Warmed39 U.vm ∧ U.heap = h0) (fun _ _ _ _ _ => True) (fun _ U o U' => ∃ v L, o = .returned v ∧ Qo3_5 Z  h0 n0 v U'.heap L ∧ FrameEnd U o U' L ({ frames := 1, cells := 0, slots := 0, locals := 14 } : Room).cells ({ frames := 1, cells := 0, slots := 0, locals := 14 } : Room).slots) := by
  refine MetFree.of_bodySF (plainFor_of_name pn_3) hisR ?_
  intro p e s m args below meth c s₁ Bd hml0 hP hK
  obtain ⟨rfl, hZ, hh⟩ := hP
  have hx := Bd.exec
  have hby := Bd.bytes
  have hml : c.maxLocals = 2 := hml0
  have hown : s.vm.findClass "java/util/Objects" = some m.cls := findClass_of_methodNamed Bd.named
  have hnm := (name_of_methodNamed Bd.named Bd.method).1
  have X0 : Stand p l e ({ frames := 1, cells := 0, slots := 0, locals := 14 } : Room) s m #[(.int (3 : Int32)), (.int (5 : Int32))] below meth c s₁ [] 0 0 := Stand.of_body Bd
  have e0 : s₁.heap = h0 := by rw [← hh, Bd.state]; rfl
  have N0 := Fr.nil n0
  change own_Go p e below (Qo3_5 Z  h0 n0) (own_Fr s ({ frames := 1, cells := 0, slots := 0, locals := 14 } : Room).cells ({ frames := 1, cells := 0, slots := 0, locals := 14 } : Room).slots) (s₁.setTop (entryFrame m #[(.int (3 : Int32)), (.int (5 : Int32))] 2))
  rw [ef_o3_5 m ]
  refine own_iloadN (pc' := 1) X0 hx rfl (hb hby do0_1_0) rfl ?_
  refine own_iloadN (pc' := 2) X0 hx rfl (hb hby do0_1_1) rfl ?_
  refine own_aconstNull (pc' := 3) X0 hx (hb hby do0_1_2) rfl ?_
  obtain ⟨_, _, ⟨T1, L1, k1, n1⟩, -, X1, ⟨Lc1, hQ1, l1, y1, z1⟩, st1⟩ := Jvm.LawKit.callS X0 hx (y := (⟨"jdk/internal/util/Preconditions", "checkIndex", "(IILjava/util/function/BiFunction;)I"⟩ : MethodName)) hown (mvT hZ (hw _ (List.mem_of_getElem? (i := 29) rfl))) (mvT hZ (hw _ (List.mem_of_getElem? (i := 30) rfl))) (mvT hZ (hw _ (List.mem_of_getElem? (i := 31) rfl))) (mvT hZ (hw _ (List.mem_of_getElem? (i := 32) rfl))) (by decide) (backOf (W := 0) (rmp3_5 l Z a0 hw []  h0 n0 Z0 ) hZ (hw _ (List.mem_of_getElem? (i := 32) rfl)) (hw _ (List.mem_of_getElem? (i := 31) rfl)) (by decide) (by decide)) (g := (mkF m 3 #[.val (.int (3 : Int32)), .val (.int (5 : Int32))] [.null, (.int (5 : Int32)), (.int (3 : Int32))])) rfl (by rw [hml]; rfl) (argsL := [(.int (3 : Int32)), (.int (5 : Int32)), .null]) (rest := []) (lenOf pd_4 rfl) rfl (by show 2 * 0 + _ ≤ _; exact Nat.le_of_eq rfl) (hb hby do0_1_3) (fun _ _ => ⟨rfl, e0, (by decide : 0 + 0 ≤ _), (by decide : 0 + 0 ≤ _)⟩)
  dsimp only [Pt.U, Pt.locs, Pt.cells, Pt.slots] at X1 l1 y1 z1 st1 hQ1
  subst l1 y1 z1
  obtain ⟨rfl, pp1, N1, e1⟩ := hQ1
  have N1a := Fr.app N0 N1
  refine own_by st1 ?_
  show own_Go p e below (Qo3_5 Z  h0 n0) (own_Fr s ({ frames := 1, cells := 0, slots := 0, locals := 14 } : Room).cells ({ frames := 1, cells := 0, slots := 0, locals := 14 } : Room).slots) (T1.setTop (mkF m 6 #[.val (.int (3 : Int32)), .val (.int (5 : Int32))] [(.int (3 : Int32))]))
  refine own_ret X1 hx Bd.returns Bd.notSynchronized (Or.inl ⟨rfl, by simp, _, rfl⟩) (hb hby do0_1_6) rfl (by decide) (by decide) ?_
  show Qo3_5 Z  h0 n0 _ T1.heap _
  rw [e1]
  exact ⟨rfl, trivial, N1a, rfl⟩
theorem ef_o4_5 (m : MethodId)  : entryFrame m #[(.int (4 : Int32)), (.int (5 : Int32))] 2 = mkF m 0 #[.val (.int (4 : Int32)), .val (.int (5 : Int32))] [] := by first | (simp [entryFrame, mkF, argsToLocals, Value.category, maxLocals]; done) | rfl
def Qo4_5 (Z : State)  (h0 : Heap) (n0 : Nat) (v : Option Value) (h : Heap) (L : List Loc) : Prop := v = some (.int (4 : Int32)) ∧ (True) ∧ Fr n0 L ∧ h = h0
set_option maxRecDepth 65536 in
set_option maxHeartbeats 40000000 in
theorem rmo4_5 (l : Launch) (Z : State) (a0 : Array Value) (hw : ∀ d ∈ tables_1, d.before a0 Z = true) (ws : List Jvm.Cond)  (h0 : Heap) (n0 : Nat) (Z0 : n0 ≤ h0.size) :
    MetFree l (⟨"java/util/Objects", "checkIndex", "(II)I"⟩ : MethodName) (head1 (Jvm.Cond.code (⟨"java/util/Objects", "checkIndex", "(II)I"⟩ : MethodName) jdk_31_method_17_code 2 (some .int) :: ws) ({ frames := 1, cells := 0, slots := 0, locals := 14 } : Room)) (fun a U => a = #[(.int (4 : Int32)), (.int (5 : Int32))] ∧ Z.Warmed39 U.vm ∧ U.heap = h0) (fun _ _ _ _ _ => True) (fun _ U o U' => ∃ v L, o = .returned v ∧ Qo4_5 Z  h0 n0 v U'.heap L ∧ FrameEnd U o U' L ({ frames := 1, cells := 0, slots := 0, locals := 14 } : Room).cells ({ frames := 1, cells := 0, slots := 0, locals := 14 } : Room).slots) := by
  refine MetFree.of_bodySF (plainFor_of_name pn_3) hisR ?_
  intro p e s m args below meth c s₁ Bd hml0 hP hK
  obtain ⟨rfl, hZ, hh⟩ := hP
  have hx := Bd.exec
  have hby := Bd.bytes
  have hml : c.maxLocals = 2 := hml0
  have hown : s.vm.findClass "java/util/Objects" = some m.cls := findClass_of_methodNamed Bd.named
  have hnm := (name_of_methodNamed Bd.named Bd.method).1
  have X0 : Stand p l e ({ frames := 1, cells := 0, slots := 0, locals := 14 } : Room) s m #[(.int (4 : Int32)), (.int (5 : Int32))] below meth c s₁ [] 0 0 := Stand.of_body Bd
  have e0 : s₁.heap = h0 := by rw [← hh, Bd.state]; rfl
  have N0 := Fr.nil n0
  change own_Go p e below (Qo4_5 Z  h0 n0) (own_Fr s ({ frames := 1, cells := 0, slots := 0, locals := 14 } : Room).cells ({ frames := 1, cells := 0, slots := 0, locals := 14 } : Room).slots) (s₁.setTop (entryFrame m #[(.int (4 : Int32)), (.int (5 : Int32))] 2))
  rw [ef_o4_5 m ]
  refine own_iloadN (pc' := 1) X0 hx rfl (hb hby do0_1_0) rfl ?_
  refine own_iloadN (pc' := 2) X0 hx rfl (hb hby do0_1_1) rfl ?_
  refine own_aconstNull (pc' := 3) X0 hx (hb hby do0_1_2) rfl ?_
  obtain ⟨_, _, ⟨T1, L1, k1, n1⟩, -, X1, ⟨Lc1, hQ1, l1, y1, z1⟩, st1⟩ := Jvm.LawKit.callS X0 hx (y := (⟨"jdk/internal/util/Preconditions", "checkIndex", "(IILjava/util/function/BiFunction;)I"⟩ : MethodName)) hown (mvT hZ (hw _ (List.mem_of_getElem? (i := 29) rfl))) (mvT hZ (hw _ (List.mem_of_getElem? (i := 30) rfl))) (mvT hZ (hw _ (List.mem_of_getElem? (i := 31) rfl))) (mvT hZ (hw _ (List.mem_of_getElem? (i := 32) rfl))) (by decide) (backOf (W := 0) (rmp4_5 l Z a0 hw []  h0 n0 Z0 ) hZ (hw _ (List.mem_of_getElem? (i := 32) rfl)) (hw _ (List.mem_of_getElem? (i := 31) rfl)) (by decide) (by decide)) (g := (mkF m 3 #[.val (.int (4 : Int32)), .val (.int (5 : Int32))] [.null, (.int (5 : Int32)), (.int (4 : Int32))])) rfl (by rw [hml]; rfl) (argsL := [(.int (4 : Int32)), (.int (5 : Int32)), .null]) (rest := []) (lenOf pd_4 rfl) rfl (by show 2 * 0 + _ ≤ _; exact Nat.le_of_eq rfl) (hb hby do0_1_3) (fun _ _ => ⟨rfl, e0, (by decide : 0 + 0 ≤ _), (by decide : 0 + 0 ≤ _)⟩)
  dsimp only [Pt.U, Pt.locs, Pt.cells, Pt.slots] at X1 l1 y1 z1 st1 hQ1
  subst l1 y1 z1
  obtain ⟨rfl, pp1, N1, e1⟩ := hQ1
  have N1a := Fr.app N0 N1
  refine own_by st1 ?_
  show own_Go p e below (Qo4_5 Z  h0 n0) (own_Fr s ({ frames := 1, cells := 0, slots := 0, locals := 14 } : Room).cells ({ frames := 1, cells := 0, slots := 0, locals := 14 } : Room).slots) (T1.setTop (mkF m 6 #[.val (.int (4 : Int32)), .val (.int (5 : Int32))] [(.int (4 : Int32))]))
  refine own_ret X1 hx Bd.returns Bd.notSynchronized (Or.inl ⟨rfl, by simp, _, rfl⟩) (hb hby do0_1_6) rfl (by decide) (by decide) ?_
  show Qo4_5 Z  h0 n0 _ T1.heap _
  rw [e1]
  exact ⟨rfl, trivial, N1a, rfl⟩
theorem pd_5 : parseMethodDescriptor "(I)I" = some ⟨[.int], some .int⟩ := by decide +kernel
theorem dg0_1_0 : decode prog_21_method_4_code 0 = .ok (.iload_n 1, 1) := by decide +kernel
theorem dg0_1_1 : decode prog_21_method_4_code 1 = .ok (.aload_n 0, 1) := by decide +kernel
theorem dg0_1_2 : decode prog_21_method_4_code 2 = .ok (.getfield 13, 3) := by decide +kernel
theorem dg0_1_5 : decode prog_21_method_4_code 5 = .ok (.invokestatic 23, 3) := by decide +kernel
theorem dg0_1_8 : decode prog_21_method_4_code 8 = .ok (.pop, 1) := by decide +kernel
theorem dg0_1_9 : decode prog_21_method_4_code 9 = .ok (.aload_n 0, 1) := by decide +kernel
theorem dg0_1_10 : decode prog_21_method_4_code 10 = .ok (.getfield 7, 3) := by decide +kernel
theorem dg0_1_13 : decode prog_21_method_4_code 13 = .ok (.iload_n 1, 1) := by decide +kernel
theorem dg0_1_14 : decode prog_21_method_4_code 14 = .ok (.iaload, 1) := by decide +kernel
theorem dg0_1_15 : decode prog_21_method_4_code 15 = .ok (.ireturn, 1) := by decide +kernel
theorem ef_g0_1 (m : MethodId) (x0 : Addr) : entryFrame m #[(.ref x0), (.int (0 : Int32))] 2 = mkF m 0 #[.val (.ref x0), .val (.int (0 : Int32))] [] := by first | (simp [entryFrame, mkF, argsToLocals, Value.category, maxLocals]; done) | rfl
def Qg0_1 (Z : State) (a1 : Addr) (ar : Addr) (kc : ClassId) (el0 : Int32) (h0 : Heap) (n0 : Nat) (v : Option Value) (h : Heap) (L : List Loc) : Prop := v = some (.int el0) ∧ (True) ∧ Fr n0 L ∧ h = h0
set_option maxRecDepth 65536 in
set_option maxHeartbeats 40000000 in
theorem rmg0_1 (l : Launch) (Z : State) (a0 : Array Value) (hw : ∀ d ∈ tables_1, d.before a0 Z = true) (ws : List Jvm.Cond) (a1 : Addr) (ar : Addr) (kc : ClassId) (el0 : Int32) (h0 : Heap) (n0 : Nat) (Z0 : n0 ≤ h0.size) (F_values_a1 : Fld Z h0 a1 "com/example/libpundit/libpundit/core/IntList" "values" "[I" (.ref ar)) (F_size_a1 : Fld Z h0 a1 "com/example/libpundit/libpundit/core/IntList" "size" "I" (.int (1 : Int32))) (A_ar : Arv Z h0 ar kc .int (4 : Int32) [(.int el0), (.int (0 : Int32)), (.int (0 : Int32)), (.int (0 : Int32))] (.int (0 : Int32))) :
    MetFree l (⟨"com/example/libpundit/libpundit/core/IntList", "get", "(I)I"⟩ : MethodName) (head1 (Jvm.Cond.code (⟨"com/example/libpundit/libpundit/core/IntList", "get", "(I)I"⟩ : MethodName) prog_21_method_4_code 2 (some .int) :: ws) ({ frames := 2, cells := 0, slots := 0, locals := 28 } : Room)) (fun a U => a = #[(.ref a1), (.int (0 : Int32))] ∧ Z.Warmed39 U.vm ∧ U.heap = h0) (fun _ _ _ _ _ => True) (fun _ U o U' => ∃ v L, o = .returned v ∧ Qg0_1 Z a1 ar kc el0 h0 n0 v U'.heap L ∧ FrameEnd U o U' L ({ frames := 2, cells := 0, slots := 0, locals := 28 } : Room).cells ({ frames := 2, cells := 0, slots := 0, locals := 28 } : Room).slots) := by
  refine MetFree.of_bodySF (plainFor_of_name pn_1) hisR ?_
  intro p e s m args below meth c s₁ Bd hml0 hP hK
  obtain ⟨rfl, hZ, hh⟩ := hP
  have hx := Bd.exec
  have hby := Bd.bytes
  have hml : c.maxLocals = 2 := hml0
  have hown : s.vm.findClass "com/example/libpundit/libpundit/core/IntList" = some m.cls := findClass_of_methodNamed Bd.named
  have hnm := (name_of_methodNamed Bd.named Bd.method).1
  have X0 : Stand p l e ({ frames := 2, cells := 0, slots := 0, locals := 28 } : Room) s m #[(.ref a1), (.int (0 : Int32))] below meth c s₁ [] 0 0 := Stand.of_body Bd
  have e0 : s₁.heap = h0 := by rw [← hh, Bd.state]; rfl
  have N0 := Fr.nil n0
  change own_Go p e below (Qg0_1 Z a1 ar kc el0 h0 n0) (own_Fr s ({ frames := 2, cells := 0, slots := 0, locals := 28 } : Room).cells ({ frames := 2, cells := 0, slots := 0, locals := 28 } : Room).slots) (s₁.setTop (entryFrame m #[(.ref a1), (.int (0 : Int32))] 2))
  rw [ef_g0_1 m a1]
  have rel0 := rng32 el0
  refine own_iloadN (pc' := 1) X0 hx rfl (hb hby dg0_1_0) rfl ?_
  refine own_aloadN (pc' := 2) X0 hx rfl rfl (hb hby dg0_1_1) rfl ?_
  obtain ⟨T1, X1, e1, st1⟩ := getF X0 hx hZ hown (host := "") (Or.inl (hw _ (List.mem_of_getElem? (i := 18) rfl))) Via.refl e0 F_size_a1 (g := (mkF m 2 #[.val (.ref a1), .val (.int (0 : Int32))] [(.ref a1), (.int (0 : Int32))])) rfl rfl (hb hby dg0_1_2)
  refine own_by st1 ?_
  show own_Go p e below (Qg0_1 Z a1 ar kc el0 h0 n0) (own_Fr s ({ frames := 2, cells := 0, slots := 0, locals := 28 } : Room).cells ({ frames := 2, cells := 0, slots := 0, locals := 28 } : Room).slots) (T1.setTop (mkF m 5 #[.val (.ref a1), .val (.int (0 : Int32))] [(.int (1 : Int32)), (.int (0 : Int32))]))
  obtain ⟨_, _, ⟨T2, L2, k2, n2⟩, -, X2, ⟨Lc2, hQ2, l2, y2, z2⟩, st2⟩ := Jvm.LawKit.callS X1 hx (y := (⟨"java/util/Objects", "checkIndex", "(II)I"⟩ : MethodName)) hown (mvT hZ (hw _ (List.mem_of_getElem? (i := 25) rfl))) (mvT hZ (hw _ (List.mem_of_getElem? (i := 26) rfl))) (mvT hZ (hw _ (List.mem_of_getElem? (i := 27) rfl))) (mvT hZ (hw _ (List.mem_of_getElem? (i := 28) rfl))) (by decide) (backOf (W := 0) (rmo0_1 l Z a0 hw []  h0 n0 Z0 ) hZ (hw _ (List.mem_of_getElem? (i := 28) rfl)) (hw _ (List.mem_of_getElem? (i := 27) rfl)) (by decide) (by decide)) (g := (mkF m 5 #[.val (.ref a1), .val (.int (0 : Int32))] [(.int (1 : Int32)), (.int (0 : Int32))])) rfl (by rw [hml]; rfl) (argsL := [(.int (0 : Int32)), (.int (1 : Int32))]) (rest := []) (lenOf pd_0 rfl) rfl (by show 2 * 0 + _ ≤ _; exact Nat.le_of_eq rfl) (hb hby dg0_1_5) (fun _ _ => ⟨rfl, e1, (by decide : 0 + 0 ≤ _), (by decide : 0 + 0 ≤ _)⟩)
  dsimp only [Pt.U, Pt.locs, Pt.cells, Pt.slots] at X2 l2 y2 z2 st2 hQ2
  subst l2 y2 z2
  obtain ⟨rfl, pp2, N2, e2⟩ := hQ2
  have N2a := Fr.app N0 N2
  refine own_by st2 ?_
  show own_Go p e below (Qg0_1 Z a1 ar kc el0 h0 n0) (own_Fr s ({ frames := 2, cells := 0, slots := 0, locals := 28 } : Room).cells ({ frames := 2, cells := 0, slots := 0, locals := 28 } : Room).slots) (T2.setTop (mkF m 8 #[.val (.ref a1), .val (.int (0 : Int32))] [(.int (0 : Int32))]))
  refine own_pop (pc' := 9) X2 hx rfl (hb hby dg0_1_8) rfl ?_
  refine own_aloadN (pc' := 10) X2 hx rfl rfl (hb hby dg0_1_9) rfl ?_
  obtain ⟨T3, X3, e3, st3⟩ := getF X2 hx hZ hown (host := "") (Or.inl (hw _ (List.mem_of_getElem? (i := 11) rfl))) Via.refl e2 F_values_a1 (g := (mkF m 10 #[.val (.ref a1), .val (.int (0 : Int32))] [(.ref a1)])) rfl rfl (hb hby dg0_1_10)
  refine own_by st3 ?_
  show own_Go p e below (Qg0_1 Z a1 ar kc el0 h0 n0) (own_Fr s ({ frames := 2, cells := 0, slots := 0, locals := 28 } : Room).cells ({ frames := 2, cells := 0, slots := 0, locals := 28 } : Room).slots) (T3.setTop (mkF m 13 #[.val (.ref a1), .val (.int (0 : Int32))] [(.ref ar)]))
  refine own_iloadN (pc' := 14) X3 hx rfl (hb hby dg0_1_13) rfl ?_
  obtain ⟨c4, B4, q4, s4, u4, H4, G4⟩ := id A_ar
  have i4 := inb_of s4 (j := (0 : Int32)) (by decide)
  refine own_by (X3.iaload hx (j := (0 : Int32)) (v := (.int el0)) (by rw [e3]; exact B4.1) (State.isArrayOf_alike hZ.alike B4.2.1) B4.2.2 i4 (H4.at i4 rfl) (g := (mkF m 14 #[.val (.ref a1), .val (.int (0 : Int32))] [(.int (0 : Int32)), (.ref ar)])) rfl rfl (hb hby dg0_1_14)) ?_
  show own_Go p e below (Qg0_1 Z a1 ar kc el0 h0 n0) (own_Fr s ({ frames := 2, cells := 0, slots := 0, locals := 28 } : Room).cells ({ frames := 2, cells := 0, slots := 0, locals := 28 } : Room).slots) (T3.setTop (mkF m 15 #[.val (.ref a1), .val (.int (0 : Int32))] [(.int el0)]))
  refine own_ret X3 hx Bd.returns Bd.notSynchronized (Or.inl ⟨rfl, by simp, _, rfl⟩) (hb hby dg0_1_15) rfl (by decide) (by decide) ?_
  show Qg0_1 Z a1 ar kc el0 h0 n0 _ T3.heap _
  rw [e3]
  exact ⟨rfl, trivial, N2a, rfl⟩
theorem ef_g0_2 (m : MethodId) (x0 : Addr) : entryFrame m #[(.ref x0), (.int (0 : Int32))] 2 = mkF m 0 #[.val (.ref x0), .val (.int (0 : Int32))] [] := by first | (simp [entryFrame, mkF, argsToLocals, Value.category, maxLocals]; done) | rfl
def Qg0_2 (Z : State) (a1 : Addr) (ar : Addr) (kc : ClassId) (el0 : Int32) (el1 : Int32) (h0 : Heap) (n0 : Nat) (v : Option Value) (h : Heap) (L : List Loc) : Prop := v = some (.int el0) ∧ (True) ∧ Fr n0 L ∧ h = h0
set_option maxRecDepth 65536 in
set_option maxHeartbeats 40000000 in
theorem rmg0_2 (l : Launch) (Z : State) (a0 : Array Value) (hw : ∀ d ∈ tables_1, d.before a0 Z = true) (ws : List Jvm.Cond) (a1 : Addr) (ar : Addr) (kc : ClassId) (el0 : Int32) (el1 : Int32) (h0 : Heap) (n0 : Nat) (Z0 : n0 ≤ h0.size) (F_values_a1 : Fld Z h0 a1 "com/example/libpundit/libpundit/core/IntList" "values" "[I" (.ref ar)) (F_size_a1 : Fld Z h0 a1 "com/example/libpundit/libpundit/core/IntList" "size" "I" (.int (2 : Int32))) (A_ar : Arv Z h0 ar kc .int (4 : Int32) [(.int el0), (.int el1), (.int (0 : Int32)), (.int (0 : Int32))] (.int (0 : Int32))) :
    MetFree l (⟨"com/example/libpundit/libpundit/core/IntList", "get", "(I)I"⟩ : MethodName) (head1 (Jvm.Cond.code (⟨"com/example/libpundit/libpundit/core/IntList", "get", "(I)I"⟩ : MethodName) prog_21_method_4_code 2 (some .int) :: ws) ({ frames := 2, cells := 0, slots := 0, locals := 28 } : Room)) (fun a U => a = #[(.ref a1), (.int (0 : Int32))] ∧ Z.Warmed39 U.vm ∧ U.heap = h0) (fun _ _ _ _ _ => True) (fun _ U o U' => ∃ v L, o = .returned v ∧ Qg0_2 Z a1 ar kc el0 el1 h0 n0 v U'.heap L ∧ FrameEnd U o U' L ({ frames := 2, cells := 0, slots := 0, locals := 28 } : Room).cells ({ frames := 2, cells := 0, slots := 0, locals := 28 } : Room).slots) := by
  refine MetFree.of_bodySF (plainFor_of_name pn_1) hisR ?_
  intro p e s m args below meth c s₁ Bd hml0 hP hK
  obtain ⟨rfl, hZ, hh⟩ := hP
  have hx := Bd.exec
  have hby := Bd.bytes
  have hml : c.maxLocals = 2 := hml0
  have hown : s.vm.findClass "com/example/libpundit/libpundit/core/IntList" = some m.cls := findClass_of_methodNamed Bd.named
  have hnm := (name_of_methodNamed Bd.named Bd.method).1
  have X0 : Stand p l e ({ frames := 2, cells := 0, slots := 0, locals := 28 } : Room) s m #[(.ref a1), (.int (0 : Int32))] below meth c s₁ [] 0 0 := Stand.of_body Bd
  have e0 : s₁.heap = h0 := by rw [← hh, Bd.state]; rfl
  have N0 := Fr.nil n0
  change own_Go p e below (Qg0_2 Z a1 ar kc el0 el1 h0 n0) (own_Fr s ({ frames := 2, cells := 0, slots := 0, locals := 28 } : Room).cells ({ frames := 2, cells := 0, slots := 0, locals := 28 } : Room).slots) (s₁.setTop (entryFrame m #[(.ref a1), (.int (0 : Int32))] 2))
  rw [ef_g0_2 m a1]
  have rel0 := rng32 el0
  have rel1 := rng32 el1
  refine own_iloadN (pc' := 1) X0 hx rfl (hb hby dg0_1_0) rfl ?_
  refine own_aloadN (pc' := 2) X0 hx rfl rfl (hb hby dg0_1_1) rfl ?_
  obtain ⟨T1, X1, e1, st1⟩ := getF X0 hx hZ hown (host := "") (Or.inl (hw _ (List.mem_of_getElem? (i := 18) rfl))) Via.refl e0 F_size_a1 (g := (mkF m 2 #[.val (.ref a1), .val (.int (0 : Int32))] [(.ref a1), (.int (0 : Int32))])) rfl rfl (hb hby dg0_1_2)
  refine own_by st1 ?_
  show own_Go p e below (Qg0_2 Z a1 ar kc el0 el1 h0 n0) (own_Fr s ({ frames := 2, cells := 0, slots := 0, locals := 28 } : Room).cells ({ frames := 2, cells := 0, slots := 0, locals := 28 } : Room).slots) (T1.setTop (mkF m 5 #[.val (.ref a1), .val (.int (0 : Int32))] [(.int (2 : Int32)), (.int (0 : Int32))]))
  obtain ⟨_, _, ⟨T2, L2, k2, n2⟩, -, X2, ⟨Lc2, hQ2, l2, y2, z2⟩, st2⟩ := Jvm.LawKit.callS X1 hx (y := (⟨"java/util/Objects", "checkIndex", "(II)I"⟩ : MethodName)) hown (mvT hZ (hw _ (List.mem_of_getElem? (i := 25) rfl))) (mvT hZ (hw _ (List.mem_of_getElem? (i := 26) rfl))) (mvT hZ (hw _ (List.mem_of_getElem? (i := 27) rfl))) (mvT hZ (hw _ (List.mem_of_getElem? (i := 28) rfl))) (by decide) (backOf (W := 0) (rmo0_2 l Z a0 hw []  h0 n0 Z0 ) hZ (hw _ (List.mem_of_getElem? (i := 28) rfl)) (hw _ (List.mem_of_getElem? (i := 27) rfl)) (by decide) (by decide)) (g := (mkF m 5 #[.val (.ref a1), .val (.int (0 : Int32))] [(.int (2 : Int32)), (.int (0 : Int32))])) rfl (by rw [hml]; rfl) (argsL := [(.int (0 : Int32)), (.int (2 : Int32))]) (rest := []) (lenOf pd_0 rfl) rfl (by show 2 * 0 + _ ≤ _; exact Nat.le_of_eq rfl) (hb hby dg0_1_5) (fun _ _ => ⟨rfl, e1, (by decide : 0 + 0 ≤ _), (by decide : 0 + 0 ≤ _)⟩)
  dsimp only [Pt.U, Pt.locs, Pt.cells, Pt.slots] at X2 l2 y2 z2 st2 hQ2
  subst l2 y2 z2
  obtain ⟨rfl, pp2, N2, e2⟩ := hQ2
  have N2a := Fr.app N0 N2
  refine own_by st2 ?_
  show own_Go p e below (Qg0_2 Z a1 ar kc el0 el1 h0 n0) (own_Fr s ({ frames := 2, cells := 0, slots := 0, locals := 28 } : Room).cells ({ frames := 2, cells := 0, slots := 0, locals := 28 } : Room).slots) (T2.setTop (mkF m 8 #[.val (.ref a1), .val (.int (0 : Int32))] [(.int (0 : Int32))]))
  refine own_pop (pc' := 9) X2 hx rfl (hb hby dg0_1_8) rfl ?_
  refine own_aloadN (pc' := 10) X2 hx rfl rfl (hb hby dg0_1_9) rfl ?_
  obtain ⟨T3, X3, e3, st3⟩ := getF X2 hx hZ hown (host := "") (Or.inl (hw _ (List.mem_of_getElem? (i := 11) rfl))) Via.refl e2 F_values_a1 (g := (mkF m 10 #[.val (.ref a1), .val (.int (0 : Int32))] [(.ref a1)])) rfl rfl (hb hby dg0_1_10)
  refine own_by st3 ?_
  show own_Go p e below (Qg0_2 Z a1 ar kc el0 el1 h0 n0) (own_Fr s ({ frames := 2, cells := 0, slots := 0, locals := 28 } : Room).cells ({ frames := 2, cells := 0, slots := 0, locals := 28 } : Room).slots) (T3.setTop (mkF m 13 #[.val (.ref a1), .val (.int (0 : Int32))] [(.ref ar)]))
  refine own_iloadN (pc' := 14) X3 hx rfl (hb hby dg0_1_13) rfl ?_
  obtain ⟨c4, B4, q4, s4, u4, H4, G4⟩ := id A_ar
  have i4 := inb_of s4 (j := (0 : Int32)) (by decide)
  refine own_by (X3.iaload hx (j := (0 : Int32)) (v := (.int el0)) (by rw [e3]; exact B4.1) (State.isArrayOf_alike hZ.alike B4.2.1) B4.2.2 i4 (H4.at i4 rfl) (g := (mkF m 14 #[.val (.ref a1), .val (.int (0 : Int32))] [(.int (0 : Int32)), (.ref ar)])) rfl rfl (hb hby dg0_1_14)) ?_
  show own_Go p e below (Qg0_2 Z a1 ar kc el0 el1 h0 n0) (own_Fr s ({ frames := 2, cells := 0, slots := 0, locals := 28 } : Room).cells ({ frames := 2, cells := 0, slots := 0, locals := 28 } : Room).slots) (T3.setTop (mkF m 15 #[.val (.ref a1), .val (.int (0 : Int32))] [(.int el0)]))
  refine own_ret X3 hx Bd.returns Bd.notSynchronized (Or.inl ⟨rfl, by simp, _, rfl⟩) (hb hby dg0_1_15) rfl (by decide) (by decide) ?_
  show Qg0_2 Z a1 ar kc el0 el1 h0 n0 _ T3.heap _
  rw [e3]
  exact ⟨rfl, trivial, N2a, rfl⟩
theorem ef_g1_2 (m : MethodId) (x0 : Addr) : entryFrame m #[(.ref x0), (.int (1 : Int32))] 2 = mkF m 0 #[.val (.ref x0), .val (.int (1 : Int32))] [] := by first | (simp [entryFrame, mkF, argsToLocals, Value.category, maxLocals]; done) | rfl
def Qg1_2 (Z : State) (a1 : Addr) (ar : Addr) (kc : ClassId) (el0 : Int32) (el1 : Int32) (h0 : Heap) (n0 : Nat) (v : Option Value) (h : Heap) (L : List Loc) : Prop := v = some (.int el1) ∧ (True) ∧ Fr n0 L ∧ h = h0
set_option maxRecDepth 65536 in
set_option maxHeartbeats 40000000 in
theorem rmg1_2 (l : Launch) (Z : State) (a0 : Array Value) (hw : ∀ d ∈ tables_1, d.before a0 Z = true) (ws : List Jvm.Cond) (a1 : Addr) (ar : Addr) (kc : ClassId) (el0 : Int32) (el1 : Int32) (h0 : Heap) (n0 : Nat) (Z0 : n0 ≤ h0.size) (F_values_a1 : Fld Z h0 a1 "com/example/libpundit/libpundit/core/IntList" "values" "[I" (.ref ar)) (F_size_a1 : Fld Z h0 a1 "com/example/libpundit/libpundit/core/IntList" "size" "I" (.int (2 : Int32))) (A_ar : Arv Z h0 ar kc .int (4 : Int32) [(.int el0), (.int el1), (.int (0 : Int32)), (.int (0 : Int32))] (.int (0 : Int32))) :
    MetFree l (⟨"com/example/libpundit/libpundit/core/IntList", "get", "(I)I"⟩ : MethodName) (head1 (Jvm.Cond.code (⟨"com/example/libpundit/libpundit/core/IntList", "get", "(I)I"⟩ : MethodName) prog_21_method_4_code 2 (some .int) :: ws) ({ frames := 2, cells := 0, slots := 0, locals := 28 } : Room)) (fun a U => a = #[(.ref a1), (.int (1 : Int32))] ∧ Z.Warmed39 U.vm ∧ U.heap = h0) (fun _ _ _ _ _ => True) (fun _ U o U' => ∃ v L, o = .returned v ∧ Qg1_2 Z a1 ar kc el0 el1 h0 n0 v U'.heap L ∧ FrameEnd U o U' L ({ frames := 2, cells := 0, slots := 0, locals := 28 } : Room).cells ({ frames := 2, cells := 0, slots := 0, locals := 28 } : Room).slots) := by
  refine MetFree.of_bodySF (plainFor_of_name pn_1) hisR ?_
  intro p e s m args below meth c s₁ Bd hml0 hP hK
  obtain ⟨rfl, hZ, hh⟩ := hP
  have hx := Bd.exec
  have hby := Bd.bytes
  have hml : c.maxLocals = 2 := hml0
  have hown : s.vm.findClass "com/example/libpundit/libpundit/core/IntList" = some m.cls := findClass_of_methodNamed Bd.named
  have hnm := (name_of_methodNamed Bd.named Bd.method).1
  have X0 : Stand p l e ({ frames := 2, cells := 0, slots := 0, locals := 28 } : Room) s m #[(.ref a1), (.int (1 : Int32))] below meth c s₁ [] 0 0 := Stand.of_body Bd
  have e0 : s₁.heap = h0 := by rw [← hh, Bd.state]; rfl
  have N0 := Fr.nil n0
  change own_Go p e below (Qg1_2 Z a1 ar kc el0 el1 h0 n0) (own_Fr s ({ frames := 2, cells := 0, slots := 0, locals := 28 } : Room).cells ({ frames := 2, cells := 0, slots := 0, locals := 28 } : Room).slots) (s₁.setTop (entryFrame m #[(.ref a1), (.int (1 : Int32))] 2))
  rw [ef_g1_2 m a1]
  have rel0 := rng32 el0
  have rel1 := rng32 el1
  refine own_iloadN (pc' := 1) X0 hx rfl (hb hby dg0_1_0) rfl ?_
  refine own_aloadN (pc' := 2) X0 hx rfl rfl (hb hby dg0_1_1) rfl ?_
  obtain ⟨T1, X1, e1, st1⟩ := getF X0 hx hZ hown (host := "") (Or.inl (hw _ (List.mem_of_getElem? (i := 18) rfl))) Via.refl e0 F_size_a1 (g := (mkF m 2 #[.val (.ref a1), .val (.int (1 : Int32))] [(.ref a1), (.int (1 : Int32))])) rfl rfl (hb hby dg0_1_2)
  refine own_by st1 ?_
  show own_Go p e below (Qg1_2 Z a1 ar kc el0 el1 h0 n0) (own_Fr s ({ frames := 2, cells := 0, slots := 0, locals := 28 } : Room).cells ({ frames := 2, cells := 0, slots := 0, locals := 28 } : Room).slots) (T1.setTop (mkF m 5 #[.val (.ref a1), .val (.int (1 : Int32))] [(.int (2 : Int32)), (.int (1 : Int32))]))
  obtain ⟨_, _, ⟨T2, L2, k2, n2⟩, -, X2, ⟨Lc2, hQ2, l2, y2, z2⟩, st2⟩ := Jvm.LawKit.callS X1 hx (y := (⟨"java/util/Objects", "checkIndex", "(II)I"⟩ : MethodName)) hown (mvT hZ (hw _ (List.mem_of_getElem? (i := 25) rfl))) (mvT hZ (hw _ (List.mem_of_getElem? (i := 26) rfl))) (mvT hZ (hw _ (List.mem_of_getElem? (i := 27) rfl))) (mvT hZ (hw _ (List.mem_of_getElem? (i := 28) rfl))) (by decide) (backOf (W := 0) (rmo1_2 l Z a0 hw []  h0 n0 Z0 ) hZ (hw _ (List.mem_of_getElem? (i := 28) rfl)) (hw _ (List.mem_of_getElem? (i := 27) rfl)) (by decide) (by decide)) (g := (mkF m 5 #[.val (.ref a1), .val (.int (1 : Int32))] [(.int (2 : Int32)), (.int (1 : Int32))])) rfl (by rw [hml]; rfl) (argsL := [(.int (1 : Int32)), (.int (2 : Int32))]) (rest := []) (lenOf pd_0 rfl) rfl (by show 2 * 0 + _ ≤ _; exact Nat.le_of_eq rfl) (hb hby dg0_1_5) (fun _ _ => ⟨rfl, e1, (by decide : 0 + 0 ≤ _), (by decide : 0 + 0 ≤ _)⟩)
  dsimp only [Pt.U, Pt.locs, Pt.cells, Pt.slots] at X2 l2 y2 z2 st2 hQ2
  subst l2 y2 z2
  obtain ⟨rfl, pp2, N2, e2⟩ := hQ2
  have N2a := Fr.app N0 N2
  refine own_by st2 ?_
  show own_Go p e below (Qg1_2 Z a1 ar kc el0 el1 h0 n0) (own_Fr s ({ frames := 2, cells := 0, slots := 0, locals := 28 } : Room).cells ({ frames := 2, cells := 0, slots := 0, locals := 28 } : Room).slots) (T2.setTop (mkF m 8 #[.val (.ref a1), .val (.int (1 : Int32))] [(.int (1 : Int32))]))
  refine own_pop (pc' := 9) X2 hx rfl (hb hby dg0_1_8) rfl ?_
  refine own_aloadN (pc' := 10) X2 hx rfl rfl (hb hby dg0_1_9) rfl ?_
  obtain ⟨T3, X3, e3, st3⟩ := getF X2 hx hZ hown (host := "") (Or.inl (hw _ (List.mem_of_getElem? (i := 11) rfl))) Via.refl e2 F_values_a1 (g := (mkF m 10 #[.val (.ref a1), .val (.int (1 : Int32))] [(.ref a1)])) rfl rfl (hb hby dg0_1_10)
  refine own_by st3 ?_
  show own_Go p e below (Qg1_2 Z a1 ar kc el0 el1 h0 n0) (own_Fr s ({ frames := 2, cells := 0, slots := 0, locals := 28 } : Room).cells ({ frames := 2, cells := 0, slots := 0, locals := 28 } : Room).slots) (T3.setTop (mkF m 13 #[.val (.ref a1), .val (.int (1 : Int32))] [(.ref ar)]))
  refine own_iloadN (pc' := 14) X3 hx rfl (hb hby dg0_1_13) rfl ?_
  obtain ⟨c4, B4, q4, s4, u4, H4, G4⟩ := id A_ar
  have i4 := inb_of s4 (j := (1 : Int32)) (by decide)
  refine own_by (X3.iaload hx (j := (1 : Int32)) (v := (.int el1)) (by rw [e3]; exact B4.1) (State.isArrayOf_alike hZ.alike B4.2.1) B4.2.2 i4 (H4.at i4 rfl) (g := (mkF m 14 #[.val (.ref a1), .val (.int (1 : Int32))] [(.int (1 : Int32)), (.ref ar)])) rfl rfl (hb hby dg0_1_14)) ?_
  show own_Go p e below (Qg1_2 Z a1 ar kc el0 el1 h0 n0) (own_Fr s ({ frames := 2, cells := 0, slots := 0, locals := 28 } : Room).cells ({ frames := 2, cells := 0, slots := 0, locals := 28 } : Room).slots) (T3.setTop (mkF m 15 #[.val (.ref a1), .val (.int (1 : Int32))] [(.int el1)]))
  refine own_ret X3 hx Bd.returns Bd.notSynchronized (Or.inl ⟨rfl, by simp, _, rfl⟩) (hb hby dg0_1_15) rfl (by decide) (by decide) ?_
  show Qg1_2 Z a1 ar kc el0 el1 h0 n0 _ T3.heap _
  rw [e3]
  exact ⟨rfl, trivial, N2a, rfl⟩
theorem ef_g0_3 (m : MethodId) (x0 : Addr) : entryFrame m #[(.ref x0), (.int (0 : Int32))] 2 = mkF m 0 #[.val (.ref x0), .val (.int (0 : Int32))] [] := by first | (simp [entryFrame, mkF, argsToLocals, Value.category, maxLocals]; done) | rfl
def Qg0_3 (Z : State) (a1 : Addr) (ar : Addr) (kc : ClassId) (el0 : Int32) (el1 : Int32) (el2 : Int32) (h0 : Heap) (n0 : Nat) (v : Option Value) (h : Heap) (L : List Loc) : Prop := v = some (.int el0) ∧ (True) ∧ Fr n0 L ∧ h = h0
set_option maxRecDepth 65536 in
set_option maxHeartbeats 40000000 in
theorem rmg0_3 (l : Launch) (Z : State) (a0 : Array Value) (hw : ∀ d ∈ tables_1, d.before a0 Z = true) (ws : List Jvm.Cond) (a1 : Addr) (ar : Addr) (kc : ClassId) (el0 : Int32) (el1 : Int32) (el2 : Int32) (h0 : Heap) (n0 : Nat) (Z0 : n0 ≤ h0.size) (F_values_a1 : Fld Z h0 a1 "com/example/libpundit/libpundit/core/IntList" "values" "[I" (.ref ar)) (F_size_a1 : Fld Z h0 a1 "com/example/libpundit/libpundit/core/IntList" "size" "I" (.int (3 : Int32))) (A_ar : Arv Z h0 ar kc .int (4 : Int32) [(.int el0), (.int el1), (.int el2), (.int (0 : Int32))] (.int (0 : Int32))) :
    MetFree l (⟨"com/example/libpundit/libpundit/core/IntList", "get", "(I)I"⟩ : MethodName) (head1 (Jvm.Cond.code (⟨"com/example/libpundit/libpundit/core/IntList", "get", "(I)I"⟩ : MethodName) prog_21_method_4_code 2 (some .int) :: ws) ({ frames := 2, cells := 0, slots := 0, locals := 28 } : Room)) (fun a U => a = #[(.ref a1), (.int (0 : Int32))] ∧ Z.Warmed39 U.vm ∧ U.heap = h0) (fun _ _ _ _ _ => True) (fun _ U o U' => ∃ v L, o = .returned v ∧ Qg0_3 Z a1 ar kc el0 el1 el2 h0 n0 v U'.heap L ∧ FrameEnd U o U' L ({ frames := 2, cells := 0, slots := 0, locals := 28 } : Room).cells ({ frames := 2, cells := 0, slots := 0, locals := 28 } : Room).slots) := by
  refine MetFree.of_bodySF (plainFor_of_name pn_1) hisR ?_
  intro p e s m args below meth c s₁ Bd hml0 hP hK
  obtain ⟨rfl, hZ, hh⟩ := hP
  have hx := Bd.exec
  have hby := Bd.bytes
  have hml : c.maxLocals = 2 := hml0
  have hown : s.vm.findClass "com/example/libpundit/libpundit/core/IntList" = some m.cls := findClass_of_methodNamed Bd.named
  have hnm := (name_of_methodNamed Bd.named Bd.method).1
  have X0 : Stand p l e ({ frames := 2, cells := 0, slots := 0, locals := 28 } : Room) s m #[(.ref a1), (.int (0 : Int32))] below meth c s₁ [] 0 0 := Stand.of_body Bd
  have e0 : s₁.heap = h0 := by rw [← hh, Bd.state]; rfl
  have N0 := Fr.nil n0
  change own_Go p e below (Qg0_3 Z a1 ar kc el0 el1 el2 h0 n0) (own_Fr s ({ frames := 2, cells := 0, slots := 0, locals := 28 } : Room).cells ({ frames := 2, cells := 0, slots := 0, locals := 28 } : Room).slots) (s₁.setTop (entryFrame m #[(.ref a1), (.int (0 : Int32))] 2))
  rw [ef_g0_3 m a1]
  have rel0 := rng32 el0
  have rel1 := rng32 el1
  have rel2 := rng32 el2
  refine own_iloadN (pc' := 1) X0 hx rfl (hb hby dg0_1_0) rfl ?_
  refine own_aloadN (pc' := 2) X0 hx rfl rfl (hb hby dg0_1_1) rfl ?_
  obtain ⟨T1, X1, e1, st1⟩ := getF X0 hx hZ hown (host := "") (Or.inl (hw _ (List.mem_of_getElem? (i := 18) rfl))) Via.refl e0 F_size_a1 (g := (mkF m 2 #[.val (.ref a1), .val (.int (0 : Int32))] [(.ref a1), (.int (0 : Int32))])) rfl rfl (hb hby dg0_1_2)
  refine own_by st1 ?_
  show own_Go p e below (Qg0_3 Z a1 ar kc el0 el1 el2 h0 n0) (own_Fr s ({ frames := 2, cells := 0, slots := 0, locals := 28 } : Room).cells ({ frames := 2, cells := 0, slots := 0, locals := 28 } : Room).slots) (T1.setTop (mkF m 5 #[.val (.ref a1), .val (.int (0 : Int32))] [(.int (3 : Int32)), (.int (0 : Int32))]))
  obtain ⟨_, _, ⟨T2, L2, k2, n2⟩, -, X2, ⟨Lc2, hQ2, l2, y2, z2⟩, st2⟩ := Jvm.LawKit.callS X1 hx (y := (⟨"java/util/Objects", "checkIndex", "(II)I"⟩ : MethodName)) hown (mvT hZ (hw _ (List.mem_of_getElem? (i := 25) rfl))) (mvT hZ (hw _ (List.mem_of_getElem? (i := 26) rfl))) (mvT hZ (hw _ (List.mem_of_getElem? (i := 27) rfl))) (mvT hZ (hw _ (List.mem_of_getElem? (i := 28) rfl))) (by decide) (backOf (W := 0) (rmo0_3 l Z a0 hw []  h0 n0 Z0 ) hZ (hw _ (List.mem_of_getElem? (i := 28) rfl)) (hw _ (List.mem_of_getElem? (i := 27) rfl)) (by decide) (by decide)) (g := (mkF m 5 #[.val (.ref a1), .val (.int (0 : Int32))] [(.int (3 : Int32)), (.int (0 : Int32))])) rfl (by rw [hml]; rfl) (argsL := [(.int (0 : Int32)), (.int (3 : Int32))]) (rest := []) (lenOf pd_0 rfl) rfl (by show 2 * 0 + _ ≤ _; exact Nat.le_of_eq rfl) (hb hby dg0_1_5) (fun _ _ => ⟨rfl, e1, (by decide : 0 + 0 ≤ _), (by decide : 0 + 0 ≤ _)⟩)
  dsimp only [Pt.U, Pt.locs, Pt.cells, Pt.slots] at X2 l2 y2 z2 st2 hQ2
  subst l2 y2 z2
  obtain ⟨rfl, pp2, N2, e2⟩ := hQ2
  have N2a := Fr.app N0 N2
  refine own_by st2 ?_
  show own_Go p e below (Qg0_3 Z a1 ar kc el0 el1 el2 h0 n0) (own_Fr s ({ frames := 2, cells := 0, slots := 0, locals := 28 } : Room).cells ({ frames := 2, cells := 0, slots := 0, locals := 28 } : Room).slots) (T2.setTop (mkF m 8 #[.val (.ref a1), .val (.int (0 : Int32))] [(.int (0 : Int32))]))
  refine own_pop (pc' := 9) X2 hx rfl (hb hby dg0_1_8) rfl ?_
  refine own_aloadN (pc' := 10) X2 hx rfl rfl (hb hby dg0_1_9) rfl ?_
  obtain ⟨T3, X3, e3, st3⟩ := getF X2 hx hZ hown (host := "") (Or.inl (hw _ (List.mem_of_getElem? (i := 11) rfl))) Via.refl e2 F_values_a1 (g := (mkF m 10 #[.val (.ref a1), .val (.int (0 : Int32))] [(.ref a1)])) rfl rfl (hb hby dg0_1_10)
  refine own_by st3 ?_
  show own_Go p e below (Qg0_3 Z a1 ar kc el0 el1 el2 h0 n0) (own_Fr s ({ frames := 2, cells := 0, slots := 0, locals := 28 } : Room).cells ({ frames := 2, cells := 0, slots := 0, locals := 28 } : Room).slots) (T3.setTop (mkF m 13 #[.val (.ref a1), .val (.int (0 : Int32))] [(.ref ar)]))
  refine own_iloadN (pc' := 14) X3 hx rfl (hb hby dg0_1_13) rfl ?_
  obtain ⟨c4, B4, q4, s4, u4, H4, G4⟩ := id A_ar
  have i4 := inb_of s4 (j := (0 : Int32)) (by decide)
  refine own_by (X3.iaload hx (j := (0 : Int32)) (v := (.int el0)) (by rw [e3]; exact B4.1) (State.isArrayOf_alike hZ.alike B4.2.1) B4.2.2 i4 (H4.at i4 rfl) (g := (mkF m 14 #[.val (.ref a1), .val (.int (0 : Int32))] [(.int (0 : Int32)), (.ref ar)])) rfl rfl (hb hby dg0_1_14)) ?_
  show own_Go p e below (Qg0_3 Z a1 ar kc el0 el1 el2 h0 n0) (own_Fr s ({ frames := 2, cells := 0, slots := 0, locals := 28 } : Room).cells ({ frames := 2, cells := 0, slots := 0, locals := 28 } : Room).slots) (T3.setTop (mkF m 15 #[.val (.ref a1), .val (.int (0 : Int32))] [(.int el0)]))
  refine own_ret X3 hx Bd.returns Bd.notSynchronized (Or.inl ⟨rfl, by simp, _, rfl⟩) (hb hby dg0_1_15) rfl (by decide) (by decide) ?_
  show Qg0_3 Z a1 ar kc el0 el1 el2 h0 n0 _ T3.heap _
  rw [e3]
  exact ⟨rfl, trivial, N2a, rfl⟩
theorem ef_g1_3 (m : MethodId) (x0 : Addr) : entryFrame m #[(.ref x0), (.int (1 : Int32))] 2 = mkF m 0 #[.val (.ref x0), .val (.int (1 : Int32))] [] := by first | (simp [entryFrame, mkF, argsToLocals, Value.category, maxLocals]; done) | rfl
def Qg1_3 (Z : State) (a1 : Addr) (ar : Addr) (kc : ClassId) (el0 : Int32) (el1 : Int32) (el2 : Int32) (h0 : Heap) (n0 : Nat) (v : Option Value) (h : Heap) (L : List Loc) : Prop := v = some (.int el1) ∧ (True) ∧ Fr n0 L ∧ h = h0
set_option maxRecDepth 65536 in
set_option maxHeartbeats 40000000 in
theorem rmg1_3 (l : Launch) (Z : State) (a0 : Array Value) (hw : ∀ d ∈ tables_1, d.before a0 Z = true) (ws : List Jvm.Cond) (a1 : Addr) (ar : Addr) (kc : ClassId) (el0 : Int32) (el1 : Int32) (el2 : Int32) (h0 : Heap) (n0 : Nat) (Z0 : n0 ≤ h0.size) (F_values_a1 : Fld Z h0 a1 "com/example/libpundit/libpundit/core/IntList" "values" "[I" (.ref ar)) (F_size_a1 : Fld Z h0 a1 "com/example/libpundit/libpundit/core/IntList" "size" "I" (.int (3 : Int32))) (A_ar : Arv Z h0 ar kc .int (4 : Int32) [(.int el0), (.int el1), (.int el2), (.int (0 : Int32))] (.int (0 : Int32))) :
    MetFree l (⟨"com/example/libpundit/libpundit/core/IntList", "get", "(I)I"⟩ : MethodName) (head1 (Jvm.Cond.code (⟨"com/example/libpundit/libpundit/core/IntList", "get", "(I)I"⟩ : MethodName) prog_21_method_4_code 2 (some .int) :: ws) ({ frames := 2, cells := 0, slots := 0, locals := 28 } : Room)) (fun a U => a = #[(.ref a1), (.int (1 : Int32))] ∧ Z.Warmed39 U.vm ∧ U.heap = h0) (fun _ _ _ _ _ => True) (fun _ U o U' => ∃ v L, o = .returned v ∧ Qg1_3 Z a1 ar kc el0 el1 el2 h0 n0 v U'.heap L ∧ FrameEnd U o U' L ({ frames := 2, cells := 0, slots := 0, locals := 28 } : Room).cells ({ frames := 2, cells := 0, slots := 0, locals := 28 } : Room).slots) := by
  refine MetFree.of_bodySF (plainFor_of_name pn_1) hisR ?_
  intro p e s m args below meth c s₁ Bd hml0 hP hK
  obtain ⟨rfl, hZ, hh⟩ := hP
  have hx := Bd.exec
  have hby := Bd.bytes
  have hml : c.maxLocals = 2 := hml0
  have hown : s.vm.findClass "com/example/libpundit/libpundit/core/IntList" = some m.cls := findClass_of_methodNamed Bd.named
  have hnm := (name_of_methodNamed Bd.named Bd.method).1
  have X0 : Stand p l e ({ frames := 2, cells := 0, slots := 0, locals := 28 } : Room) s m #[(.ref a1), (.int (1 : Int32))] below meth c s₁ [] 0 0 := Stand.of_body Bd
  have e0 : s₁.heap = h0 := by rw [← hh, Bd.state]; rfl
  have N0 := Fr.nil n0
  change own_Go p e below (Qg1_3 Z a1 ar kc el0 el1 el2 h0 n0) (own_Fr s ({ frames := 2, cells := 0, slots := 0, locals := 28 } : Room).cells ({ frames := 2, cells := 0, slots := 0, locals := 28 } : Room).slots) (s₁.setTop (entryFrame m #[(.ref a1), (.int (1 : Int32))] 2))
  rw [ef_g1_3 m a1]
  have rel0 := rng32 el0
  have rel1 := rng32 el1
  have rel2 := rng32 el2
  refine own_iloadN (pc' := 1) X0 hx rfl (hb hby dg0_1_0) rfl ?_
  refine own_aloadN (pc' := 2) X0 hx rfl rfl (hb hby dg0_1_1) rfl ?_
  obtain ⟨T1, X1, e1, st1⟩ := getF X0 hx hZ hown (host := "") (Or.inl (hw _ (List.mem_of_getElem? (i := 18) rfl))) Via.refl e0 F_size_a1 (g := (mkF m 2 #[.val (.ref a1), .val (.int (1 : Int32))] [(.ref a1), (.int (1 : Int32))])) rfl rfl (hb hby dg0_1_2)
  refine own_by st1 ?_
  show own_Go p e below (Qg1_3 Z a1 ar kc el0 el1 el2 h0 n0) (own_Fr s ({ frames := 2, cells := 0, slots := 0, locals := 28 } : Room).cells ({ frames := 2, cells := 0, slots := 0, locals := 28 } : Room).slots) (T1.setTop (mkF m 5 #[.val (.ref a1), .val (.int (1 : Int32))] [(.int (3 : Int32)), (.int (1 : Int32))]))
  obtain ⟨_, _, ⟨T2, L2, k2, n2⟩, -, X2, ⟨Lc2, hQ2, l2, y2, z2⟩, st2⟩ := Jvm.LawKit.callS X1 hx (y := (⟨"java/util/Objects", "checkIndex", "(II)I"⟩ : MethodName)) hown (mvT hZ (hw _ (List.mem_of_getElem? (i := 25) rfl))) (mvT hZ (hw _ (List.mem_of_getElem? (i := 26) rfl))) (mvT hZ (hw _ (List.mem_of_getElem? (i := 27) rfl))) (mvT hZ (hw _ (List.mem_of_getElem? (i := 28) rfl))) (by decide) (backOf (W := 0) (rmo1_3 l Z a0 hw []  h0 n0 Z0 ) hZ (hw _ (List.mem_of_getElem? (i := 28) rfl)) (hw _ (List.mem_of_getElem? (i := 27) rfl)) (by decide) (by decide)) (g := (mkF m 5 #[.val (.ref a1), .val (.int (1 : Int32))] [(.int (3 : Int32)), (.int (1 : Int32))])) rfl (by rw [hml]; rfl) (argsL := [(.int (1 : Int32)), (.int (3 : Int32))]) (rest := []) (lenOf pd_0 rfl) rfl (by show 2 * 0 + _ ≤ _; exact Nat.le_of_eq rfl) (hb hby dg0_1_5) (fun _ _ => ⟨rfl, e1, (by decide : 0 + 0 ≤ _), (by decide : 0 + 0 ≤ _)⟩)
  dsimp only [Pt.U, Pt.locs, Pt.cells, Pt.slots] at X2 l2 y2 z2 st2 hQ2
  subst l2 y2 z2
  obtain ⟨rfl, pp2, N2, e2⟩ := hQ2
  have N2a := Fr.app N0 N2
  refine own_by st2 ?_
  show own_Go p e below (Qg1_3 Z a1 ar kc el0 el1 el2 h0 n0) (own_Fr s ({ frames := 2, cells := 0, slots := 0, locals := 28 } : Room).cells ({ frames := 2, cells := 0, slots := 0, locals := 28 } : Room).slots) (T2.setTop (mkF m 8 #[.val (.ref a1), .val (.int (1 : Int32))] [(.int (1 : Int32))]))
  refine own_pop (pc' := 9) X2 hx rfl (hb hby dg0_1_8) rfl ?_
  refine own_aloadN (pc' := 10) X2 hx rfl rfl (hb hby dg0_1_9) rfl ?_
  obtain ⟨T3, X3, e3, st3⟩ := getF X2 hx hZ hown (host := "") (Or.inl (hw _ (List.mem_of_getElem? (i := 11) rfl))) Via.refl e2 F_values_a1 (g := (mkF m 10 #[.val (.ref a1), .val (.int (1 : Int32))] [(.ref a1)])) rfl rfl (hb hby dg0_1_10)
  refine own_by st3 ?_
  show own_Go p e below (Qg1_3 Z a1 ar kc el0 el1 el2 h0 n0) (own_Fr s ({ frames := 2, cells := 0, slots := 0, locals := 28 } : Room).cells ({ frames := 2, cells := 0, slots := 0, locals := 28 } : Room).slots) (T3.setTop (mkF m 13 #[.val (.ref a1), .val (.int (1 : Int32))] [(.ref ar)]))
  refine own_iloadN (pc' := 14) X3 hx rfl (hb hby dg0_1_13) rfl ?_
  obtain ⟨c4, B4, q4, s4, u4, H4, G4⟩ := id A_ar
  have i4 := inb_of s4 (j := (1 : Int32)) (by decide)
  refine own_by (X3.iaload hx (j := (1 : Int32)) (v := (.int el1)) (by rw [e3]; exact B4.1) (State.isArrayOf_alike hZ.alike B4.2.1) B4.2.2 i4 (H4.at i4 rfl) (g := (mkF m 14 #[.val (.ref a1), .val (.int (1 : Int32))] [(.int (1 : Int32)), (.ref ar)])) rfl rfl (hb hby dg0_1_14)) ?_
  show own_Go p e below (Qg1_3 Z a1 ar kc el0 el1 el2 h0 n0) (own_Fr s ({ frames := 2, cells := 0, slots := 0, locals := 28 } : Room).cells ({ frames := 2, cells := 0, slots := 0, locals := 28 } : Room).slots) (T3.setTop (mkF m 15 #[.val (.ref a1), .val (.int (1 : Int32))] [(.int el1)]))
  refine own_ret X3 hx Bd.returns Bd.notSynchronized (Or.inl ⟨rfl, by simp, _, rfl⟩) (hb hby dg0_1_15) rfl (by decide) (by decide) ?_
  show Qg1_3 Z a1 ar kc el0 el1 el2 h0 n0 _ T3.heap _
  rw [e3]
  exact ⟨rfl, trivial, N2a, rfl⟩
theorem ef_g2_3 (m : MethodId) (x0 : Addr) : entryFrame m #[(.ref x0), (.int (2 : Int32))] 2 = mkF m 0 #[.val (.ref x0), .val (.int (2 : Int32))] [] := by first | (simp [entryFrame, mkF, argsToLocals, Value.category, maxLocals]; done) | rfl
def Qg2_3 (Z : State) (a1 : Addr) (ar : Addr) (kc : ClassId) (el0 : Int32) (el1 : Int32) (el2 : Int32) (h0 : Heap) (n0 : Nat) (v : Option Value) (h : Heap) (L : List Loc) : Prop := v = some (.int el2) ∧ (True) ∧ Fr n0 L ∧ h = h0
set_option maxRecDepth 65536 in
set_option maxHeartbeats 40000000 in
theorem rmg2_3 (l : Launch) (Z : State) (a0 : Array Value) (hw : ∀ d ∈ tables_1, d.before a0 Z = true) (ws : List Jvm.Cond) (a1 : Addr) (ar : Addr) (kc : ClassId) (el0 : Int32) (el1 : Int32) (el2 : Int32) (h0 : Heap) (n0 : Nat) (Z0 : n0 ≤ h0.size) (F_values_a1 : Fld Z h0 a1 "com/example/libpundit/libpundit/core/IntList" "values" "[I" (.ref ar)) (F_size_a1 : Fld Z h0 a1 "com/example/libpundit/libpundit/core/IntList" "size" "I" (.int (3 : Int32))) (A_ar : Arv Z h0 ar kc .int (4 : Int32) [(.int el0), (.int el1), (.int el2), (.int (0 : Int32))] (.int (0 : Int32))) :
    MetFree l (⟨"com/example/libpundit/libpundit/core/IntList", "get", "(I)I"⟩ : MethodName) (head1 (Jvm.Cond.code (⟨"com/example/libpundit/libpundit/core/IntList", "get", "(I)I"⟩ : MethodName) prog_21_method_4_code 2 (some .int) :: ws) ({ frames := 2, cells := 0, slots := 0, locals := 28 } : Room)) (fun a U => a = #[(.ref a1), (.int (2 : Int32))] ∧ Z.Warmed39 U.vm ∧ U.heap = h0) (fun _ _ _ _ _ => True) (fun _ U o U' => ∃ v L, o = .returned v ∧ Qg2_3 Z a1 ar kc el0 el1 el2 h0 n0 v U'.heap L ∧ FrameEnd U o U' L ({ frames := 2, cells := 0, slots := 0, locals := 28 } : Room).cells ({ frames := 2, cells := 0, slots := 0, locals := 28 } : Room).slots) := by
  refine MetFree.of_bodySF (plainFor_of_name pn_1) hisR ?_
  intro p e s m args below meth c s₁ Bd hml0 hP hK
  obtain ⟨rfl, hZ, hh⟩ := hP
  have hx := Bd.exec
  have hby := Bd.bytes
  have hml : c.maxLocals = 2 := hml0
  have hown : s.vm.findClass "com/example/libpundit/libpundit/core/IntList" = some m.cls := findClass_of_methodNamed Bd.named
  have hnm := (name_of_methodNamed Bd.named Bd.method).1
  have X0 : Stand p l e ({ frames := 2, cells := 0, slots := 0, locals := 28 } : Room) s m #[(.ref a1), (.int (2 : Int32))] below meth c s₁ [] 0 0 := Stand.of_body Bd
  have e0 : s₁.heap = h0 := by rw [← hh, Bd.state]; rfl
  have N0 := Fr.nil n0
  change own_Go p e below (Qg2_3 Z a1 ar kc el0 el1 el2 h0 n0) (own_Fr s ({ frames := 2, cells := 0, slots := 0, locals := 28 } : Room).cells ({ frames := 2, cells := 0, slots := 0, locals := 28 } : Room).slots) (s₁.setTop (entryFrame m #[(.ref a1), (.int (2 : Int32))] 2))
  rw [ef_g2_3 m a1]
  have rel0 := rng32 el0
  have rel1 := rng32 el1
  have rel2 := rng32 el2
  refine own_iloadN (pc' := 1) X0 hx rfl (hb hby dg0_1_0) rfl ?_
  refine own_aloadN (pc' := 2) X0 hx rfl rfl (hb hby dg0_1_1) rfl ?_
  obtain ⟨T1, X1, e1, st1⟩ := getF X0 hx hZ hown (host := "") (Or.inl (hw _ (List.mem_of_getElem? (i := 18) rfl))) Via.refl e0 F_size_a1 (g := (mkF m 2 #[.val (.ref a1), .val (.int (2 : Int32))] [(.ref a1), (.int (2 : Int32))])) rfl rfl (hb hby dg0_1_2)
  refine own_by st1 ?_
  show own_Go p e below (Qg2_3 Z a1 ar kc el0 el1 el2 h0 n0) (own_Fr s ({ frames := 2, cells := 0, slots := 0, locals := 28 } : Room).cells ({ frames := 2, cells := 0, slots := 0, locals := 28 } : Room).slots) (T1.setTop (mkF m 5 #[.val (.ref a1), .val (.int (2 : Int32))] [(.int (3 : Int32)), (.int (2 : Int32))]))
  obtain ⟨_, _, ⟨T2, L2, k2, n2⟩, -, X2, ⟨Lc2, hQ2, l2, y2, z2⟩, st2⟩ := Jvm.LawKit.callS X1 hx (y := (⟨"java/util/Objects", "checkIndex", "(II)I"⟩ : MethodName)) hown (mvT hZ (hw _ (List.mem_of_getElem? (i := 25) rfl))) (mvT hZ (hw _ (List.mem_of_getElem? (i := 26) rfl))) (mvT hZ (hw _ (List.mem_of_getElem? (i := 27) rfl))) (mvT hZ (hw _ (List.mem_of_getElem? (i := 28) rfl))) (by decide) (backOf (W := 0) (rmo2_3 l Z a0 hw []  h0 n0 Z0 ) hZ (hw _ (List.mem_of_getElem? (i := 28) rfl)) (hw _ (List.mem_of_getElem? (i := 27) rfl)) (by decide) (by decide)) (g := (mkF m 5 #[.val (.ref a1), .val (.int (2 : Int32))] [(.int (3 : Int32)), (.int (2 : Int32))])) rfl (by rw [hml]; rfl) (argsL := [(.int (2 : Int32)), (.int (3 : Int32))]) (rest := []) (lenOf pd_0 rfl) rfl (by show 2 * 0 + _ ≤ _; exact Nat.le_of_eq rfl) (hb hby dg0_1_5) (fun _ _ => ⟨rfl, e1, (by decide : 0 + 0 ≤ _), (by decide : 0 + 0 ≤ _)⟩)
  dsimp only [Pt.U, Pt.locs, Pt.cells, Pt.slots] at X2 l2 y2 z2 st2 hQ2
  subst l2 y2 z2
  obtain ⟨rfl, pp2, N2, e2⟩ := hQ2
  have N2a := Fr.app N0 N2
  refine own_by st2 ?_
  show own_Go p e below (Qg2_3 Z a1 ar kc el0 el1 el2 h0 n0) (own_Fr s ({ frames := 2, cells := 0, slots := 0, locals := 28 } : Room).cells ({ frames := 2, cells := 0, slots := 0, locals := 28 } : Room).slots) (T2.setTop (mkF m 8 #[.val (.ref a1), .val (.int (2 : Int32))] [(.int (2 : Int32))]))
  refine own_pop (pc' := 9) X2 hx rfl (hb hby dg0_1_8) rfl ?_
  refine own_aloadN (pc' := 10) X2 hx rfl rfl (hb hby dg0_1_9) rfl ?_
  obtain ⟨T3, X3, e3, st3⟩ := getF X2 hx hZ hown (host := "") (Or.inl (hw _ (List.mem_of_getElem? (i := 11) rfl))) Via.refl e2 F_values_a1 (g := (mkF m 10 #[.val (.ref a1), .val (.int (2 : Int32))] [(.ref a1)])) rfl rfl (hb hby dg0_1_10)
  refine own_by st3 ?_
  show own_Go p e below (Qg2_3 Z a1 ar kc el0 el1 el2 h0 n0) (own_Fr s ({ frames := 2, cells := 0, slots := 0, locals := 28 } : Room).cells ({ frames := 2, cells := 0, slots := 0, locals := 28 } : Room).slots) (T3.setTop (mkF m 13 #[.val (.ref a1), .val (.int (2 : Int32))] [(.ref ar)]))
  refine own_iloadN (pc' := 14) X3 hx rfl (hb hby dg0_1_13) rfl ?_
  obtain ⟨c4, B4, q4, s4, u4, H4, G4⟩ := id A_ar
  have i4 := inb_of s4 (j := (2 : Int32)) (by decide)
  refine own_by (X3.iaload hx (j := (2 : Int32)) (v := (.int el2)) (by rw [e3]; exact B4.1) (State.isArrayOf_alike hZ.alike B4.2.1) B4.2.2 i4 (H4.at i4 rfl) (g := (mkF m 14 #[.val (.ref a1), .val (.int (2 : Int32))] [(.int (2 : Int32)), (.ref ar)])) rfl rfl (hb hby dg0_1_14)) ?_
  show own_Go p e below (Qg2_3 Z a1 ar kc el0 el1 el2 h0 n0) (own_Fr s ({ frames := 2, cells := 0, slots := 0, locals := 28 } : Room).cells ({ frames := 2, cells := 0, slots := 0, locals := 28 } : Room).slots) (T3.setTop (mkF m 15 #[.val (.ref a1), .val (.int (2 : Int32))] [(.int el2)]))
  refine own_ret X3 hx Bd.returns Bd.notSynchronized (Or.inl ⟨rfl, by simp, _, rfl⟩) (hb hby dg0_1_15) rfl (by decide) (by decide) ?_
  show Qg2_3 Z a1 ar kc el0 el1 el2 h0 n0 _ T3.heap _
  rw [e3]
  exact ⟨rfl, trivial, N2a, rfl⟩
theorem ef_g0_4 (m : MethodId) (x0 : Addr) : entryFrame m #[(.ref x0), (.int (0 : Int32))] 2 = mkF m 0 #[.val (.ref x0), .val (.int (0 : Int32))] [] := by first | (simp [entryFrame, mkF, argsToLocals, Value.category, maxLocals]; done) | rfl
def Qg0_4 (Z : State) (a1 : Addr) (ar : Addr) (kc : ClassId) (el0 : Int32) (el1 : Int32) (el2 : Int32) (el3 : Int32) (h0 : Heap) (n0 : Nat) (v : Option Value) (h : Heap) (L : List Loc) : Prop := v = some (.int el0) ∧ (True) ∧ Fr n0 L ∧ h = h0
set_option maxRecDepth 65536 in
set_option maxHeartbeats 40000000 in
theorem rmg0_4 (l : Launch) (Z : State) (a0 : Array Value) (hw : ∀ d ∈ tables_1, d.before a0 Z = true) (ws : List Jvm.Cond) (a1 : Addr) (ar : Addr) (kc : ClassId) (el0 : Int32) (el1 : Int32) (el2 : Int32) (el3 : Int32) (h0 : Heap) (n0 : Nat) (Z0 : n0 ≤ h0.size) (F_values_a1 : Fld Z h0 a1 "com/example/libpundit/libpundit/core/IntList" "values" "[I" (.ref ar)) (F_size_a1 : Fld Z h0 a1 "com/example/libpundit/libpundit/core/IntList" "size" "I" (.int (4 : Int32))) (A_ar : Arv Z h0 ar kc .int (4 : Int32) [(.int el0), (.int el1), (.int el2), (.int el3)] (.int (0 : Int32))) :
    MetFree l (⟨"com/example/libpundit/libpundit/core/IntList", "get", "(I)I"⟩ : MethodName) (head1 (Jvm.Cond.code (⟨"com/example/libpundit/libpundit/core/IntList", "get", "(I)I"⟩ : MethodName) prog_21_method_4_code 2 (some .int) :: ws) ({ frames := 2, cells := 0, slots := 0, locals := 28 } : Room)) (fun a U => a = #[(.ref a1), (.int (0 : Int32))] ∧ Z.Warmed39 U.vm ∧ U.heap = h0) (fun _ _ _ _ _ => True) (fun _ U o U' => ∃ v L, o = .returned v ∧ Qg0_4 Z a1 ar kc el0 el1 el2 el3 h0 n0 v U'.heap L ∧ FrameEnd U o U' L ({ frames := 2, cells := 0, slots := 0, locals := 28 } : Room).cells ({ frames := 2, cells := 0, slots := 0, locals := 28 } : Room).slots) := by
  refine MetFree.of_bodySF (plainFor_of_name pn_1) hisR ?_
  intro p e s m args below meth c s₁ Bd hml0 hP hK
  obtain ⟨rfl, hZ, hh⟩ := hP
  have hx := Bd.exec
  have hby := Bd.bytes
  have hml : c.maxLocals = 2 := hml0
  have hown : s.vm.findClass "com/example/libpundit/libpundit/core/IntList" = some m.cls := findClass_of_methodNamed Bd.named
  have hnm := (name_of_methodNamed Bd.named Bd.method).1
  have X0 : Stand p l e ({ frames := 2, cells := 0, slots := 0, locals := 28 } : Room) s m #[(.ref a1), (.int (0 : Int32))] below meth c s₁ [] 0 0 := Stand.of_body Bd
  have e0 : s₁.heap = h0 := by rw [← hh, Bd.state]; rfl
  have N0 := Fr.nil n0
  change own_Go p e below (Qg0_4 Z a1 ar kc el0 el1 el2 el3 h0 n0) (own_Fr s ({ frames := 2, cells := 0, slots := 0, locals := 28 } : Room).cells ({ frames := 2, cells := 0, slots := 0, locals := 28 } : Room).slots) (s₁.setTop (entryFrame m #[(.ref a1), (.int (0 : Int32))] 2))
  rw [ef_g0_4 m a1]
  have rel0 := rng32 el0
  have rel1 := rng32 el1
  have rel2 := rng32 el2
  have rel3 := rng32 el3
  refine own_iloadN (pc' := 1) X0 hx rfl (hb hby dg0_1_0) rfl ?_
  refine own_aloadN (pc' := 2) X0 hx rfl rfl (hb hby dg0_1_1) rfl ?_
  obtain ⟨T1, X1, e1, st1⟩ := getF X0 hx hZ hown (host := "") (Or.inl (hw _ (List.mem_of_getElem? (i := 18) rfl))) Via.refl e0 F_size_a1 (g := (mkF m 2 #[.val (.ref a1), .val (.int (0 : Int32))] [(.ref a1), (.int (0 : Int32))])) rfl rfl (hb hby dg0_1_2)
  refine own_by st1 ?_
  show own_Go p e below (Qg0_4 Z a1 ar kc el0 el1 el2 el3 h0 n0) (own_Fr s ({ frames := 2, cells := 0, slots := 0, locals := 28 } : Room).cells ({ frames := 2, cells := 0, slots := 0, locals := 28 } : Room).slots) (T1.setTop (mkF m 5 #[.val (.ref a1), .val (.int (0 : Int32))] [(.int (4 : Int32)), (.int (0 : Int32))]))
  obtain ⟨_, _, ⟨T2, L2, k2, n2⟩, -, X2, ⟨Lc2, hQ2, l2, y2, z2⟩, st2⟩ := Jvm.LawKit.callS X1 hx (y := (⟨"java/util/Objects", "checkIndex", "(II)I"⟩ : MethodName)) hown (mvT hZ (hw _ (List.mem_of_getElem? (i := 25) rfl))) (mvT hZ (hw _ (List.mem_of_getElem? (i := 26) rfl))) (mvT hZ (hw _ (List.mem_of_getElem? (i := 27) rfl))) (mvT hZ (hw _ (List.mem_of_getElem? (i := 28) rfl))) (by decide) (backOf (W := 0) (rmo0_4 l Z a0 hw []  h0 n0 Z0 ) hZ (hw _ (List.mem_of_getElem? (i := 28) rfl)) (hw _ (List.mem_of_getElem? (i := 27) rfl)) (by decide) (by decide)) (g := (mkF m 5 #[.val (.ref a1), .val (.int (0 : Int32))] [(.int (4 : Int32)), (.int (0 : Int32))])) rfl (by rw [hml]; rfl) (argsL := [(.int (0 : Int32)), (.int (4 : Int32))]) (rest := []) (lenOf pd_0 rfl) rfl (by show 2 * 0 + _ ≤ _; exact Nat.le_of_eq rfl) (hb hby dg0_1_5) (fun _ _ => ⟨rfl, e1, (by decide : 0 + 0 ≤ _), (by decide : 0 + 0 ≤ _)⟩)
  dsimp only [Pt.U, Pt.locs, Pt.cells, Pt.slots] at X2 l2 y2 z2 st2 hQ2
  subst l2 y2 z2
  obtain ⟨rfl, pp2, N2, e2⟩ := hQ2
  have N2a := Fr.app N0 N2
  refine own_by st2 ?_
  show own_Go p e below (Qg0_4 Z a1 ar kc el0 el1 el2 el3 h0 n0) (own_Fr s ({ frames := 2, cells := 0, slots := 0, locals := 28 } : Room).cells ({ frames := 2, cells := 0, slots := 0, locals := 28 } : Room).slots) (T2.setTop (mkF m 8 #[.val (.ref a1), .val (.int (0 : Int32))] [(.int (0 : Int32))]))
  refine own_pop (pc' := 9) X2 hx rfl (hb hby dg0_1_8) rfl ?_
  refine own_aloadN (pc' := 10) X2 hx rfl rfl (hb hby dg0_1_9) rfl ?_
  obtain ⟨T3, X3, e3, st3⟩ := getF X2 hx hZ hown (host := "") (Or.inl (hw _ (List.mem_of_getElem? (i := 11) rfl))) Via.refl e2 F_values_a1 (g := (mkF m 10 #[.val (.ref a1), .val (.int (0 : Int32))] [(.ref a1)])) rfl rfl (hb hby dg0_1_10)
  refine own_by st3 ?_
  show own_Go p e below (Qg0_4 Z a1 ar kc el0 el1 el2 el3 h0 n0) (own_Fr s ({ frames := 2, cells := 0, slots := 0, locals := 28 } : Room).cells ({ frames := 2, cells := 0, slots := 0, locals := 28 } : Room).slots) (T3.setTop (mkF m 13 #[.val (.ref a1), .val (.int (0 : Int32))] [(.ref ar)]))
  refine own_iloadN (pc' := 14) X3 hx rfl (hb hby dg0_1_13) rfl ?_
  obtain ⟨c4, B4, q4, s4, u4, H4, G4⟩ := id A_ar
  have i4 := inb_of s4 (j := (0 : Int32)) (by decide)
  refine own_by (X3.iaload hx (j := (0 : Int32)) (v := (.int el0)) (by rw [e3]; exact B4.1) (State.isArrayOf_alike hZ.alike B4.2.1) B4.2.2 i4 (H4.at i4 rfl) (g := (mkF m 14 #[.val (.ref a1), .val (.int (0 : Int32))] [(.int (0 : Int32)), (.ref ar)])) rfl rfl (hb hby dg0_1_14)) ?_
  show own_Go p e below (Qg0_4 Z a1 ar kc el0 el1 el2 el3 h0 n0) (own_Fr s ({ frames := 2, cells := 0, slots := 0, locals := 28 } : Room).cells ({ frames := 2, cells := 0, slots := 0, locals := 28 } : Room).slots) (T3.setTop (mkF m 15 #[.val (.ref a1), .val (.int (0 : Int32))] [(.int el0)]))
  refine own_ret X3 hx Bd.returns Bd.notSynchronized (Or.inl ⟨rfl, by simp, _, rfl⟩) (hb hby dg0_1_15) rfl (by decide) (by decide) ?_
  show Qg0_4 Z a1 ar kc el0 el1 el2 el3 h0 n0 _ T3.heap _
  rw [e3]
  exact ⟨rfl, trivial, N2a, rfl⟩
theorem ef_g1_4 (m : MethodId) (x0 : Addr) : entryFrame m #[(.ref x0), (.int (1 : Int32))] 2 = mkF m 0 #[.val (.ref x0), .val (.int (1 : Int32))] [] := by first | (simp [entryFrame, mkF, argsToLocals, Value.category, maxLocals]; done) | rfl
def Qg1_4 (Z : State) (a1 : Addr) (ar : Addr) (kc : ClassId) (el0 : Int32) (el1 : Int32) (el2 : Int32) (el3 : Int32) (h0 : Heap) (n0 : Nat) (v : Option Value) (h : Heap) (L : List Loc) : Prop := v = some (.int el1) ∧ (True) ∧ Fr n0 L ∧ h = h0
set_option maxRecDepth 65536 in
set_option maxHeartbeats 40000000 in
theorem rmg1_4 (l : Launch) (Z : State) (a0 : Array Value) (hw : ∀ d ∈ tables_1, d.before a0 Z = true) (ws : List Jvm.Cond) (a1 : Addr) (ar : Addr) (kc : ClassId) (el0 : Int32) (el1 : Int32) (el2 : Int32) (el3 : Int32) (h0 : Heap) (n0 : Nat) (Z0 : n0 ≤ h0.size) (F_values_a1 : Fld Z h0 a1 "com/example/libpundit/libpundit/core/IntList" "values" "[I" (.ref ar)) (F_size_a1 : Fld Z h0 a1 "com/example/libpundit/libpundit/core/IntList" "size" "I" (.int (4 : Int32))) (A_ar : Arv Z h0 ar kc .int (4 : Int32) [(.int el0), (.int el1), (.int el2), (.int el3)] (.int (0 : Int32))) :
    MetFree l (⟨"com/example/libpundit/libpundit/core/IntList", "get", "(I)I"⟩ : MethodName) (head1 (Jvm.Cond.code (⟨"com/example/libpundit/libpundit/core/IntList", "get", "(I)I"⟩ : MethodName) prog_21_method_4_code 2 (some .int) :: ws) ({ frames := 2, cells := 0, slots := 0, locals := 28 } : Room)) (fun a U => a = #[(.ref a1), (.int (1 : Int32))] ∧ Z.Warmed39 U.vm ∧ U.heap = h0) (fun _ _ _ _ _ => True) (fun _ U o U' => ∃ v L, o = .returned v ∧ Qg1_4 Z a1 ar kc el0 el1 el2 el3 h0 n0 v U'.heap L ∧ FrameEnd U o U' L ({ frames := 2, cells := 0, slots := 0, locals := 28 } : Room).cells ({ frames := 2, cells := 0, slots := 0, locals := 28 } : Room).slots) := by
  refine MetFree.of_bodySF (plainFor_of_name pn_1) hisR ?_
  intro p e s m args below meth c s₁ Bd hml0 hP hK
  obtain ⟨rfl, hZ, hh⟩ := hP
  have hx := Bd.exec
  have hby := Bd.bytes
  have hml : c.maxLocals = 2 := hml0
  have hown : s.vm.findClass "com/example/libpundit/libpundit/core/IntList" = some m.cls := findClass_of_methodNamed Bd.named
  have hnm := (name_of_methodNamed Bd.named Bd.method).1
  have X0 : Stand p l e ({ frames := 2, cells := 0, slots := 0, locals := 28 } : Room) s m #[(.ref a1), (.int (1 : Int32))] below meth c s₁ [] 0 0 := Stand.of_body Bd
  have e0 : s₁.heap = h0 := by rw [← hh, Bd.state]; rfl
  have N0 := Fr.nil n0
  change own_Go p e below (Qg1_4 Z a1 ar kc el0 el1 el2 el3 h0 n0) (own_Fr s ({ frames := 2, cells := 0, slots := 0, locals := 28 } : Room).cells ({ frames := 2, cells := 0, slots := 0, locals := 28 } : Room).slots) (s₁.setTop (entryFrame m #[(.ref a1), (.int (1 : Int32))] 2))
  rw [ef_g1_4 m a1]
  have rel0 := rng32 el0
  have rel1 := rng32 el1
  have rel2 := rng32 el2
  have rel3 := rng32 el3
  refine own_iloadN (pc' := 1) X0 hx rfl (hb hby dg0_1_0) rfl ?_
  refine own_aloadN (pc' := 2) X0 hx rfl rfl (hb hby dg0_1_1) rfl ?_
  obtain ⟨T1, X1, e1, st1⟩ := getF X0 hx hZ hown (host := "") (Or.inl (hw _ (List.mem_of_getElem? (i := 18) rfl))) Via.refl e0 F_size_a1 (g := (mkF m 2 #[.val (.ref a1), .val (.int (1 : Int32))] [(.ref a1), (.int (1 : Int32))])) rfl rfl (hb hby dg0_1_2)
  refine own_by st1 ?_
  show own_Go p e below (Qg1_4 Z a1 ar kc el0 el1 el2 el3 h0 n0) (own_Fr s ({ frames := 2, cells := 0, slots := 0, locals := 28 } : Room).cells ({ frames := 2, cells := 0, slots := 0, locals := 28 } : Room).slots) (T1.setTop (mkF m 5 #[.val (.ref a1), .val (.int (1 : Int32))] [(.int (4 : Int32)), (.int (1 : Int32))]))
  obtain ⟨_, _, ⟨T2, L2, k2, n2⟩, -, X2, ⟨Lc2, hQ2, l2, y2, z2⟩, st2⟩ := Jvm.LawKit.callS X1 hx (y := (⟨"java/util/Objects", "checkIndex", "(II)I"⟩ : MethodName)) hown (mvT hZ (hw _ (List.mem_of_getElem? (i := 25) rfl))) (mvT hZ (hw _ (List.mem_of_getElem? (i := 26) rfl))) (mvT hZ (hw _ (List.mem_of_getElem? (i := 27) rfl))) (mvT hZ (hw _ (List.mem_of_getElem? (i := 28) rfl))) (by decide) (backOf (W := 0) (rmo1_4 l Z a0 hw []  h0 n0 Z0 ) hZ (hw _ (List.mem_of_getElem? (i := 28) rfl)) (hw _ (List.mem_of_getElem? (i := 27) rfl)) (by decide) (by decide)) (g := (mkF m 5 #[.val (.ref a1), .val (.int (1 : Int32))] [(.int (4 : Int32)), (.int (1 : Int32))])) rfl (by rw [hml]; rfl) (argsL := [(.int (1 : Int32)), (.int (4 : Int32))]) (rest := []) (lenOf pd_0 rfl) rfl (by show 2 * 0 + _ ≤ _; exact Nat.le_of_eq rfl) (hb hby dg0_1_5) (fun _ _ => ⟨rfl, e1, (by decide : 0 + 0 ≤ _), (by decide : 0 + 0 ≤ _)⟩)
  dsimp only [Pt.U, Pt.locs, Pt.cells, Pt.slots] at X2 l2 y2 z2 st2 hQ2
  subst l2 y2 z2
  obtain ⟨rfl, pp2, N2, e2⟩ := hQ2
  have N2a := Fr.app N0 N2
  refine own_by st2 ?_
  show own_Go p e below (Qg1_4 Z a1 ar kc el0 el1 el2 el3 h0 n0) (own_Fr s ({ frames := 2, cells := 0, slots := 0, locals := 28 } : Room).cells ({ frames := 2, cells := 0, slots := 0, locals := 28 } : Room).slots) (T2.setTop (mkF m 8 #[.val (.ref a1), .val (.int (1 : Int32))] [(.int (1 : Int32))]))
  refine own_pop (pc' := 9) X2 hx rfl (hb hby dg0_1_8) rfl ?_
  refine own_aloadN (pc' := 10) X2 hx rfl rfl (hb hby dg0_1_9) rfl ?_
  obtain ⟨T3, X3, e3, st3⟩ := getF X2 hx hZ hown (host := "") (Or.inl (hw _ (List.mem_of_getElem? (i := 11) rfl))) Via.refl e2 F_values_a1 (g := (mkF m 10 #[.val (.ref a1), .val (.int (1 : Int32))] [(.ref a1)])) rfl rfl (hb hby dg0_1_10)
  refine own_by st3 ?_
  show own_Go p e below (Qg1_4 Z a1 ar kc el0 el1 el2 el3 h0 n0) (own_Fr s ({ frames := 2, cells := 0, slots := 0, locals := 28 } : Room).cells ({ frames := 2, cells := 0, slots := 0, locals := 28 } : Room).slots) (T3.setTop (mkF m 13 #[.val (.ref a1), .val (.int (1 : Int32))] [(.ref ar)]))
  refine own_iloadN (pc' := 14) X3 hx rfl (hb hby dg0_1_13) rfl ?_
  obtain ⟨c4, B4, q4, s4, u4, H4, G4⟩ := id A_ar
  have i4 := inb_of s4 (j := (1 : Int32)) (by decide)
  refine own_by (X3.iaload hx (j := (1 : Int32)) (v := (.int el1)) (by rw [e3]; exact B4.1) (State.isArrayOf_alike hZ.alike B4.2.1) B4.2.2 i4 (H4.at i4 rfl) (g := (mkF m 14 #[.val (.ref a1), .val (.int (1 : Int32))] [(.int (1 : Int32)), (.ref ar)])) rfl rfl (hb hby dg0_1_14)) ?_
  show own_Go p e below (Qg1_4 Z a1 ar kc el0 el1 el2 el3 h0 n0) (own_Fr s ({ frames := 2, cells := 0, slots := 0, locals := 28 } : Room).cells ({ frames := 2, cells := 0, slots := 0, locals := 28 } : Room).slots) (T3.setTop (mkF m 15 #[.val (.ref a1), .val (.int (1 : Int32))] [(.int el1)]))
  refine own_ret X3 hx Bd.returns Bd.notSynchronized (Or.inl ⟨rfl, by simp, _, rfl⟩) (hb hby dg0_1_15) rfl (by decide) (by decide) ?_
  show Qg1_4 Z a1 ar kc el0 el1 el2 el3 h0 n0 _ T3.heap _
  rw [e3]
  exact ⟨rfl, trivial, N2a, rfl⟩
theorem ef_g2_4 (m : MethodId) (x0 : Addr) : entryFrame m #[(.ref x0), (.int (2 : Int32))] 2 = mkF m 0 #[.val (.ref x0), .val (.int (2 : Int32))] [] := by first | (simp [entryFrame, mkF, argsToLocals, Value.category, maxLocals]; done) | rfl
def Qg2_4 (Z : State) (a1 : Addr) (ar : Addr) (kc : ClassId) (el0 : Int32) (el1 : Int32) (el2 : Int32) (el3 : Int32) (h0 : Heap) (n0 : Nat) (v : Option Value) (h : Heap) (L : List Loc) : Prop := v = some (.int el2) ∧ (True) ∧ Fr n0 L ∧ h = h0
set_option maxRecDepth 65536 in
set_option maxHeartbeats 40000000 in
theorem rmg2_4 (l : Launch) (Z : State) (a0 : Array Value) (hw : ∀ d ∈ tables_1, d.before a0 Z = true) (ws : List Jvm.Cond) (a1 : Addr) (ar : Addr) (kc : ClassId) (el0 : Int32) (el1 : Int32) (el2 : Int32) (el3 : Int32) (h0 : Heap) (n0 : Nat) (Z0 : n0 ≤ h0.size) (F_values_a1 : Fld Z h0 a1 "com/example/libpundit/libpundit/core/IntList" "values" "[I" (.ref ar)) (F_size_a1 : Fld Z h0 a1 "com/example/libpundit/libpundit/core/IntList" "size" "I" (.int (4 : Int32))) (A_ar : Arv Z h0 ar kc .int (4 : Int32) [(.int el0), (.int el1), (.int el2), (.int el3)] (.int (0 : Int32))) :
    MetFree l (⟨"com/example/libpundit/libpundit/core/IntList", "get", "(I)I"⟩ : MethodName) (head1 (Jvm.Cond.code (⟨"com/example/libpundit/libpundit/core/IntList", "get", "(I)I"⟩ : MethodName) prog_21_method_4_code 2 (some .int) :: ws) ({ frames := 2, cells := 0, slots := 0, locals := 28 } : Room)) (fun a U => a = #[(.ref a1), (.int (2 : Int32))] ∧ Z.Warmed39 U.vm ∧ U.heap = h0) (fun _ _ _ _ _ => True) (fun _ U o U' => ∃ v L, o = .returned v ∧ Qg2_4 Z a1 ar kc el0 el1 el2 el3 h0 n0 v U'.heap L ∧ FrameEnd U o U' L ({ frames := 2, cells := 0, slots := 0, locals := 28 } : Room).cells ({ frames := 2, cells := 0, slots := 0, locals := 28 } : Room).slots) := by
  refine MetFree.of_bodySF (plainFor_of_name pn_1) hisR ?_
  intro p e s m args below meth c s₁ Bd hml0 hP hK
  obtain ⟨rfl, hZ, hh⟩ := hP
  have hx := Bd.exec
  have hby := Bd.bytes
  have hml : c.maxLocals = 2 := hml0
  have hown : s.vm.findClass "com/example/libpundit/libpundit/core/IntList" = some m.cls := findClass_of_methodNamed Bd.named
  have hnm := (name_of_methodNamed Bd.named Bd.method).1
  have X0 : Stand p l e ({ frames := 2, cells := 0, slots := 0, locals := 28 } : Room) s m #[(.ref a1), (.int (2 : Int32))] below meth c s₁ [] 0 0 := Stand.of_body Bd
  have e0 : s₁.heap = h0 := by rw [← hh, Bd.state]; rfl
  have N0 := Fr.nil n0
  change own_Go p e below (Qg2_4 Z a1 ar kc el0 el1 el2 el3 h0 n0) (own_Fr s ({ frames := 2, cells := 0, slots := 0, locals := 28 } : Room).cells ({ frames := 2, cells := 0, slots := 0, locals := 28 } : Room).slots) (s₁.setTop (entryFrame m #[(.ref a1), (.int (2 : Int32))] 2))
  rw [ef_g2_4 m a1]
  have rel0 := rng32 el0
  have rel1 := rng32 el1
  have rel2 := rng32 el2
  have rel3 := rng32 el3
  refine own_iloadN (pc' := 1) X0 hx rfl (hb hby dg0_1_0) rfl ?_
  refine own_aloadN (pc' := 2) X0 hx rfl rfl (hb hby dg0_1_1) rfl ?_
  obtain ⟨T1, X1, e1, st1⟩ := getF X0 hx hZ hown (host := "") (Or.inl (hw _ (List.mem_of_getElem? (i := 18) rfl))) Via.refl e0 F_size_a1 (g := (mkF m 2 #[.val (.ref a1), .val (.int (2 : Int32))] [(.ref a1), (.int (2 : Int32))])) rfl rfl (hb hby dg0_1_2)
  refine own_by st1 ?_
  show own_Go p e below (Qg2_4 Z a1 ar kc el0 el1 el2 el3 h0 n0) (own_Fr s ({ frames := 2, cells := 0, slots := 0, locals := 28 } : Room).cells ({ frames := 2, cells := 0, slots := 0, locals := 28 } : Room).slots) (T1.setTop (mkF m 5 #[.val (.ref a1), .val (.int (2 : Int32))] [(.int (4 : Int32)), (.int (2 : Int32))]))
  obtain ⟨_, _, ⟨T2, L2, k2, n2⟩, -, X2, ⟨Lc2, hQ2, l2, y2, z2⟩, st2⟩ := Jvm.LawKit.callS X1 hx (y := (⟨"java/util/Objects", "checkIndex", "(II)I"⟩ : MethodName)) hown (mvT hZ (hw _ (List.mem_of_getElem? (i := 25) rfl))) (mvT hZ (hw _ (List.mem_of_getElem? (i := 26) rfl))) (mvT hZ (hw _ (List.mem_of_getElem? (i := 27) rfl))) (mvT hZ (hw _ (List.mem_of_getElem? (i := 28) rfl))) (by decide) (backOf (W := 0) (rmo2_4 l Z a0 hw []  h0 n0 Z0 ) hZ (hw _ (List.mem_of_getElem? (i := 28) rfl)) (hw _ (List.mem_of_getElem? (i := 27) rfl)) (by decide) (by decide)) (g := (mkF m 5 #[.val (.ref a1), .val (.int (2 : Int32))] [(.int (4 : Int32)), (.int (2 : Int32))])) rfl (by rw [hml]; rfl) (argsL := [(.int (2 : Int32)), (.int (4 : Int32))]) (rest := []) (lenOf pd_0 rfl) rfl (by show 2 * 0 + _ ≤ _; exact Nat.le_of_eq rfl) (hb hby dg0_1_5) (fun _ _ => ⟨rfl, e1, (by decide : 0 + 0 ≤ _), (by decide : 0 + 0 ≤ _)⟩)
  dsimp only [Pt.U, Pt.locs, Pt.cells, Pt.slots] at X2 l2 y2 z2 st2 hQ2
  subst l2 y2 z2
  obtain ⟨rfl, pp2, N2, e2⟩ := hQ2
  have N2a := Fr.app N0 N2
  refine own_by st2 ?_
  show own_Go p e below (Qg2_4 Z a1 ar kc el0 el1 el2 el3 h0 n0) (own_Fr s ({ frames := 2, cells := 0, slots := 0, locals := 28 } : Room).cells ({ frames := 2, cells := 0, slots := 0, locals := 28 } : Room).slots) (T2.setTop (mkF m 8 #[.val (.ref a1), .val (.int (2 : Int32))] [(.int (2 : Int32))]))
  refine own_pop (pc' := 9) X2 hx rfl (hb hby dg0_1_8) rfl ?_
  refine own_aloadN (pc' := 10) X2 hx rfl rfl (hb hby dg0_1_9) rfl ?_
  obtain ⟨T3, X3, e3, st3⟩ := getF X2 hx hZ hown (host := "") (Or.inl (hw _ (List.mem_of_getElem? (i := 11) rfl))) Via.refl e2 F_values_a1 (g := (mkF m 10 #[.val (.ref a1), .val (.int (2 : Int32))] [(.ref a1)])) rfl rfl (hb hby dg0_1_10)
  refine own_by st3 ?_
  show own_Go p e below (Qg2_4 Z a1 ar kc el0 el1 el2 el3 h0 n0) (own_Fr s ({ frames := 2, cells := 0, slots := 0, locals := 28 } : Room).cells ({ frames := 2, cells := 0, slots := 0, locals := 28 } : Room).slots) (T3.setTop (mkF m 13 #[.val (.ref a1), .val (.int (2 : Int32))] [(.ref ar)]))
  refine own_iloadN (pc' := 14) X3 hx rfl (hb hby dg0_1_13) rfl ?_
  obtain ⟨c4, B4, q4, s4, u4, H4, G4⟩ := id A_ar
  have i4 := inb_of s4 (j := (2 : Int32)) (by decide)
  refine own_by (X3.iaload hx (j := (2 : Int32)) (v := (.int el2)) (by rw [e3]; exact B4.1) (State.isArrayOf_alike hZ.alike B4.2.1) B4.2.2 i4 (H4.at i4 rfl) (g := (mkF m 14 #[.val (.ref a1), .val (.int (2 : Int32))] [(.int (2 : Int32)), (.ref ar)])) rfl rfl (hb hby dg0_1_14)) ?_
  show own_Go p e below (Qg2_4 Z a1 ar kc el0 el1 el2 el3 h0 n0) (own_Fr s ({ frames := 2, cells := 0, slots := 0, locals := 28 } : Room).cells ({ frames := 2, cells := 0, slots := 0, locals := 28 } : Room).slots) (T3.setTop (mkF m 15 #[.val (.ref a1), .val (.int (2 : Int32))] [(.int el2)]))
  refine own_ret X3 hx Bd.returns Bd.notSynchronized (Or.inl ⟨rfl, by simp, _, rfl⟩) (hb hby dg0_1_15) rfl (by decide) (by decide) ?_
  show Qg2_4 Z a1 ar kc el0 el1 el2 el3 h0 n0 _ T3.heap _
  rw [e3]
  exact ⟨rfl, trivial, N2a, rfl⟩
theorem ef_g3_4 (m : MethodId) (x0 : Addr) : entryFrame m #[(.ref x0), (.int (3 : Int32))] 2 = mkF m 0 #[.val (.ref x0), .val (.int (3 : Int32))] [] := by first | (simp [entryFrame, mkF, argsToLocals, Value.category, maxLocals]; done) | rfl
def Qg3_4 (Z : State) (a1 : Addr) (ar : Addr) (kc : ClassId) (el0 : Int32) (el1 : Int32) (el2 : Int32) (el3 : Int32) (h0 : Heap) (n0 : Nat) (v : Option Value) (h : Heap) (L : List Loc) : Prop := v = some (.int el3) ∧ (True) ∧ Fr n0 L ∧ h = h0
set_option maxRecDepth 65536 in
set_option maxHeartbeats 40000000 in
theorem rmg3_4 (l : Launch) (Z : State) (a0 : Array Value) (hw : ∀ d ∈ tables_1, d.before a0 Z = true) (ws : List Jvm.Cond) (a1 : Addr) (ar : Addr) (kc : ClassId) (el0 : Int32) (el1 : Int32) (el2 : Int32) (el3 : Int32) (h0 : Heap) (n0 : Nat) (Z0 : n0 ≤ h0.size) (F_values_a1 : Fld Z h0 a1 "com/example/libpundit/libpundit/core/IntList" "values" "[I" (.ref ar)) (F_size_a1 : Fld Z h0 a1 "com/example/libpundit/libpundit/core/IntList" "size" "I" (.int (4 : Int32))) (A_ar : Arv Z h0 ar kc .int (4 : Int32) [(.int el0), (.int el1), (.int el2), (.int el3)] (.int (0 : Int32))) :
    MetFree l (⟨"com/example/libpundit/libpundit/core/IntList", "get", "(I)I"⟩ : MethodName) (head1 (Jvm.Cond.code (⟨"com/example/libpundit/libpundit/core/IntList", "get", "(I)I"⟩ : MethodName) prog_21_method_4_code 2 (some .int) :: ws) ({ frames := 2, cells := 0, slots := 0, locals := 28 } : Room)) (fun a U => a = #[(.ref a1), (.int (3 : Int32))] ∧ Z.Warmed39 U.vm ∧ U.heap = h0) (fun _ _ _ _ _ => True) (fun _ U o U' => ∃ v L, o = .returned v ∧ Qg3_4 Z a1 ar kc el0 el1 el2 el3 h0 n0 v U'.heap L ∧ FrameEnd U o U' L ({ frames := 2, cells := 0, slots := 0, locals := 28 } : Room).cells ({ frames := 2, cells := 0, slots := 0, locals := 28 } : Room).slots) := by
  refine MetFree.of_bodySF (plainFor_of_name pn_1) hisR ?_
  intro p e s m args below meth c s₁ Bd hml0 hP hK
  obtain ⟨rfl, hZ, hh⟩ := hP
  have hx := Bd.exec
  have hby := Bd.bytes
  have hml : c.maxLocals = 2 := hml0
  have hown : s.vm.findClass "com/example/libpundit/libpundit/core/IntList" = some m.cls := findClass_of_methodNamed Bd.named
  have hnm := (name_of_methodNamed Bd.named Bd.method).1
  have X0 : Stand p l e ({ frames := 2, cells := 0, slots := 0, locals := 28 } : Room) s m #[(.ref a1), (.int (3 : Int32))] below meth c s₁ [] 0 0 := Stand.of_body Bd
  have e0 : s₁.heap = h0 := by rw [← hh, Bd.state]; rfl
  have N0 := Fr.nil n0
  change own_Go p e below (Qg3_4 Z a1 ar kc el0 el1 el2 el3 h0 n0) (own_Fr s ({ frames := 2, cells := 0, slots := 0, locals := 28 } : Room).cells ({ frames := 2, cells := 0, slots := 0, locals := 28 } : Room).slots) (s₁.setTop (entryFrame m #[(.ref a1), (.int (3 : Int32))] 2))
  rw [ef_g3_4 m a1]
  have rel0 := rng32 el0
  have rel1 := rng32 el1
  have rel2 := rng32 el2
  have rel3 := rng32 el3
  refine own_iloadN (pc' := 1) X0 hx rfl (hb hby dg0_1_0) rfl ?_
  refine own_aloadN (pc' := 2) X0 hx rfl rfl (hb hby dg0_1_1) rfl ?_
  obtain ⟨T1, X1, e1, st1⟩ := getF X0 hx hZ hown (host := "") (Or.inl (hw _ (List.mem_of_getElem? (i := 18) rfl))) Via.refl e0 F_size_a1 (g := (mkF m 2 #[.val (.ref a1), .val (.int (3 : Int32))] [(.ref a1), (.int (3 : Int32))])) rfl rfl (hb hby dg0_1_2)
  refine own_by st1 ?_
  show own_Go p e below (Qg3_4 Z a1 ar kc el0 el1 el2 el3 h0 n0) (own_Fr s ({ frames := 2, cells := 0, slots := 0, locals := 28 } : Room).cells ({ frames := 2, cells := 0, slots := 0, locals := 28 } : Room).slots) (T1.setTop (mkF m 5 #[.val (.ref a1), .val (.int (3 : Int32))] [(.int (4 : Int32)), (.int (3 : Int32))]))
  obtain ⟨_, _, ⟨T2, L2, k2, n2⟩, -, X2, ⟨Lc2, hQ2, l2, y2, z2⟩, st2⟩ := Jvm.LawKit.callS X1 hx (y := (⟨"java/util/Objects", "checkIndex", "(II)I"⟩ : MethodName)) hown (mvT hZ (hw _ (List.mem_of_getElem? (i := 25) rfl))) (mvT hZ (hw _ (List.mem_of_getElem? (i := 26) rfl))) (mvT hZ (hw _ (List.mem_of_getElem? (i := 27) rfl))) (mvT hZ (hw _ (List.mem_of_getElem? (i := 28) rfl))) (by decide) (backOf (W := 0) (rmo3_4 l Z a0 hw []  h0 n0 Z0 ) hZ (hw _ (List.mem_of_getElem? (i := 28) rfl)) (hw _ (List.mem_of_getElem? (i := 27) rfl)) (by decide) (by decide)) (g := (mkF m 5 #[.val (.ref a1), .val (.int (3 : Int32))] [(.int (4 : Int32)), (.int (3 : Int32))])) rfl (by rw [hml]; rfl) (argsL := [(.int (3 : Int32)), (.int (4 : Int32))]) (rest := []) (lenOf pd_0 rfl) rfl (by show 2 * 0 + _ ≤ _; exact Nat.le_of_eq rfl) (hb hby dg0_1_5) (fun _ _ => ⟨rfl, e1, (by decide : 0 + 0 ≤ _), (by decide : 0 + 0 ≤ _)⟩)
  dsimp only [Pt.U, Pt.locs, Pt.cells, Pt.slots] at X2 l2 y2 z2 st2 hQ2
  subst l2 y2 z2
  obtain ⟨rfl, pp2, N2, e2⟩ := hQ2
  have N2a := Fr.app N0 N2
  refine own_by st2 ?_
  show own_Go p e below (Qg3_4 Z a1 ar kc el0 el1 el2 el3 h0 n0) (own_Fr s ({ frames := 2, cells := 0, slots := 0, locals := 28 } : Room).cells ({ frames := 2, cells := 0, slots := 0, locals := 28 } : Room).slots) (T2.setTop (mkF m 8 #[.val (.ref a1), .val (.int (3 : Int32))] [(.int (3 : Int32))]))
  refine own_pop (pc' := 9) X2 hx rfl (hb hby dg0_1_8) rfl ?_
  refine own_aloadN (pc' := 10) X2 hx rfl rfl (hb hby dg0_1_9) rfl ?_
  obtain ⟨T3, X3, e3, st3⟩ := getF X2 hx hZ hown (host := "") (Or.inl (hw _ (List.mem_of_getElem? (i := 11) rfl))) Via.refl e2 F_values_a1 (g := (mkF m 10 #[.val (.ref a1), .val (.int (3 : Int32))] [(.ref a1)])) rfl rfl (hb hby dg0_1_10)
  refine own_by st3 ?_
  show own_Go p e below (Qg3_4 Z a1 ar kc el0 el1 el2 el3 h0 n0) (own_Fr s ({ frames := 2, cells := 0, slots := 0, locals := 28 } : Room).cells ({ frames := 2, cells := 0, slots := 0, locals := 28 } : Room).slots) (T3.setTop (mkF m 13 #[.val (.ref a1), .val (.int (3 : Int32))] [(.ref ar)]))
  refine own_iloadN (pc' := 14) X3 hx rfl (hb hby dg0_1_13) rfl ?_
  obtain ⟨c4, B4, q4, s4, u4, H4, G4⟩ := id A_ar
  have i4 := inb_of s4 (j := (3 : Int32)) (by decide)
  refine own_by (X3.iaload hx (j := (3 : Int32)) (v := (.int el3)) (by rw [e3]; exact B4.1) (State.isArrayOf_alike hZ.alike B4.2.1) B4.2.2 i4 (H4.at i4 rfl) (g := (mkF m 14 #[.val (.ref a1), .val (.int (3 : Int32))] [(.int (3 : Int32)), (.ref ar)])) rfl rfl (hb hby dg0_1_14)) ?_
  show own_Go p e below (Qg3_4 Z a1 ar kc el0 el1 el2 el3 h0 n0) (own_Fr s ({ frames := 2, cells := 0, slots := 0, locals := 28 } : Room).cells ({ frames := 2, cells := 0, slots := 0, locals := 28 } : Room).slots) (T3.setTop (mkF m 15 #[.val (.ref a1), .val (.int (3 : Int32))] [(.int el3)]))
  refine own_ret X3 hx Bd.returns Bd.notSynchronized (Or.inl ⟨rfl, by simp, _, rfl⟩) (hb hby dg0_1_15) rfl (by decide) (by decide) ?_
  show Qg3_4 Z a1 ar kc el0 el1 el2 el3 h0 n0 _ T3.heap _
  rw [e3]
  exact ⟨rfl, trivial, N2a, rfl⟩
theorem ef_g0_5 (m : MethodId) (x0 : Addr) : entryFrame m #[(.ref x0), (.int (0 : Int32))] 2 = mkF m 0 #[.val (.ref x0), .val (.int (0 : Int32))] [] := by first | (simp [entryFrame, mkF, argsToLocals, Value.category, maxLocals]; done) | rfl
def Qg0_5 (Z : State) (a1 : Addr) (ar : Addr) (kc : ClassId) (el0 : Int32) (el1 : Int32) (el2 : Int32) (el3 : Int32) (el4 : Int32) (h0 : Heap) (n0 : Nat) (v : Option Value) (h : Heap) (L : List Loc) : Prop := v = some (.int el0) ∧ (True) ∧ Fr n0 L ∧ h = h0
set_option maxRecDepth 65536 in
set_option maxHeartbeats 40000000 in
theorem rmg0_5 (l : Launch) (Z : State) (a0 : Array Value) (hw : ∀ d ∈ tables_1, d.before a0 Z = true) (ws : List Jvm.Cond) (a1 : Addr) (ar : Addr) (kc : ClassId) (el0 : Int32) (el1 : Int32) (el2 : Int32) (el3 : Int32) (el4 : Int32) (h0 : Heap) (n0 : Nat) (Z0 : n0 ≤ h0.size) (F_values_a1 : Fld Z h0 a1 "com/example/libpundit/libpundit/core/IntList" "values" "[I" (.ref ar)) (F_size_a1 : Fld Z h0 a1 "com/example/libpundit/libpundit/core/IntList" "size" "I" (.int (5 : Int32))) (A_ar : Arv Z h0 ar kc .int (8 : Int32) [(.int el0), (.int el1), (.int el2), (.int el3), (.int el4), (.int (0 : Int32)), (.int (0 : Int32)), (.int (0 : Int32))] (.int (0 : Int32))) :
    MetFree l (⟨"com/example/libpundit/libpundit/core/IntList", "get", "(I)I"⟩ : MethodName) (head1 (Jvm.Cond.code (⟨"com/example/libpundit/libpundit/core/IntList", "get", "(I)I"⟩ : MethodName) prog_21_method_4_code 2 (some .int) :: ws) ({ frames := 2, cells := 0, slots := 0, locals := 28 } : Room)) (fun a U => a = #[(.ref a1), (.int (0 : Int32))] ∧ Z.Warmed39 U.vm ∧ U.heap = h0) (fun _ _ _ _ _ => True) (fun _ U o U' => ∃ v L, o = .returned v ∧ Qg0_5 Z a1 ar kc el0 el1 el2 el3 el4 h0 n0 v U'.heap L ∧ FrameEnd U o U' L ({ frames := 2, cells := 0, slots := 0, locals := 28 } : Room).cells ({ frames := 2, cells := 0, slots := 0, locals := 28 } : Room).slots) := by
  refine MetFree.of_bodySF (plainFor_of_name pn_1) hisR ?_
  intro p e s m args below meth c s₁ Bd hml0 hP hK
  obtain ⟨rfl, hZ, hh⟩ := hP
  have hx := Bd.exec
  have hby := Bd.bytes
  have hml : c.maxLocals = 2 := hml0
  have hown : s.vm.findClass "com/example/libpundit/libpundit/core/IntList" = some m.cls := findClass_of_methodNamed Bd.named
  have hnm := (name_of_methodNamed Bd.named Bd.method).1
  have X0 : Stand p l e ({ frames := 2, cells := 0, slots := 0, locals := 28 } : Room) s m #[(.ref a1), (.int (0 : Int32))] below meth c s₁ [] 0 0 := Stand.of_body Bd
  have e0 : s₁.heap = h0 := by rw [← hh, Bd.state]; rfl
  have N0 := Fr.nil n0
  change own_Go p e below (Qg0_5 Z a1 ar kc el0 el1 el2 el3 el4 h0 n0) (own_Fr s ({ frames := 2, cells := 0, slots := 0, locals := 28 } : Room).cells ({ frames := 2, cells := 0, slots := 0, locals := 28 } : Room).slots) (s₁.setTop (entryFrame m #[(.ref a1), (.int (0 : Int32))] 2))
  rw [ef_g0_5 m a1]
  have rel0 := rng32 el0
  have rel1 := rng32 el1
  have rel2 := rng32 el2
  have rel3 := rng32 el3
  have rel4 := rng32 el4
  refine own_iloadN (pc' := 1) X0 hx rfl (hb hby dg0_1_0) rfl ?_
  refine own_aloadN (pc' := 2) X0 hx rfl rfl (hb hby dg0_1_1) rfl ?_
  obtain ⟨T1, X1, e1, st1⟩ := getF X0 hx hZ hown (host := "") (Or.inl (hw _ (List.mem_of_getElem? (i := 18) rfl))) Via.refl e0 F_size_a1 (g := (mkF m 2 #[.val (.ref a1), .val (.int (0 : Int32))] [(.ref a1), (.int (0 : Int32))])) rfl rfl (hb hby dg0_1_2)
  refine own_by st1 ?_
  show own_Go p e below (Qg0_5 Z a1 ar kc el0 el1 el2 el3 el4 h0 n0) (own_Fr s ({ frames := 2, cells := 0, slots := 0, locals := 28 } : Room).cells ({ frames := 2, cells := 0, slots := 0, locals := 28 } : Room).slots) (T1.setTop (mkF m 5 #[.val (.ref a1), .val (.int (0 : Int32))] [(.int (5 : Int32)), (.int (0 : Int32))]))
  obtain ⟨_, _, ⟨T2, L2, k2, n2⟩, -, X2, ⟨Lc2, hQ2, l2, y2, z2⟩, st2⟩ := Jvm.LawKit.callS X1 hx (y := (⟨"java/util/Objects", "checkIndex", "(II)I"⟩ : MethodName)) hown (mvT hZ (hw _ (List.mem_of_getElem? (i := 25) rfl))) (mvT hZ (hw _ (List.mem_of_getElem? (i := 26) rfl))) (mvT hZ (hw _ (List.mem_of_getElem? (i := 27) rfl))) (mvT hZ (hw _ (List.mem_of_getElem? (i := 28) rfl))) (by decide) (backOf (W := 0) (rmo0_5 l Z a0 hw []  h0 n0 Z0 ) hZ (hw _ (List.mem_of_getElem? (i := 28) rfl)) (hw _ (List.mem_of_getElem? (i := 27) rfl)) (by decide) (by decide)) (g := (mkF m 5 #[.val (.ref a1), .val (.int (0 : Int32))] [(.int (5 : Int32)), (.int (0 : Int32))])) rfl (by rw [hml]; rfl) (argsL := [(.int (0 : Int32)), (.int (5 : Int32))]) (rest := []) (lenOf pd_0 rfl) rfl (by show 2 * 0 + _ ≤ _; exact Nat.le_of_eq rfl) (hb hby dg0_1_5) (fun _ _ => ⟨rfl, e1, (by decide : 0 + 0 ≤ _), (by decide : 0 + 0 ≤ _)⟩)
  dsimp only [Pt.U, Pt.locs, Pt.cells, Pt.slots] at X2 l2 y2 z2 st2 hQ2
  subst l2 y2 z2
  obtain ⟨rfl, pp2, N2, e2⟩ := hQ2
  have N2a := Fr.app N0 N2
  refine own_by st2 ?_
  show own_Go p e below (Qg0_5 Z a1 ar kc el0 el1 el2 el3 el4 h0 n0) (own_Fr s ({ frames := 2, cells := 0, slots := 0, locals := 28 } : Room).cells ({ frames := 2, cells := 0, slots := 0, locals := 28 } : Room).slots) (T2.setTop (mkF m 8 #[.val (.ref a1), .val (.int (0 : Int32))] [(.int (0 : Int32))]))
  refine own_pop (pc' := 9) X2 hx rfl (hb hby dg0_1_8) rfl ?_
  refine own_aloadN (pc' := 10) X2 hx rfl rfl (hb hby dg0_1_9) rfl ?_
  obtain ⟨T3, X3, e3, st3⟩ := getF X2 hx hZ hown (host := "") (Or.inl (hw _ (List.mem_of_getElem? (i := 11) rfl))) Via.refl e2 F_values_a1 (g := (mkF m 10 #[.val (.ref a1), .val (.int (0 : Int32))] [(.ref a1)])) rfl rfl (hb hby dg0_1_10)
  refine own_by st3 ?_
  show own_Go p e below (Qg0_5 Z a1 ar kc el0 el1 el2 el3 el4 h0 n0) (own_Fr s ({ frames := 2, cells := 0, slots := 0, locals := 28 } : Room).cells ({ frames := 2, cells := 0, slots := 0, locals := 28 } : Room).slots) (T3.setTop (mkF m 13 #[.val (.ref a1), .val (.int (0 : Int32))] [(.ref ar)]))
  refine own_iloadN (pc' := 14) X3 hx rfl (hb hby dg0_1_13) rfl ?_
  obtain ⟨c4, B4, q4, s4, u4, H4, G4⟩ := id A_ar
  have i4 := inb_of s4 (j := (0 : Int32)) (by decide)
  refine own_by (X3.iaload hx (j := (0 : Int32)) (v := (.int el0)) (by rw [e3]; exact B4.1) (State.isArrayOf_alike hZ.alike B4.2.1) B4.2.2 i4 (H4.at i4 rfl) (g := (mkF m 14 #[.val (.ref a1), .val (.int (0 : Int32))] [(.int (0 : Int32)), (.ref ar)])) rfl rfl (hb hby dg0_1_14)) ?_
  show own_Go p e below (Qg0_5 Z a1 ar kc el0 el1 el2 el3 el4 h0 n0) (own_Fr s ({ frames := 2, cells := 0, slots := 0, locals := 28 } : Room).cells ({ frames := 2, cells := 0, slots := 0, locals := 28 } : Room).slots) (T3.setTop (mkF m 15 #[.val (.ref a1), .val (.int (0 : Int32))] [(.int el0)]))
  refine own_ret X3 hx Bd.returns Bd.notSynchronized (Or.inl ⟨rfl, by simp, _, rfl⟩) (hb hby dg0_1_15) rfl (by decide) (by decide) ?_
  show Qg0_5 Z a1 ar kc el0 el1 el2 el3 el4 h0 n0 _ T3.heap _
  rw [e3]
  exact ⟨rfl, trivial, N2a, rfl⟩
theorem ef_g1_5 (m : MethodId) (x0 : Addr) : entryFrame m #[(.ref x0), (.int (1 : Int32))] 2 = mkF m 0 #[.val (.ref x0), .val (.int (1 : Int32))] [] := by first | (simp [entryFrame, mkF, argsToLocals, Value.category, maxLocals]; done) | rfl
def Qg1_5 (Z : State) (a1 : Addr) (ar : Addr) (kc : ClassId) (el0 : Int32) (el1 : Int32) (el2 : Int32) (el3 : Int32) (el4 : Int32) (h0 : Heap) (n0 : Nat) (v : Option Value) (h : Heap) (L : List Loc) : Prop := v = some (.int el1) ∧ (True) ∧ Fr n0 L ∧ h = h0
set_option maxRecDepth 65536 in
set_option maxHeartbeats 40000000 in
theorem rmg1_5 (l : Launch) (Z : State) (a0 : Array Value) (hw : ∀ d ∈ tables_1, d.before a0 Z = true) (ws : List Jvm.Cond) (a1 : Addr) (ar : Addr) (kc : ClassId) (el0 : Int32) (el1 : Int32) (el2 : Int32) (el3 : Int32) (el4 : Int32) (h0 : Heap) (n0 : Nat) (Z0 : n0 ≤ h0.size) (F_values_a1 : Fld Z h0 a1 "com/example/libpundit/libpundit/core/IntList" "values" "[I" (.ref ar)) (F_size_a1 : Fld Z h0 a1 "com/example/libpundit/libpundit/core/IntList" "size" "I" (.int (5 : Int32))) (A_ar : Arv Z h0 ar kc .int (8 : Int32) [(.int el0), (.int el1), (.int el2), (.int el3), (.int el4), (.int (0 : Int32)), (.int (0 : Int32)), (.int (0 : Int32))] (.int (0 : Int32))) :
    MetFree l (⟨"com/example/libpundit/libpundit/core/IntList", "get", "(I)I"⟩ : MethodName) (head1 (Jvm.Cond.code (⟨"com/example/libpundit/libpundit/core/IntList", "get", "(I)I"⟩ : MethodName) prog_21_method_4_code 2 (some .int) :: ws) ({ frames := 2, cells := 0, slots := 0, locals := 28 } : Room)) (fun a U => a = #[(.ref a1), (.int (1 : Int32))] ∧ Z.Warmed39 U.vm ∧ U.heap = h0) (fun _ _ _ _ _ => True) (fun _ U o U' => ∃ v L, o = .returned v ∧ Qg1_5 Z a1 ar kc el0 el1 el2 el3 el4 h0 n0 v U'.heap L ∧ FrameEnd U o U' L ({ frames := 2, cells := 0, slots := 0, locals := 28 } : Room).cells ({ frames := 2, cells := 0, slots := 0, locals := 28 } : Room).slots) := by
  refine MetFree.of_bodySF (plainFor_of_name pn_1) hisR ?_
  intro p e s m args below meth c s₁ Bd hml0 hP hK
  obtain ⟨rfl, hZ, hh⟩ := hP
  have hx := Bd.exec
  have hby := Bd.bytes
  have hml : c.maxLocals = 2 := hml0
  have hown : s.vm.findClass "com/example/libpundit/libpundit/core/IntList" = some m.cls := findClass_of_methodNamed Bd.named
  have hnm := (name_of_methodNamed Bd.named Bd.method).1
  have X0 : Stand p l e ({ frames := 2, cells := 0, slots := 0, locals := 28 } : Room) s m #[(.ref a1), (.int (1 : Int32))] below meth c s₁ [] 0 0 := Stand.of_body Bd
  have e0 : s₁.heap = h0 := by rw [← hh, Bd.state]; rfl
  have N0 := Fr.nil n0
  change own_Go p e below (Qg1_5 Z a1 ar kc el0 el1 el2 el3 el4 h0 n0) (own_Fr s ({ frames := 2, cells := 0, slots := 0, locals := 28 } : Room).cells ({ frames := 2, cells := 0, slots := 0, locals := 28 } : Room).slots) (s₁.setTop (entryFrame m #[(.ref a1), (.int (1 : Int32))] 2))
  rw [ef_g1_5 m a1]
  have rel0 := rng32 el0
  have rel1 := rng32 el1
  have rel2 := rng32 el2
  have rel3 := rng32 el3
  have rel4 := rng32 el4
  refine own_iloadN (pc' := 1) X0 hx rfl (hb hby dg0_1_0) rfl ?_
  refine own_aloadN (pc' := 2) X0 hx rfl rfl (hb hby dg0_1_1) rfl ?_
  obtain ⟨T1, X1, e1, st1⟩ := getF X0 hx hZ hown (host := "") (Or.inl (hw _ (List.mem_of_getElem? (i := 18) rfl))) Via.refl e0 F_size_a1 (g := (mkF m 2 #[.val (.ref a1), .val (.int (1 : Int32))] [(.ref a1), (.int (1 : Int32))])) rfl rfl (hb hby dg0_1_2)
  refine own_by st1 ?_
  show own_Go p e below (Qg1_5 Z a1 ar kc el0 el1 el2 el3 el4 h0 n0) (own_Fr s ({ frames := 2, cells := 0, slots := 0, locals := 28 } : Room).cells ({ frames := 2, cells := 0, slots := 0, locals := 28 } : Room).slots) (T1.setTop (mkF m 5 #[.val (.ref a1), .val (.int (1 : Int32))] [(.int (5 : Int32)), (.int (1 : Int32))]))
  obtain ⟨_, _, ⟨T2, L2, k2, n2⟩, -, X2, ⟨Lc2, hQ2, l2, y2, z2⟩, st2⟩ := Jvm.LawKit.callS X1 hx (y := (⟨"java/util/Objects", "checkIndex", "(II)I"⟩ : MethodName)) hown (mvT hZ (hw _ (List.mem_of_getElem? (i := 25) rfl))) (mvT hZ (hw _ (List.mem_of_getElem? (i := 26) rfl))) (mvT hZ (hw _ (List.mem_of_getElem? (i := 27) rfl))) (mvT hZ (hw _ (List.mem_of_getElem? (i := 28) rfl))) (by decide) (backOf (W := 0) (rmo1_5 l Z a0 hw []  h0 n0 Z0 ) hZ (hw _ (List.mem_of_getElem? (i := 28) rfl)) (hw _ (List.mem_of_getElem? (i := 27) rfl)) (by decide) (by decide)) (g := (mkF m 5 #[.val (.ref a1), .val (.int (1 : Int32))] [(.int (5 : Int32)), (.int (1 : Int32))])) rfl (by rw [hml]; rfl) (argsL := [(.int (1 : Int32)), (.int (5 : Int32))]) (rest := []) (lenOf pd_0 rfl) rfl (by show 2 * 0 + _ ≤ _; exact Nat.le_of_eq rfl) (hb hby dg0_1_5) (fun _ _ => ⟨rfl, e1, (by decide : 0 + 0 ≤ _), (by decide : 0 + 0 ≤ _)⟩)
  dsimp only [Pt.U, Pt.locs, Pt.cells, Pt.slots] at X2 l2 y2 z2 st2 hQ2
  subst l2 y2 z2
  obtain ⟨rfl, pp2, N2, e2⟩ := hQ2
  have N2a := Fr.app N0 N2
  refine own_by st2 ?_
  show own_Go p e below (Qg1_5 Z a1 ar kc el0 el1 el2 el3 el4 h0 n0) (own_Fr s ({ frames := 2, cells := 0, slots := 0, locals := 28 } : Room).cells ({ frames := 2, cells := 0, slots := 0, locals := 28 } : Room).slots) (T2.setTop (mkF m 8 #[.val (.ref a1), .val (.int (1 : Int32))] [(.int (1 : Int32))]))
  refine own_pop (pc' := 9) X2 hx rfl (hb hby dg0_1_8) rfl ?_
  refine own_aloadN (pc' := 10) X2 hx rfl rfl (hb hby dg0_1_9) rfl ?_
  obtain ⟨T3, X3, e3, st3⟩ := getF X2 hx hZ hown (host := "") (Or.inl (hw _ (List.mem_of_getElem? (i := 11) rfl))) Via.refl e2 F_values_a1 (g := (mkF m 10 #[.val (.ref a1), .val (.int (1 : Int32))] [(.ref a1)])) rfl rfl (hb hby dg0_1_10)
  refine own_by st3 ?_
  show own_Go p e below (Qg1_5 Z a1 ar kc el0 el1 el2 el3 el4 h0 n0) (own_Fr s ({ frames := 2, cells := 0, slots := 0, locals := 28 } : Room).cells ({ frames := 2, cells := 0, slots := 0, locals := 28 } : Room).slots) (T3.setTop (mkF m 13 #[.val (.ref a1), .val (.int (1 : Int32))] [(.ref ar)]))
  refine own_iloadN (pc' := 14) X3 hx rfl (hb hby dg0_1_13) rfl ?_
  obtain ⟨c4, B4, q4, s4, u4, H4, G4⟩ := id A_ar
  have i4 := inb_of s4 (j := (1 : Int32)) (by decide)
  refine own_by (X3.iaload hx (j := (1 : Int32)) (v := (.int el1)) (by rw [e3]; exact B4.1) (State.isArrayOf_alike hZ.alike B4.2.1) B4.2.2 i4 (H4.at i4 rfl) (g := (mkF m 14 #[.val (.ref a1), .val (.int (1 : Int32))] [(.int (1 : Int32)), (.ref ar)])) rfl rfl (hb hby dg0_1_14)) ?_
  show own_Go p e below (Qg1_5 Z a1 ar kc el0 el1 el2 el3 el4 h0 n0) (own_Fr s ({ frames := 2, cells := 0, slots := 0, locals := 28 } : Room).cells ({ frames := 2, cells := 0, slots := 0, locals := 28 } : Room).slots) (T3.setTop (mkF m 15 #[.val (.ref a1), .val (.int (1 : Int32))] [(.int el1)]))
  refine own_ret X3 hx Bd.returns Bd.notSynchronized (Or.inl ⟨rfl, by simp, _, rfl⟩) (hb hby dg0_1_15) rfl (by decide) (by decide) ?_
  show Qg1_5 Z a1 ar kc el0 el1 el2 el3 el4 h0 n0 _ T3.heap _
  rw [e3]
  exact ⟨rfl, trivial, N2a, rfl⟩
theorem ef_g2_5 (m : MethodId) (x0 : Addr) : entryFrame m #[(.ref x0), (.int (2 : Int32))] 2 = mkF m 0 #[.val (.ref x0), .val (.int (2 : Int32))] [] := by first | (simp [entryFrame, mkF, argsToLocals, Value.category, maxLocals]; done) | rfl
def Qg2_5 (Z : State) (a1 : Addr) (ar : Addr) (kc : ClassId) (el0 : Int32) (el1 : Int32) (el2 : Int32) (el3 : Int32) (el4 : Int32) (h0 : Heap) (n0 : Nat) (v : Option Value) (h : Heap) (L : List Loc) : Prop := v = some (.int el2) ∧ (True) ∧ Fr n0 L ∧ h = h0
set_option maxRecDepth 65536 in
set_option maxHeartbeats 40000000 in
theorem rmg2_5 (l : Launch) (Z : State) (a0 : Array Value) (hw : ∀ d ∈ tables_1, d.before a0 Z = true) (ws : List Jvm.Cond) (a1 : Addr) (ar : Addr) (kc : ClassId) (el0 : Int32) (el1 : Int32) (el2 : Int32) (el3 : Int32) (el4 : Int32) (h0 : Heap) (n0 : Nat) (Z0 : n0 ≤ h0.size) (F_values_a1 : Fld Z h0 a1 "com/example/libpundit/libpundit/core/IntList" "values" "[I" (.ref ar)) (F_size_a1 : Fld Z h0 a1 "com/example/libpundit/libpundit/core/IntList" "size" "I" (.int (5 : Int32))) (A_ar : Arv Z h0 ar kc .int (8 : Int32) [(.int el0), (.int el1), (.int el2), (.int el3), (.int el4), (.int (0 : Int32)), (.int (0 : Int32)), (.int (0 : Int32))] (.int (0 : Int32))) :
    MetFree l (⟨"com/example/libpundit/libpundit/core/IntList", "get", "(I)I"⟩ : MethodName) (head1 (Jvm.Cond.code (⟨"com/example/libpundit/libpundit/core/IntList", "get", "(I)I"⟩ : MethodName) prog_21_method_4_code 2 (some .int) :: ws) ({ frames := 2, cells := 0, slots := 0, locals := 28 } : Room)) (fun a U => a = #[(.ref a1), (.int (2 : Int32))] ∧ Z.Warmed39 U.vm ∧ U.heap = h0) (fun _ _ _ _ _ => True) (fun _ U o U' => ∃ v L, o = .returned v ∧ Qg2_5 Z a1 ar kc el0 el1 el2 el3 el4 h0 n0 v U'.heap L ∧ FrameEnd U o U' L ({ frames := 2, cells := 0, slots := 0, locals := 28 } : Room).cells ({ frames := 2, cells := 0, slots := 0, locals := 28 } : Room).slots) := by
  refine MetFree.of_bodySF (plainFor_of_name pn_1) hisR ?_
  intro p e s m args below meth c s₁ Bd hml0 hP hK
  obtain ⟨rfl, hZ, hh⟩ := hP
  have hx := Bd.exec
  have hby := Bd.bytes
  have hml : c.maxLocals = 2 := hml0
  have hown : s.vm.findClass "com/example/libpundit/libpundit/core/IntList" = some m.cls := findClass_of_methodNamed Bd.named
  have hnm := (name_of_methodNamed Bd.named Bd.method).1
  have X0 : Stand p l e ({ frames := 2, cells := 0, slots := 0, locals := 28 } : Room) s m #[(.ref a1), (.int (2 : Int32))] below meth c s₁ [] 0 0 := Stand.of_body Bd
  have e0 : s₁.heap = h0 := by rw [← hh, Bd.state]; rfl
  have N0 := Fr.nil n0
  change own_Go p e below (Qg2_5 Z a1 ar kc el0 el1 el2 el3 el4 h0 n0) (own_Fr s ({ frames := 2, cells := 0, slots := 0, locals := 28 } : Room).cells ({ frames := 2, cells := 0, slots := 0, locals := 28 } : Room).slots) (s₁.setTop (entryFrame m #[(.ref a1), (.int (2 : Int32))] 2))
  rw [ef_g2_5 m a1]
  have rel0 := rng32 el0
  have rel1 := rng32 el1
  have rel2 := rng32 el2
  have rel3 := rng32 el3
  have rel4 := rng32 el4
  refine own_iloadN (pc' := 1) X0 hx rfl (hb hby dg0_1_0) rfl ?_
  refine own_aloadN (pc' := 2) X0 hx rfl rfl (hb hby dg0_1_1) rfl ?_
  obtain ⟨T1, X1, e1, st1⟩ := getF X0 hx hZ hown (host := "") (Or.inl (hw _ (List.mem_of_getElem? (i := 18) rfl))) Via.refl e0 F_size_a1 (g := (mkF m 2 #[.val (.ref a1), .val (.int (2 : Int32))] [(.ref a1), (.int (2 : Int32))])) rfl rfl (hb hby dg0_1_2)
  refine own_by st1 ?_
  show own_Go p e below (Qg2_5 Z a1 ar kc el0 el1 el2 el3 el4 h0 n0) (own_Fr s ({ frames := 2, cells := 0, slots := 0, locals := 28 } : Room).cells ({ frames := 2, cells := 0, slots := 0, locals := 28 } : Room).slots) (T1.setTop (mkF m 5 #[.val (.ref a1), .val (.int (2 : Int32))] [(.int (5 : Int32)), (.int (2 : Int32))]))
  obtain ⟨_, _, ⟨T2, L2, k2, n2⟩, -, X2, ⟨Lc2, hQ2, l2, y2, z2⟩, st2⟩ := Jvm.LawKit.callS X1 hx (y := (⟨"java/util/Objects", "checkIndex", "(II)I"⟩ : MethodName)) hown (mvT hZ (hw _ (List.mem_of_getElem? (i := 25) rfl))) (mvT hZ (hw _ (List.mem_of_getElem? (i := 26) rfl))) (mvT hZ (hw _ (List.mem_of_getElem? (i := 27) rfl))) (mvT hZ (hw _ (List.mem_of_getElem? (i := 28) rfl))) (by decide) (backOf (W := 0) (rmo2_5 l Z a0 hw []  h0 n0 Z0 ) hZ (hw _ (List.mem_of_getElem? (i := 28) rfl)) (hw _ (List.mem_of_getElem? (i := 27) rfl)) (by decide) (by decide)) (g := (mkF m 5 #[.val (.ref a1), .val (.int (2 : Int32))] [(.int (5 : Int32)), (.int (2 : Int32))])) rfl (by rw [hml]; rfl) (argsL := [(.int (2 : Int32)), (.int (5 : Int32))]) (rest := []) (lenOf pd_0 rfl) rfl (by show 2 * 0 + _ ≤ _; exact Nat.le_of_eq rfl) (hb hby dg0_1_5) (fun _ _ => ⟨rfl, e1, (by decide : 0 + 0 ≤ _), (by decide : 0 + 0 ≤ _)⟩)
  dsimp only [Pt.U, Pt.locs, Pt.cells, Pt.slots] at X2 l2 y2 z2 st2 hQ2
  subst l2 y2 z2
  obtain ⟨rfl, pp2, N2, e2⟩ := hQ2
  have N2a := Fr.app N0 N2
  refine own_by st2 ?_
  show own_Go p e below (Qg2_5 Z a1 ar kc el0 el1 el2 el3 el4 h0 n0) (own_Fr s ({ frames := 2, cells := 0, slots := 0, locals := 28 } : Room).cells ({ frames := 2, cells := 0, slots := 0, locals := 28 } : Room).slots) (T2.setTop (mkF m 8 #[.val (.ref a1), .val (.int (2 : Int32))] [(.int (2 : Int32))]))
  refine own_pop (pc' := 9) X2 hx rfl (hb hby dg0_1_8) rfl ?_
  refine own_aloadN (pc' := 10) X2 hx rfl rfl (hb hby dg0_1_9) rfl ?_
  obtain ⟨T3, X3, e3, st3⟩ := getF X2 hx hZ hown (host := "") (Or.inl (hw _ (List.mem_of_getElem? (i := 11) rfl))) Via.refl e2 F_values_a1 (g := (mkF m 10 #[.val (.ref a1), .val (.int (2 : Int32))] [(.ref a1)])) rfl rfl (hb hby dg0_1_10)
  refine own_by st3 ?_
  show own_Go p e below (Qg2_5 Z a1 ar kc el0 el1 el2 el3 el4 h0 n0) (own_Fr s ({ frames := 2, cells := 0, slots := 0, locals := 28 } : Room).cells ({ frames := 2, cells := 0, slots := 0, locals := 28 } : Room).slots) (T3.setTop (mkF m 13 #[.val (.ref a1), .val (.int (2 : Int32))] [(.ref ar)]))
  refine own_iloadN (pc' := 14) X3 hx rfl (hb hby dg0_1_13) rfl ?_
  obtain ⟨c4, B4, q4, s4, u4, H4, G4⟩ := id A_ar
  have i4 := inb_of s4 (j := (2 : Int32)) (by decide)
  refine own_by (X3.iaload hx (j := (2 : Int32)) (v := (.int el2)) (by rw [e3]; exact B4.1) (State.isArrayOf_alike hZ.alike B4.2.1) B4.2.2 i4 (H4.at i4 rfl) (g := (mkF m 14 #[.val (.ref a1), .val (.int (2 : Int32))] [(.int (2 : Int32)), (.ref ar)])) rfl rfl (hb hby dg0_1_14)) ?_
  show own_Go p e below (Qg2_5 Z a1 ar kc el0 el1 el2 el3 el4 h0 n0) (own_Fr s ({ frames := 2, cells := 0, slots := 0, locals := 28 } : Room).cells ({ frames := 2, cells := 0, slots := 0, locals := 28 } : Room).slots) (T3.setTop (mkF m 15 #[.val (.ref a1), .val (.int (2 : Int32))] [(.int el2)]))
  refine own_ret X3 hx Bd.returns Bd.notSynchronized (Or.inl ⟨rfl, by simp, _, rfl⟩) (hb hby dg0_1_15) rfl (by decide) (by decide) ?_
  show Qg2_5 Z a1 ar kc el0 el1 el2 el3 el4 h0 n0 _ T3.heap _
  rw [e3]
  exact ⟨rfl, trivial, N2a, rfl⟩
theorem ef_g3_5 (m : MethodId) (x0 : Addr) : entryFrame m #[(.ref x0), (.int (3 : Int32))] 2 = mkF m 0 #[.val (.ref x0), .val (.int (3 : Int32))] [] := by first | (simp [entryFrame, mkF, argsToLocals, Value.category, maxLocals]; done) | rfl
def Qg3_5 (Z : State) (a1 : Addr) (ar : Addr) (kc : ClassId) (el0 : Int32) (el1 : Int32) (el2 : Int32) (el3 : Int32) (el4 : Int32) (h0 : Heap) (n0 : Nat) (v : Option Value) (h : Heap) (L : List Loc) : Prop := v = some (.int el3) ∧ (True) ∧ Fr n0 L ∧ h = h0
set_option maxRecDepth 65536 in
set_option maxHeartbeats 40000000 in
theorem rmg3_5 (l : Launch) (Z : State) (a0 : Array Value) (hw : ∀ d ∈ tables_1, d.before a0 Z = true) (ws : List Jvm.Cond) (a1 : Addr) (ar : Addr) (kc : ClassId) (el0 : Int32) (el1 : Int32) (el2 : Int32) (el3 : Int32) (el4 : Int32) (h0 : Heap) (n0 : Nat) (Z0 : n0 ≤ h0.size) (F_values_a1 : Fld Z h0 a1 "com/example/libpundit/libpundit/core/IntList" "values" "[I" (.ref ar)) (F_size_a1 : Fld Z h0 a1 "com/example/libpundit/libpundit/core/IntList" "size" "I" (.int (5 : Int32))) (A_ar : Arv Z h0 ar kc .int (8 : Int32) [(.int el0), (.int el1), (.int el2), (.int el3), (.int el4), (.int (0 : Int32)), (.int (0 : Int32)), (.int (0 : Int32))] (.int (0 : Int32))) :
    MetFree l (⟨"com/example/libpundit/libpundit/core/IntList", "get", "(I)I"⟩ : MethodName) (head1 (Jvm.Cond.code (⟨"com/example/libpundit/libpundit/core/IntList", "get", "(I)I"⟩ : MethodName) prog_21_method_4_code 2 (some .int) :: ws) ({ frames := 2, cells := 0, slots := 0, locals := 28 } : Room)) (fun a U => a = #[(.ref a1), (.int (3 : Int32))] ∧ Z.Warmed39 U.vm ∧ U.heap = h0) (fun _ _ _ _ _ => True) (fun _ U o U' => ∃ v L, o = .returned v ∧ Qg3_5 Z a1 ar kc el0 el1 el2 el3 el4 h0 n0 v U'.heap L ∧ FrameEnd U o U' L ({ frames := 2, cells := 0, slots := 0, locals := 28 } : Room).cells ({ frames := 2, cells := 0, slots := 0, locals := 28 } : Room).slots) := by
  refine MetFree.of_bodySF (plainFor_of_name pn_1) hisR ?_
  intro p e s m args below meth c s₁ Bd hml0 hP hK
  obtain ⟨rfl, hZ, hh⟩ := hP
  have hx := Bd.exec
  have hby := Bd.bytes
  have hml : c.maxLocals = 2 := hml0
  have hown : s.vm.findClass "com/example/libpundit/libpundit/core/IntList" = some m.cls := findClass_of_methodNamed Bd.named
  have hnm := (name_of_methodNamed Bd.named Bd.method).1
  have X0 : Stand p l e ({ frames := 2, cells := 0, slots := 0, locals := 28 } : Room) s m #[(.ref a1), (.int (3 : Int32))] below meth c s₁ [] 0 0 := Stand.of_body Bd
  have e0 : s₁.heap = h0 := by rw [← hh, Bd.state]; rfl
  have N0 := Fr.nil n0
  change own_Go p e below (Qg3_5 Z a1 ar kc el0 el1 el2 el3 el4 h0 n0) (own_Fr s ({ frames := 2, cells := 0, slots := 0, locals := 28 } : Room).cells ({ frames := 2, cells := 0, slots := 0, locals := 28 } : Room).slots) (s₁.setTop (entryFrame m #[(.ref a1), (.int (3 : Int32))] 2))
  rw [ef_g3_5 m a1]
  have rel0 := rng32 el0
  have rel1 := rng32 el1
  have rel2 := rng32 el2
  have rel3 := rng32 el3
  have rel4 := rng32 el4
  refine own_iloadN (pc' := 1) X0 hx rfl (hb hby dg0_1_0) rfl ?_
  refine own_aloadN (pc' := 2) X0 hx rfl rfl (hb hby dg0_1_1) rfl ?_
  obtain ⟨T1, X1, e1, st1⟩ := getF X0 hx hZ hown (host := "") (Or.inl (hw _ (List.mem_of_getElem? (i := 18) rfl))) Via.refl e0 F_size_a1 (g := (mkF m 2 #[.val (.ref a1), .val (.int (3 : Int32))] [(.ref a1), (.int (3 : Int32))])) rfl rfl (hb hby dg0_1_2)
  refine own_by st1 ?_
  show own_Go p e below (Qg3_5 Z a1 ar kc el0 el1 el2 el3 el4 h0 n0) (own_Fr s ({ frames := 2, cells := 0, slots := 0, locals := 28 } : Room).cells ({ frames := 2, cells := 0, slots := 0, locals := 28 } : Room).slots) (T1.setTop (mkF m 5 #[.val (.ref a1), .val (.int (3 : Int32))] [(.int (5 : Int32)), (.int (3 : Int32))]))
  obtain ⟨_, _, ⟨T2, L2, k2, n2⟩, -, X2, ⟨Lc2, hQ2, l2, y2, z2⟩, st2⟩ := Jvm.LawKit.callS X1 hx (y := (⟨"java/util/Objects", "checkIndex", "(II)I"⟩ : MethodName)) hown (mvT hZ (hw _ (List.mem_of_getElem? (i := 25) rfl))) (mvT hZ (hw _ (List.mem_of_getElem? (i := 26) rfl))) (mvT hZ (hw _ (List.mem_of_getElem? (i := 27) rfl))) (mvT hZ (hw _ (List.mem_of_getElem? (i := 28) rfl))) (by decide) (backOf (W := 0) (rmo3_5 l Z a0 hw []  h0 n0 Z0 ) hZ (hw _ (List.mem_of_getElem? (i := 28) rfl)) (hw _ (List.mem_of_getElem? (i := 27) rfl)) (by decide) (by decide)) (g := (mkF m 5 #[.val (.ref a1), .val (.int (3 : Int32))] [(.int (5 : Int32)), (.int (3 : Int32))])) rfl (by rw [hml]; rfl) (argsL := [(.int (3 : Int32)), (.int (5 : Int32))]) (rest := []) (lenOf pd_0 rfl) rfl (by show 2 * 0 + _ ≤ _; exact Nat.le_of_eq rfl) (hb hby dg0_1_5) (fun _ _ => ⟨rfl, e1, (by decide : 0 + 0 ≤ _), (by decide : 0 + 0 ≤ _)⟩)
  dsimp only [Pt.U, Pt.locs, Pt.cells, Pt.slots] at X2 l2 y2 z2 st2 hQ2
  subst l2 y2 z2
  obtain ⟨rfl, pp2, N2, e2⟩ := hQ2
  have N2a := Fr.app N0 N2
  refine own_by st2 ?_
  show own_Go p e below (Qg3_5 Z a1 ar kc el0 el1 el2 el3 el4 h0 n0) (own_Fr s ({ frames := 2, cells := 0, slots := 0, locals := 28 } : Room).cells ({ frames := 2, cells := 0, slots := 0, locals := 28 } : Room).slots) (T2.setTop (mkF m 8 #[.val (.ref a1), .val (.int (3 : Int32))] [(.int (3 : Int32))]))
  refine own_pop (pc' := 9) X2 hx rfl (hb hby dg0_1_8) rfl ?_
  refine own_aloadN (pc' := 10) X2 hx rfl rfl (hb hby dg0_1_9) rfl ?_
  obtain ⟨T3, X3, e3, st3⟩ := getF X2 hx hZ hown (host := "") (Or.inl (hw _ (List.mem_of_getElem? (i := 11) rfl))) Via.refl e2 F_values_a1 (g := (mkF m 10 #[.val (.ref a1), .val (.int (3 : Int32))] [(.ref a1)])) rfl rfl (hb hby dg0_1_10)
  refine own_by st3 ?_
  show own_Go p e below (Qg3_5 Z a1 ar kc el0 el1 el2 el3 el4 h0 n0) (own_Fr s ({ frames := 2, cells := 0, slots := 0, locals := 28 } : Room).cells ({ frames := 2, cells := 0, slots := 0, locals := 28 } : Room).slots) (T3.setTop (mkF m 13 #[.val (.ref a1), .val (.int (3 : Int32))] [(.ref ar)]))
  refine own_iloadN (pc' := 14) X3 hx rfl (hb hby dg0_1_13) rfl ?_
  obtain ⟨c4, B4, q4, s4, u4, H4, G4⟩ := id A_ar
  have i4 := inb_of s4 (j := (3 : Int32)) (by decide)
  refine own_by (X3.iaload hx (j := (3 : Int32)) (v := (.int el3)) (by rw [e3]; exact B4.1) (State.isArrayOf_alike hZ.alike B4.2.1) B4.2.2 i4 (H4.at i4 rfl) (g := (mkF m 14 #[.val (.ref a1), .val (.int (3 : Int32))] [(.int (3 : Int32)), (.ref ar)])) rfl rfl (hb hby dg0_1_14)) ?_
  show own_Go p e below (Qg3_5 Z a1 ar kc el0 el1 el2 el3 el4 h0 n0) (own_Fr s ({ frames := 2, cells := 0, slots := 0, locals := 28 } : Room).cells ({ frames := 2, cells := 0, slots := 0, locals := 28 } : Room).slots) (T3.setTop (mkF m 15 #[.val (.ref a1), .val (.int (3 : Int32))] [(.int el3)]))
  refine own_ret X3 hx Bd.returns Bd.notSynchronized (Or.inl ⟨rfl, by simp, _, rfl⟩) (hb hby dg0_1_15) rfl (by decide) (by decide) ?_
  show Qg3_5 Z a1 ar kc el0 el1 el2 el3 el4 h0 n0 _ T3.heap _
  rw [e3]
  exact ⟨rfl, trivial, N2a, rfl⟩
theorem ef_g4_5 (m : MethodId) (x0 : Addr) : entryFrame m #[(.ref x0), (.int (4 : Int32))] 2 = mkF m 0 #[.val (.ref x0), .val (.int (4 : Int32))] [] := by first | (simp [entryFrame, mkF, argsToLocals, Value.category, maxLocals]; done) | rfl
def Qg4_5 (Z : State) (a1 : Addr) (ar : Addr) (kc : ClassId) (el0 : Int32) (el1 : Int32) (el2 : Int32) (el3 : Int32) (el4 : Int32) (h0 : Heap) (n0 : Nat) (v : Option Value) (h : Heap) (L : List Loc) : Prop := v = some (.int el4) ∧ (True) ∧ Fr n0 L ∧ h = h0
set_option maxRecDepth 65536 in
set_option maxHeartbeats 40000000 in
theorem rmg4_5 (l : Launch) (Z : State) (a0 : Array Value) (hw : ∀ d ∈ tables_1, d.before a0 Z = true) (ws : List Jvm.Cond) (a1 : Addr) (ar : Addr) (kc : ClassId) (el0 : Int32) (el1 : Int32) (el2 : Int32) (el3 : Int32) (el4 : Int32) (h0 : Heap) (n0 : Nat) (Z0 : n0 ≤ h0.size) (F_values_a1 : Fld Z h0 a1 "com/example/libpundit/libpundit/core/IntList" "values" "[I" (.ref ar)) (F_size_a1 : Fld Z h0 a1 "com/example/libpundit/libpundit/core/IntList" "size" "I" (.int (5 : Int32))) (A_ar : Arv Z h0 ar kc .int (8 : Int32) [(.int el0), (.int el1), (.int el2), (.int el3), (.int el4), (.int (0 : Int32)), (.int (0 : Int32)), (.int (0 : Int32))] (.int (0 : Int32))) :
    MetFree l (⟨"com/example/libpundit/libpundit/core/IntList", "get", "(I)I"⟩ : MethodName) (head1 (Jvm.Cond.code (⟨"com/example/libpundit/libpundit/core/IntList", "get", "(I)I"⟩ : MethodName) prog_21_method_4_code 2 (some .int) :: ws) ({ frames := 2, cells := 0, slots := 0, locals := 28 } : Room)) (fun a U => a = #[(.ref a1), (.int (4 : Int32))] ∧ Z.Warmed39 U.vm ∧ U.heap = h0) (fun _ _ _ _ _ => True) (fun _ U o U' => ∃ v L, o = .returned v ∧ Qg4_5 Z a1 ar kc el0 el1 el2 el3 el4 h0 n0 v U'.heap L ∧ FrameEnd U o U' L ({ frames := 2, cells := 0, slots := 0, locals := 28 } : Room).cells ({ frames := 2, cells := 0, slots := 0, locals := 28 } : Room).slots) := by
  refine MetFree.of_bodySF (plainFor_of_name pn_1) hisR ?_
  intro p e s m args below meth c s₁ Bd hml0 hP hK
  obtain ⟨rfl, hZ, hh⟩ := hP
  have hx := Bd.exec
  have hby := Bd.bytes
  have hml : c.maxLocals = 2 := hml0
  have hown : s.vm.findClass "com/example/libpundit/libpundit/core/IntList" = some m.cls := findClass_of_methodNamed Bd.named
  have hnm := (name_of_methodNamed Bd.named Bd.method).1
  have X0 : Stand p l e ({ frames := 2, cells := 0, slots := 0, locals := 28 } : Room) s m #[(.ref a1), (.int (4 : Int32))] below meth c s₁ [] 0 0 := Stand.of_body Bd
  have e0 : s₁.heap = h0 := by rw [← hh, Bd.state]; rfl
  have N0 := Fr.nil n0
  change own_Go p e below (Qg4_5 Z a1 ar kc el0 el1 el2 el3 el4 h0 n0) (own_Fr s ({ frames := 2, cells := 0, slots := 0, locals := 28 } : Room).cells ({ frames := 2, cells := 0, slots := 0, locals := 28 } : Room).slots) (s₁.setTop (entryFrame m #[(.ref a1), (.int (4 : Int32))] 2))
  rw [ef_g4_5 m a1]
  have rel0 := rng32 el0
  have rel1 := rng32 el1
  have rel2 := rng32 el2
  have rel3 := rng32 el3
  have rel4 := rng32 el4
  refine own_iloadN (pc' := 1) X0 hx rfl (hb hby dg0_1_0) rfl ?_
  refine own_aloadN (pc' := 2) X0 hx rfl rfl (hb hby dg0_1_1) rfl ?_
  obtain ⟨T1, X1, e1, st1⟩ := getF X0 hx hZ hown (host := "") (Or.inl (hw _ (List.mem_of_getElem? (i := 18) rfl))) Via.refl e0 F_size_a1 (g := (mkF m 2 #[.val (.ref a1), .val (.int (4 : Int32))] [(.ref a1), (.int (4 : Int32))])) rfl rfl (hb hby dg0_1_2)
  refine own_by st1 ?_
  show own_Go p e below (Qg4_5 Z a1 ar kc el0 el1 el2 el3 el4 h0 n0) (own_Fr s ({ frames := 2, cells := 0, slots := 0, locals := 28 } : Room).cells ({ frames := 2, cells := 0, slots := 0, locals := 28 } : Room).slots) (T1.setTop (mkF m 5 #[.val (.ref a1), .val (.int (4 : Int32))] [(.int (5 : Int32)), (.int (4 : Int32))]))
  obtain ⟨_, _, ⟨T2, L2, k2, n2⟩, -, X2, ⟨Lc2, hQ2, l2, y2, z2⟩, st2⟩ := Jvm.LawKit.callS X1 hx (y := (⟨"java/util/Objects", "checkIndex", "(II)I"⟩ : MethodName)) hown (mvT hZ (hw _ (List.mem_of_getElem? (i := 25) rfl))) (mvT hZ (hw _ (List.mem_of_getElem? (i := 26) rfl))) (mvT hZ (hw _ (List.mem_of_getElem? (i := 27) rfl))) (mvT hZ (hw _ (List.mem_of_getElem? (i := 28) rfl))) (by decide) (backOf (W := 0) (rmo4_5 l Z a0 hw []  h0 n0 Z0 ) hZ (hw _ (List.mem_of_getElem? (i := 28) rfl)) (hw _ (List.mem_of_getElem? (i := 27) rfl)) (by decide) (by decide)) (g := (mkF m 5 #[.val (.ref a1), .val (.int (4 : Int32))] [(.int (5 : Int32)), (.int (4 : Int32))])) rfl (by rw [hml]; rfl) (argsL := [(.int (4 : Int32)), (.int (5 : Int32))]) (rest := []) (lenOf pd_0 rfl) rfl (by show 2 * 0 + _ ≤ _; exact Nat.le_of_eq rfl) (hb hby dg0_1_5) (fun _ _ => ⟨rfl, e1, (by decide : 0 + 0 ≤ _), (by decide : 0 + 0 ≤ _)⟩)
  dsimp only [Pt.U, Pt.locs, Pt.cells, Pt.slots] at X2 l2 y2 z2 st2 hQ2
  subst l2 y2 z2
  obtain ⟨rfl, pp2, N2, e2⟩ := hQ2
  have N2a := Fr.app N0 N2
  refine own_by st2 ?_
  show own_Go p e below (Qg4_5 Z a1 ar kc el0 el1 el2 el3 el4 h0 n0) (own_Fr s ({ frames := 2, cells := 0, slots := 0, locals := 28 } : Room).cells ({ frames := 2, cells := 0, slots := 0, locals := 28 } : Room).slots) (T2.setTop (mkF m 8 #[.val (.ref a1), .val (.int (4 : Int32))] [(.int (4 : Int32))]))
  refine own_pop (pc' := 9) X2 hx rfl (hb hby dg0_1_8) rfl ?_
  refine own_aloadN (pc' := 10) X2 hx rfl rfl (hb hby dg0_1_9) rfl ?_
  obtain ⟨T3, X3, e3, st3⟩ := getF X2 hx hZ hown (host := "") (Or.inl (hw _ (List.mem_of_getElem? (i := 11) rfl))) Via.refl e2 F_values_a1 (g := (mkF m 10 #[.val (.ref a1), .val (.int (4 : Int32))] [(.ref a1)])) rfl rfl (hb hby dg0_1_10)
  refine own_by st3 ?_
  show own_Go p e below (Qg4_5 Z a1 ar kc el0 el1 el2 el3 el4 h0 n0) (own_Fr s ({ frames := 2, cells := 0, slots := 0, locals := 28 } : Room).cells ({ frames := 2, cells := 0, slots := 0, locals := 28 } : Room).slots) (T3.setTop (mkF m 13 #[.val (.ref a1), .val (.int (4 : Int32))] [(.ref ar)]))
  refine own_iloadN (pc' := 14) X3 hx rfl (hb hby dg0_1_13) rfl ?_
  obtain ⟨c4, B4, q4, s4, u4, H4, G4⟩ := id A_ar
  have i4 := inb_of s4 (j := (4 : Int32)) (by decide)
  refine own_by (X3.iaload hx (j := (4 : Int32)) (v := (.int el4)) (by rw [e3]; exact B4.1) (State.isArrayOf_alike hZ.alike B4.2.1) B4.2.2 i4 (H4.at i4 rfl) (g := (mkF m 14 #[.val (.ref a1), .val (.int (4 : Int32))] [(.int (4 : Int32)), (.ref ar)])) rfl rfl (hb hby dg0_1_14)) ?_
  show own_Go p e below (Qg4_5 Z a1 ar kc el0 el1 el2 el3 el4 h0 n0) (own_Fr s ({ frames := 2, cells := 0, slots := 0, locals := 28 } : Room).cells ({ frames := 2, cells := 0, slots := 0, locals := 28 } : Room).slots) (T3.setTop (mkF m 15 #[.val (.ref a1), .val (.int (4 : Int32))] [(.int el4)]))
  refine own_ret X3 hx Bd.returns Bd.notSynchronized (Or.inl ⟨rfl, by simp, _, rfl⟩) (hb hby dg0_1_15) rfl (by decide) (by decide) ?_
  show Qg4_5 Z a1 ar kc el0 el1 el2 el3 el4 h0 n0 _ T3.heap _
  rw [e3]
  exact ⟨rfl, trivial, N2a, rfl⟩
theorem pn_4 : plainName "com/example/libpundit/libpundit/core/IntListGetPinLaw" = true := by first | (simp [plainName, overriddenIn]; done) | decide +kernel
theorem ef_0 (m : MethodId) (x0 : Int32) (x1 : Int32) (x2 : Int32) (x3 : Int32) (x4 : Int32) (x5 : Int32) : entryFrame m #[(.int x0), (.int x1), (.int x2), (.int x3), (.int x4), (.int x5)] maxLocals = mkF m 0 #[.val (.int x0), .val (.int x1), .val (.int x2), .val (.int x3), .val (.int x4), .val (.int x5), .unset, .unset, .unset, .unset, .unset, .unset] [] := by first | (simp [entryFrame, mkF, argsToLocals, Value.category, maxLocals]; done) | rfl
def Q0 (Z : State) (p1 : Int32) (p2 : Int32) (p3 : Int32) (p4 : Int32) (p5 : Int32) (p6 : Int32) (h0 : Heap) (n0 : Nat) (v : Option Value) (h : Heap) (L : List Loc) : Prop := v = some (.int 1) ∧ Fr n0 L
set_option maxRecDepth 65536 in
set_option maxHeartbeats 40000000 in
theorem rm0 (l : Launch) (Z : State) (a0 : Array Value) (hw : ∀ d ∈ tables_1, d.before a0 Z = true) (ws : List Jvm.Cond) (p1 : Int32) (p2 : Int32) (p3 : Int32) (p4 : Int32) (p5 : Int32) (p6 : Int32) (h0 : Heap) (n0 : Nat) (Z0 : n0 ≤ h0.size) :
    MetFree l x (head1 (Jvm.Cond.code x code maxLocals ret :: ws) room_1) (fun a U => a = #[(.int p1), (.int p2), (.int p3), (.int p4), (.int p5), (.int p6)] ∧ Z.Warmed39 U.vm ∧ U.heap = h0) (fun _ _ _ _ _ => True) (fun _ U o U' => ∃ v L, o = .returned v ∧ Q0 Z p1 p2 p3 p4 p5 p6 h0 n0 v U'.heap L ∧ FrameEnd U o U' L room_1.cells room_1.slots) := by
  refine MetFree.of_bodySF (plainFor_of_name pn_4) hisR ?_
  intro p e s m args below meth c s₁ Bd hml0 hP hK
  obtain ⟨rfl, hZ, hh⟩ := hP
  have hx := Bd.exec
  have hby := Bd.bytes
  have hml : c.maxLocals = 12 := hml0
  have hown : s.vm.findClass "com/example/libpundit/libpundit/core/IntListGetPinLaw" = some m.cls := findClass_of_methodNamed Bd.named
  have hnm := (name_of_methodNamed Bd.named Bd.method).1
  have X0 : Stand p l e room_1 s m #[(.int p1), (.int p2), (.int p3), (.int p4), (.int p5), (.int p6)] below meth c s₁ [] 0 0 := Stand.of_body Bd
  have e0 : s₁.heap = h0 := by rw [← hh, Bd.state]; rfl
  have N0 := Fr.nil n0
  change own_Go p e below (Q0 Z p1 p2 p3 p4 p5 p6 h0 n0) (own_Fr s room_1.cells room_1.slots) (s₁.setTop (entryFrame m #[(.int p1), (.int p2), (.int p3), (.int p4), (.int p5), (.int p6)] maxLocals))
  rw [ef_0 m p1 p2 p3 p4 p5 p6]
  have rp1 := rng32 p1
  have rp2 := rng32 p2
  have rp3 := rng32 p3
  have rp4 := rng32 p4
  have rp5 := rng32 p5
  have rp6 := rng32 p6
  refine own_iconst (pc' := 1) X0 hx (1 : Int32) (by decide) (hb hby at_0) rfl ?_
  refine own_iload (pc' := 3) X0 hx rfl (hb hby at_1) rfl ?_
  refine own_bipush (pc' := 5) X0 hx (7 : Int32) (by decide) (hb hby at_3) rfl ?_
  obtain ⟨v1, hv1⟩ : ∃ z, p6 &&& (7 : Int32) = z := ⟨_, rfl⟩
  have f2 : v1.toInt = p6.toInt % 8 := by rw [← hv1]; exact c_mask p6 (7 : Int32) 3 (by decide) (by decide)
  refine own_iand (pc' := 6) X0 hx (z := v1) hv1 (hb hby at_5) rfl ?_
  refine own_iconst (pc' := 7) X0 hx (5 : Int32) (by decide) (hb hby at_6) rfl ?_
  obtain ⟨v3, hv3⟩ : ∃ z, v1 % (5 : Int32) = z := ⟨_, rfl⟩
  have f4 : v3.toInt = v1.toInt % 5 := by rw [← hv3]; exact (c_irem v1 (5 : Int32) 5 (by decide)).1 (by omega)
  refine own_irem (pc' := 8) X0 hx (z := v3) (by decide) hv3 (hb hby at_7) rfl ?_
  obtain ⟨v5, hv5⟩ : ∃ z, (1 : Int32) + v3 = z := ⟨_, rfl⟩
  have f6 : (v5.toInt - (1 + v3.toInt)) % 4294967296 = 0 := by rw [← hv5]; exact c_iadd (1 : Int32) v3
  have rv5 := rng32 v5
  replace f6 : v5.toInt = 1 + v3.toInt := by omega
  refine own_iadd (pc' := 9) X0 hx (z := v5) hv5 (hb hby at_8) rfl ?_
  refine own_istore (pc' := 11) X0 hx #[.val (.int p1), .val (.int p2), .val (.int p3), .val (.int p4), .val (.int p5), .val (.int p6), .val (.int v5), .unset, .unset, .unset, .unset, .unset] rfl (hb hby at_9) rfl ?_
  have b7 : v5.toInt = 1 ∨ v5.toInt = 2 ∨ v5.toInt = 3 ∨ v5.toInt = 4 ∨ v5.toInt = 5 := by omega
  rcases b7 with b7 | b7 | b7 | b7 | b7
  · obtain rfl : v5 = (1 : Int32) := Int32.toInt_inj.mp b7
    have kz8 : (1 : Int32).toInt = 1 := by decide
    refine own_iload (pc' := 13) X0 hx rfl (hb hby at_11) rfl ?_
    refine own_iconst (pc' := 14) X0 hx (3 : Int32) (by decide) (hb hby at_13) rfl ?_
    obtain ⟨v9, hv9⟩ : ∃ z, (p6.toUInt32 >>> ((3 : Int32) &&& 31).toUInt32).toInt32 = z := ⟨_, rfl⟩
    have f10 : v9.toInt = (p6.toInt % 4294967296) / 8 := by rw [← hv9]; exact c_iushr p6 (3 : Int32) 3 (by decide) (by decide)
    refine own_iushr (pc' := 15) X0 hx (z := v9) hv9 (hb hby at_14) rfl ?_
    refine own_ldcInt (pc' := 17) X0 hx hZ hown (hw _ (List.mem_of_getElem? (i := 0) rfl)) (hb hby at_15) rfl ?_
    obtain ⟨v11, hv11⟩ : ∃ z, v9 &&& (2147483647 : Int32) = z := ⟨_, rfl⟩
    have f12 : v11.toInt = v9.toInt % 2147483648 := by rw [← hv11]; exact c_mask v9 (2147483647 : Int32) 31 (by decide) (by decide)
    refine own_iand (pc' := 18) X0 hx (z := v11) hv11 (hb hby at_17) rfl ?_
    refine own_iload (pc' := 20) X0 hx rfl (hb hby at_18) rfl ?_
    obtain ⟨v13, hv13⟩ : ∃ z, v11 % (1 : Int32) = z := ⟨_, rfl⟩
    have f14 : v13.toInt = v11.toInt % 1 := by rw [← hv13]; exact (c_irem v11 (1 : Int32) 1 (by decide)).1 (by omega)
    refine own_irem (pc' := 21) X0 hx (z := v13) (by decide) hv13 (hb hby at_20) rfl ?_
    refine own_istore (pc' := 23) X0 hx #[.val (.int p1), .val (.int p2), .val (.int p3), .val (.int p4), .val (.int p5), .val (.int p6), .val (.int (1 : Int32)), .val (.int v13), .unset, .unset, .unset, .unset] rfl (hb hby at_21) rfl ?_
    refine own_iconst (pc' := 24) X0 hx (5 : Int32) (by decide) (hb hby at_23) rfl ?_
    obtain ⟨T15, h15, cA15, X15, e15, E15, Ar15, st15⟩ := newP X0 hx hZ (hw _ (List.mem_of_getElem? (i := 1) rfl)) e0 (g := (mkF m 24 #[.val (.int p1), .val (.int p2), .val (.int p3), .val (.int p4), .val (.int p5), .val (.int p6), .val (.int (1 : Int32)), .val (.int v13), .unset, .unset, .unset, .unset] [(.int (5 : Int32))])) rfl (hb hby at_24) (n := (5 : Int32)) rfl (by decide) (cap := 5) (by decide) (by decide) (by decide) (by decide)
    obtain ⟨a15, ga15⟩ : ∃ z, z = h0.size := ⟨_, rfl⟩
    rw [← ga15] at Ar15 st15
    have fr15 : n0 ≤ a15 := Nat.le_trans Z0 (Nat.le_of_eq ga15.symm)
    have Z16 : n0 ≤ h15.size := Nat.le_trans Z0 E15.1
    have A15 : Arv Z h15 a15 cA15 .int (5 : Int32) [(.int (0 : Int32)), (.int (0 : Int32)), (.int (0 : Int32)), (.int (0 : Int32)), (.int (0 : Int32))] (.int (0 : Int32)) := (Arv.new Ar15 (by decide)).pad (fun i => pad_rep [] (.int (0 : Int32)) 5 i)
    refine own_by st15 ?_
    show own_Go p e below (Q0 Z p1 p2 p3 p4 p5 p6 h0 n0) (own_Fr s room_1.cells room_1.slots) (T15.setTop (mkF m 26 #[.val (.int p1), .val (.int p2), .val (.int p3), .val (.int p4), .val (.int p5), .val (.int p6), .val (.int (1 : Int32)), .val (.int v13), .unset, .unset, .unset, .unset] [(.ref a15)]))
    refine own_astore (pc' := 28) X15 hx #[.val (.int p1), .val (.int p2), .val (.int p3), .val (.int p4), .val (.int p5), .val (.int p6), .val (.int (1 : Int32)), .val (.int v13), .val (.ref a15), .unset, .unset, .unset] rfl rfl (hb hby at_26) rfl ?_
    refine own_aload (pc' := 30) X15 hx rfl rfl (hb hby at_28) rfl ?_
    refine own_iconst (pc' := 31) X15 hx (0 : Int32) (by decide) (hb hby at_30) rfl ?_
    refine own_iloadN (pc' := 32) X15 hx rfl (hb hby at_31) rfl ?_
    obtain ⟨c17, B17, q17, s17, u17, H17, G17⟩ := id A15
    obtain ⟨T17, h17, X17, e17, W17, st17⟩ := stI X15 hx hZ e15 B17 (j := (0 : Int32)) (x := p1) (inb_of s17 (by decide)) (g := (mkF m 32 #[.val (.int p1), .val (.int p2), .val (.int p3), .val (.int p4), .val (.int p5), .val (.int p6), .val (.int (1 : Int32)), .val (.int v13), .val (.ref a15), .unset, .unset, .unset] [(.int p1), (.int (0 : Int32)), (.ref a15)])) rfl rfl (hb hby at_32)
    have A17 : Arv Z h17 a15 cA15 .int (5 : Int32) [(.int p1), (.int (0 : Int32)), (.int (0 : Int32)), (.int (0 : Int32)), (.int (0 : Int32))] (.int (0 : Int32)) := Arv.set B17 q17 s17 u17 H17 G17 rfl W17 0 (by decide) (by simp)
    have Z18 : n0 ≤ h17.size := Nat.le_trans Z16 (Nat.le_of_eq W17.size.symm)
    have N19 := Fr.snoc X17 N0 fr15
    refine own_by st17 ?_
    show own_Go p e below (Q0 Z p1 p2 p3 p4 p5 p6 h0 n0) (own_Fr s room_1.cells room_1.slots) (T17.setTop (mkF m 33 #[.val (.int p1), .val (.int p2), .val (.int p3), .val (.int p4), .val (.int p5), .val (.int p6), .val (.int (1 : Int32)), .val (.int v13), .val (.ref a15), .unset, .unset, .unset] []))
    refine own_aload (pc' := 35) X17 hx rfl rfl (hb hby at_33) rfl ?_
    refine own_iconst (pc' := 36) X17 hx (1 : Int32) (by decide) (hb hby at_35) rfl ?_
    refine own_iloadN (pc' := 37) X17 hx rfl (hb hby at_36) rfl ?_
    obtain ⟨c20, B20, q20, s20, u20, H20, G20⟩ := id A17
    obtain ⟨T20, h20, X20, e20, W20, st20⟩ := stI X17 hx hZ e17 B20 (j := (1 : Int32)) (x := p2) (inb_of s20 (by decide)) (g := (mkF m 37 #[.val (.int p1), .val (.int p2), .val (.int p3), .val (.int p4), .val (.int p5), .val (.int p6), .val (.int (1 : Int32)), .val (.int v13), .val (.ref a15), .unset, .unset, .unset] [(.int p2), (.int (1 : Int32)), (.ref a15)])) rfl rfl (hb hby at_37)
    have A20 : Arv Z h20 a15 cA15 .int (5 : Int32) [(.int p1), (.int p2), (.int (0 : Int32)), (.int (0 : Int32)), (.int (0 : Int32))] (.int (0 : Int32)) := Arv.set B20 q20 s20 u20 H20 G20 rfl W20 1 (by decide) (by simp)
    have Z21 : n0 ≤ h20.size := Nat.le_trans Z18 (Nat.le_of_eq W20.size.symm)
    have N22 := Fr.snoc X20 N19 fr15
    refine own_by st20 ?_
    show own_Go p e below (Q0 Z p1 p2 p3 p4 p5 p6 h0 n0) (own_Fr s room_1.cells room_1.slots) (T20.setTop (mkF m 38 #[.val (.int p1), .val (.int p2), .val (.int p3), .val (.int p4), .val (.int p5), .val (.int p6), .val (.int (1 : Int32)), .val (.int v13), .val (.ref a15), .unset, .unset, .unset] []))
    refine own_aload (pc' := 40) X20 hx rfl rfl (hb hby at_38) rfl ?_
    refine own_iconst (pc' := 41) X20 hx (2 : Int32) (by decide) (hb hby at_40) rfl ?_
    refine own_iloadN (pc' := 42) X20 hx rfl (hb hby at_41) rfl ?_
    obtain ⟨c23, B23, q23, s23, u23, H23, G23⟩ := id A20
    obtain ⟨T23, h23, X23, e23, W23, st23⟩ := stI X20 hx hZ e20 B23 (j := (2 : Int32)) (x := p3) (inb_of s23 (by decide)) (g := (mkF m 42 #[.val (.int p1), .val (.int p2), .val (.int p3), .val (.int p4), .val (.int p5), .val (.int p6), .val (.int (1 : Int32)), .val (.int v13), .val (.ref a15), .unset, .unset, .unset] [(.int p3), (.int (2 : Int32)), (.ref a15)])) rfl rfl (hb hby at_42)
    have A23 : Arv Z h23 a15 cA15 .int (5 : Int32) [(.int p1), (.int p2), (.int p3), (.int (0 : Int32)), (.int (0 : Int32))] (.int (0 : Int32)) := Arv.set B23 q23 s23 u23 H23 G23 rfl W23 2 (by decide) (by simp)
    have Z24 : n0 ≤ h23.size := Nat.le_trans Z21 (Nat.le_of_eq W23.size.symm)
    have N25 := Fr.snoc X23 N22 fr15
    refine own_by st23 ?_
    show own_Go p e below (Q0 Z p1 p2 p3 p4 p5 p6 h0 n0) (own_Fr s room_1.cells room_1.slots) (T23.setTop (mkF m 43 #[.val (.int p1), .val (.int p2), .val (.int p3), .val (.int p4), .val (.int p5), .val (.int p6), .val (.int (1 : Int32)), .val (.int v13), .val (.ref a15), .unset, .unset, .unset] []))
    refine own_aload (pc' := 45) X23 hx rfl rfl (hb hby at_43) rfl ?_
    refine own_iconst (pc' := 46) X23 hx (3 : Int32) (by decide) (hb hby at_45) rfl ?_
    refine own_iloadN (pc' := 47) X23 hx rfl (hb hby at_46) rfl ?_
    obtain ⟨c26, B26, q26, s26, u26, H26, G26⟩ := id A23
    obtain ⟨T26, h26, X26, e26, W26, st26⟩ := stI X23 hx hZ e23 B26 (j := (3 : Int32)) (x := p4) (inb_of s26 (by decide)) (g := (mkF m 47 #[.val (.int p1), .val (.int p2), .val (.int p3), .val (.int p4), .val (.int p5), .val (.int p6), .val (.int (1 : Int32)), .val (.int v13), .val (.ref a15), .unset, .unset, .unset] [(.int p4), (.int (3 : Int32)), (.ref a15)])) rfl rfl (hb hby at_47)
    have A26 : Arv Z h26 a15 cA15 .int (5 : Int32) [(.int p1), (.int p2), (.int p3), (.int p4), (.int (0 : Int32))] (.int (0 : Int32)) := Arv.set B26 q26 s26 u26 H26 G26 rfl W26 3 (by decide) (by simp)
    have Z27 : n0 ≤ h26.size := Nat.le_trans Z24 (Nat.le_of_eq W26.size.symm)
    have N28 := Fr.snoc X26 N25 fr15
    refine own_by st26 ?_
    show own_Go p e below (Q0 Z p1 p2 p3 p4 p5 p6 h0 n0) (own_Fr s room_1.cells room_1.slots) (T26.setTop (mkF m 48 #[.val (.int p1), .val (.int p2), .val (.int p3), .val (.int p4), .val (.int p5), .val (.int p6), .val (.int (1 : Int32)), .val (.int v13), .val (.ref a15), .unset, .unset, .unset] []))
    refine own_aload (pc' := 50) X26 hx rfl rfl (hb hby at_48) rfl ?_
    refine own_iconst (pc' := 51) X26 hx (4 : Int32) (by decide) (hb hby at_50) rfl ?_
    refine own_iload (pc' := 53) X26 hx rfl (hb hby at_51) rfl ?_
    obtain ⟨c29, B29, q29, s29, u29, H29, G29⟩ := id A26
    obtain ⟨T29, h29, X29, e29, W29, st29⟩ := stI X26 hx hZ e26 B29 (j := (4 : Int32)) (x := p5) (inb_of s29 (by decide)) (g := (mkF m 53 #[.val (.int p1), .val (.int p2), .val (.int p3), .val (.int p4), .val (.int p5), .val (.int p6), .val (.int (1 : Int32)), .val (.int v13), .val (.ref a15), .unset, .unset, .unset] [(.int p5), (.int (4 : Int32)), (.ref a15)])) rfl rfl (hb hby at_53)
    have A29 : Arv Z h29 a15 cA15 .int (5 : Int32) [(.int p1), (.int p2), (.int p3), (.int p4), (.int p5)] (.int (0 : Int32)) := Arv.set B29 q29 s29 u29 H29 G29 rfl W29 4 (by decide) (by simp)
    have Z30 : n0 ≤ h29.size := Nat.le_trans Z27 (Nat.le_of_eq W29.size.symm)
    have N31 := Fr.snoc X29 N28 fr15
    refine own_by st29 ?_
    show own_Go p e below (Q0 Z p1 p2 p3 p4 p5 p6 h0 n0) (own_Fr s room_1.cells room_1.slots) (T29.setTop (mkF m 54 #[.val (.int p1), .val (.int p2), .val (.int p3), .val (.int p4), .val (.int p5), .val (.int p6), .val (.int (1 : Int32)), .val (.int v13), .val (.ref a15), .unset, .unset, .unset] []))
    obtain ⟨T32, h32, X32, e32, E32, A32, D32, -, st32⟩ := newO X29 hx hZ hown (hw _ (List.mem_of_getElem? (i := 2) rfl)) (hw _ (List.mem_of_getElem? (i := 3) rfl)) (hw _ (List.mem_of_getElem? (i := 4) rfl)) e29 (g := (mkF m 54 #[.val (.int p1), .val (.int p2), .val (.int p3), .val (.int p4), .val (.int p5), .val (.int p6), .val (.int (1 : Int32)), .val (.int v13), .val (.ref a15), .unset, .unset, .unset] [])) rfl (hb hby at_54) (by decide) (by decide)
    obtain ⟨a32, ga32⟩ : ∃ z, z = h29.size := ⟨_, rfl⟩
    rw [← ga32] at A32 D32 st32
    have n33 : a15 ≠ a32 := Nat.ne_of_lt (ga32.symm ▸ A29.lt)
    have A34 : Arv Z h32 a15 cA15 .int (5 : Int32) [(.int p1), (.int p2), (.int p3), (.int p4), (.int p5)] (.int (0 : Int32)) := A29.ext E32
    have fr32 : n0 ≤ a32 := Nat.le_trans Z30 (Nat.le_of_eq ga32.symm)
    have Z35 : n0 ≤ h32.size := Nat.le_trans Z30 E32.1
    have F36 : Fld Z h32 a32 "com/example/libpundit/libpundit/core/IntList" "values" "[I" .null := D32 (Or.inl (hw _ (List.mem_of_getElem? (i := 12) rfl))) (ty := (.array .int)) (by decide)
    have F37 : Fld Z h32 a32 "com/example/libpundit/libpundit/core/IntList" "size" "I" (.int (0 : Int32)) := D32 (Or.inl (hw _ (List.mem_of_getElem? (i := 19) rfl))) (ty := .int) (by decide)
    refine own_by st32 ?_
    show own_Go p e below (Q0 Z p1 p2 p3 p4 p5 p6 h0 n0) (own_Fr s room_1.cells room_1.slots) (T32.setTop (mkF m 57 #[.val (.int p1), .val (.int p2), .val (.int p3), .val (.int p4), .val (.int p5), .val (.int p6), .val (.int (1 : Int32)), .val (.int v13), .val (.ref a15), .unset, .unset, .unset] [(.ref a32)]))
    refine own_dup (pc' := 58) X32 hx rfl (hb hby at_57) rfl ?_
    obtain ⟨_, _, ⟨T38, L38, k38, n38⟩, -, X38, ⟨Lc38, hQ38, l38, y38, z38⟩, st38⟩ := X32.specialBack hx (y := (⟨"com/example/libpundit/libpundit/core/IntList", "<init>", "()V"⟩ : MethodName)) rfl hown (mvT hZ (hw _ (List.mem_of_getElem? (i := 5) rfl))) (mvT hZ (hw _ (List.mem_of_getElem? (i := 6) rfl))) (mvT hZ (hw _ (List.mem_of_getElem? (i := 7) rfl))) (by decide) (backOf (W := 1) (rmi l Z a0 hw [] a32 h32 n0 Z35 A32 F36 F37 fr32) hZ (hw _ (List.mem_of_getElem? (i := 7) rfl)) (hw _ (List.mem_of_getElem? (i := 4) rfl)) (by decide) (by decide)) (g := (mkF m 58 #[.val (.int p1), .val (.int p2), .val (.int p3), .val (.int p4), .val (.int p5), .val (.int p6), .val (.int (1 : Int32)), .val (.int v13), .val (.ref a15), .unset, .unset, .unset] [(.ref a32), (.ref a32)])) rfl (by rw [hml]; rfl) (Steps.refl _) (a := a32) (argsL := []) (rest := [(.ref a32)]) (lenOf pd_2 rfl) rfl (by show 2 * 0 + _ ≤ _; exact Nat.le_of_eq rfl) (hb hby at_58) (fun _ _ => ⟨rfl, e32, (by decide : 2 + 1 ≤ _), (by decide : 7 + 4 ≤ _)⟩)
    dsimp only [Pt.U, Pt.locs, Pt.cells, Pt.slots] at X38 l38 y38 z38 st38 hQ38
    subst l38 y38 z38
    obtain ⟨ar_38, kc_38, rfl, pp38, N38, Kc38, gc38_ar, Ec38_a1, Ec38_ar, Fc38_0, Fc38_1, Ac38_ar⟩ := hQ38
    have n39 : a32 ≠ ar_38 := Nat.ne_of_lt (Nat.lt_of_lt_of_le A32.lt gc38_ar)
    have n40 : a15 ≠ ar_38 := Nat.ne_of_lt (Nat.lt_of_lt_of_le A34.lt gc38_ar)
    have frar_38 : n0 ≤ ar_38 := Nat.le_trans Z35 gc38_ar
    have A41 : Arv Z T38.heap a15 cA15 .int (5 : Int32) [(.int p1), (.int p2), (.int p3), (.int p4), (.int p5)] (.int (0 : Int32)) := A34.keep Kc38 (ninS n33 nin0)
    have Z42 : n0 ≤ T38.heap.size := Nat.le_trans Z35 Kc38.1
    have N38a := Fr.app N31 N38
    refine own_via st38 ?_
    show own_Go p e below (Q0 Z p1 p2 p3 p4 p5 p6 h0 n0) (own_Fr s room_1.cells room_1.slots) (T38.setTop (mkF m 61 #[.val (.int p1), .val (.int p2), .val (.int p3), .val (.int p4), .val (.int p5), .val (.int p6), .val (.int (1 : Int32)), .val (.int v13), .val (.ref a15), .unset, .unset, .unset] [(.ref a32)]))
    refine own_astore (pc' := 63) X38 hx #[.val (.int p1), .val (.int p2), .val (.int p3), .val (.int p4), .val (.int p5), .val (.int p6), .val (.int (1 : Int32)), .val (.int v13), .val (.ref a15), .val (.ref a32), .unset, .unset] rfl rfl (hb hby at_61) rfl ?_
    refine own_aload (pc' := 65) X38 hx rfl rfl (hb hby at_63) rfl ?_
    refine own_iloadN (pc' := 66) X38 hx rfl (hb hby at_65) rfl ?_
    obtain ⟨cq43, kq43, q43a, q43b, q43c⟩ := isOf hZ rfl Ec38_a1
    obtain ⟨_, _, ⟨T43, L43, k43, n43⟩, -, X43, ⟨Lc43, hQ43, l43, y43, z43⟩, st43⟩ := X38.virtualBack hx (y := (⟨"com/example/libpundit/libpundit/core/IntList", "add", "(I)V"⟩ : MethodName)) (z := (⟨"com/example/libpundit/libpundit/core/IntList", "add", "(I)V"⟩ : MethodName)) hown (mvT hZ (hw _ (List.mem_of_getElem? (i := 13) rfl))) (mvT hZ (hw _ (List.mem_of_getElem? (i := 14) rfl))) (notFace_of_selects (args := #[]) (mvT hZ (hw _ (List.mem_of_getElem? (i := 16) rfl)))) (mvT hZ (hw _ (List.mem_of_getElem? (i := 16) rfl))) (mvT hZ (hw _ (List.mem_of_getElem? (i := 15) rfl))) (by decide) (backOf (W := 0) (rma0 l Z a0 hw [] a32 p1 ar_38 kc_38 T38.heap n0 Z42 Ec38_a1 Ec38_ar Fc38_0 Fc38_1 Ac38_ar fr32 frar_38 n39) hZ (hw _ (List.mem_of_getElem? (i := 17) rfl)) (hw _ (List.mem_of_getElem? (i := 4) rfl)) (by decide) (by decide)) q43a q43c (g := (mkF m 66 #[.val (.int p1), .val (.int p2), .val (.int p3), .val (.int p4), .val (.int p5), .val (.int p6), .val (.int (1 : Int32)), .val (.int v13), .val (.ref a15), .val (.ref a32), .unset, .unset] [(.int p1), (.ref a32)])) rfl (by rw [hml]; rfl) (Steps.refl _) (argsL := [(.int p1)]) (rest := []) (lenOf pd_3 rfl) rfl (by show 2 * 0 + _ ≤ _; exact Nat.le_of_eq rfl) (hb hby at_66) (fun _ _ => ⟨rfl, rfl, (by decide : 3 + 0 ≤ _), (by decide : 11 + 0 ≤ _)⟩)
    dsimp only [Pt.U, Pt.locs, Pt.cells, Pt.slots] at X43 l43 y43 z43 st43 hQ43
    subst l43 y43 z43
    obtain ⟨rfl, pp43, N43, Kc43, Ec43_a1, Ec43_ar, Fc43_0, Fc43_1, Ac43_ar⟩ := hQ43
    have A44 : Arv Z T43.heap a15 cA15 .int (5 : Int32) [(.int p1), (.int p2), (.int p3), (.int p4), (.int p5)] (.int (0 : Int32)) := A41.keep Kc43 (ninS n33 (ninS n40 nin0))
    have Z45 : n0 ≤ T43.heap.size := Nat.le_trans Z42 Kc43.1
    have N43a := Fr.app N38a N43
    refine own_via st43 ?_
    show own_Go p e below (Q0 Z p1 p2 p3 p4 p5 p6 h0 n0) (own_Fr s room_1.cells room_1.slots) (T43.setTop (mkF m 69 #[.val (.int p1), .val (.int p2), .val (.int p3), .val (.int p4), .val (.int p5), .val (.int p6), .val (.int (1 : Int32)), .val (.int v13), .val (.ref a15), .val (.ref a32), .unset, .unset] []))
    refine own_iload (pc' := 71) X43 hx rfl (hb hby at_69) rfl ?_
    refine own_iconst (pc' := 72) X43 hx (1 : Int32) (by decide) (hb hby at_71) rfl ?_
    refine own_icmpYes (pc' := 81) X43 hx (hb hby at_72) (by decide) (by decide) (by decide) ?_
    refine own_iload (pc' := 83) X43 hx rfl (hb hby at_81) rfl ?_
    refine own_iconst (pc' := 84) X43 hx (2 : Int32) (by decide) (hb hby at_83) rfl ?_
    refine own_icmpYes (pc' := 93) X43 hx (hb hby at_84) (by decide) (by decide) (by decide) ?_
    refine own_iload (pc' := 95) X43 hx rfl (hb hby at_93) rfl ?_
    refine own_iconst (pc' := 96) X43 hx (3 : Int32) (by decide) (hb hby at_95) rfl ?_
    refine own_icmpYes (pc' := 105) X43 hx (hb hby at_96) (by decide) (by decide) (by decide) ?_
    refine own_iload (pc' := 107) X43 hx rfl (hb hby at_105) rfl ?_
    refine own_iconst (pc' := 108) X43 hx (4 : Int32) (by decide) (hb hby at_107) rfl ?_
    refine own_icmpYes (pc' := 118) X43 hx (hb hby at_108) (by decide) (by decide) (by decide) ?_
    have b46 : v13.toInt = 0 := by omega
    rcases b46 with b46
    · obtain rfl : v13 = (0 : Int32) := Int32.toInt_inj.mp b46
      have kz47 : (0 : Int32).toInt = 0 := by decide
      refine own_aload (pc' := 120) X43 hx rfl rfl (hb hby at_118) rfl ?_
      refine own_iload (pc' := 122) X43 hx rfl (hb hby at_120) rfl ?_
      obtain ⟨cq48, kq48, q48a, q48b, q48c⟩ := isOf hZ rfl Ec43_a1
      obtain ⟨_, _, ⟨T48, L48, k48, n48⟩, -, X48, ⟨Lc48, hQ48, l48, y48, z48⟩, st48⟩ := X43.virtualBack hx (y := (⟨"com/example/libpundit/libpundit/core/IntList", "get", "(I)I"⟩ : MethodName)) (z := (⟨"com/example/libpundit/libpundit/core/IntList", "get", "(I)I"⟩ : MethodName)) hown (mvT hZ (hw _ (List.mem_of_getElem? (i := 20) rfl))) (mvT hZ (hw _ (List.mem_of_getElem? (i := 21) rfl))) (notFace_of_selects (args := #[]) (mvT hZ (hw _ (List.mem_of_getElem? (i := 23) rfl)))) (mvT hZ (hw _ (List.mem_of_getElem? (i := 23) rfl))) (mvT hZ (hw _ (List.mem_of_getElem? (i := 22) rfl))) (by decide) (backOf (W := 0) (rmg0_1 l Z a0 hw [] a32 ar_38 kc_38 p1 T43.heap n0 Z45 Fc43_0 Fc43_1 Ac43_ar) hZ (hw _ (List.mem_of_getElem? (i := 24) rfl)) (hw _ (List.mem_of_getElem? (i := 4) rfl)) (by decide) (by decide)) q48a q48c (g := (mkF m 122 #[.val (.int p1), .val (.int p2), .val (.int p3), .val (.int p4), .val (.int p5), .val (.int p6), .val (.int (1 : Int32)), .val (.int (0 : Int32)), .val (.ref a15), .val (.ref a32), .unset, .unset] [(.int (0 : Int32)), (.ref a32)])) rfl (by rw [hml]; rfl) (Steps.refl _) (argsL := [(.int (0 : Int32))]) (rest := []) (lenOf pd_5 rfl) rfl (by show 2 * 0 + _ ≤ _; exact Nat.le_of_eq rfl) (hb hby at_122) (fun _ _ => ⟨rfl, rfl, (by decide : 3 + 0 ≤ _), (by decide : 11 + 0 ≤ _)⟩)
      dsimp only [Pt.U, Pt.locs, Pt.cells, Pt.slots] at X48 l48 y48 z48 st48 hQ48
      subst l48 y48 z48
      obtain ⟨rfl, pp48, N48, e48⟩ := hQ48
      have N48a := Fr.app N43a N48
      refine own_via st48 ?_
      show own_Go p e below (Q0 Z p1 p2 p3 p4 p5 p6 h0 n0) (own_Fr s room_1.cells room_1.slots) (T48.setTop (mkF m 125 #[.val (.int p1), .val (.int p2), .val (.int p3), .val (.int p4), .val (.int p5), .val (.int p6), .val (.int (1 : Int32)), .val (.int (0 : Int32)), .val (.ref a15), .val (.ref a32), .unset, .unset] [(.int p1)]))
      refine own_istore (pc' := 127) X48 hx #[.val (.int p1), .val (.int p2), .val (.int p3), .val (.int p4), .val (.int p5), .val (.int p6), .val (.int (1 : Int32)), .val (.int (0 : Int32)), .val (.ref a15), .val (.ref a32), .val (.int p1), .unset] rfl (hb hby at_125) rfl ?_
      refine own_aload (pc' := 129) X48 hx rfl rfl (hb hby at_127) rfl ?_
      refine own_iload (pc' := 131) X48 hx rfl (hb hby at_129) rfl ?_
      refine own_iconst (pc' := 132) X48 hx (1 : Int32) (by decide) (hb hby at_131) rfl ?_
      refine own_isub (pc' := 133) X48 hx (z := (0 : Int32)) (by decide) (hb hby at_132) rfl ?_
      obtain ⟨cq49, kq49, q49a, q49b, q49c⟩ := isOf hZ e48 Ec43_a1
      obtain ⟨_, _, ⟨T49, L49, k49, n49⟩, -, X49, ⟨Lc49, hQ49, l49, y49, z49⟩, st49⟩ := X48.virtualBack hx (y := (⟨"com/example/libpundit/libpundit/core/IntList", "get", "(I)I"⟩ : MethodName)) (z := (⟨"com/example/libpundit/libpundit/core/IntList", "get", "(I)I"⟩ : MethodName)) hown (mvT hZ (hw _ (List.mem_of_getElem? (i := 20) rfl))) (mvT hZ (hw _ (List.mem_of_getElem? (i := 21) rfl))) (notFace_of_selects (args := #[]) (mvT hZ (hw _ (List.mem_of_getElem? (i := 23) rfl)))) (mvT hZ (hw _ (List.mem_of_getElem? (i := 23) rfl))) (mvT hZ (hw _ (List.mem_of_getElem? (i := 22) rfl))) (by decide) (backOf (W := 0) (rmg0_1 l Z a0 hw [] a32 ar_38 kc_38 p1 T43.heap n0 Z45 Fc43_0 Fc43_1 Ac43_ar) hZ (hw _ (List.mem_of_getElem? (i := 24) rfl)) (hw _ (List.mem_of_getElem? (i := 4) rfl)) (by decide) (by decide)) q49a q49c (g := (mkF m 133 #[.val (.int p1), .val (.int p2), .val (.int p3), .val (.int p4), .val (.int p5), .val (.int p6), .val (.int (1 : Int32)), .val (.int (0 : Int32)), .val (.ref a15), .val (.ref a32), .val (.int p1), .unset] [(.int (0 : Int32)), (.ref a32)])) rfl (by rw [hml]; rfl) (Steps.refl _) (argsL := [(.int (0 : Int32))]) (rest := []) (lenOf pd_5 rfl) rfl (by show 2 * 0 + _ ≤ _; exact Nat.le_of_eq rfl) (hb hby at_133) (fun _ _ => ⟨rfl, e48, (by decide : 3 + 0 ≤ _), (by decide : 11 + 0 ≤ _)⟩)
      dsimp only [Pt.U, Pt.locs, Pt.cells, Pt.slots] at X49 l49 y49 z49 st49 hQ49
      subst l49 y49 z49
      obtain ⟨rfl, pp49, N49, e49⟩ := hQ49
      have N49a := Fr.app N48a N49
      refine own_via st49 ?_
      show own_Go p e below (Q0 Z p1 p2 p3 p4 p5 p6 h0 n0) (own_Fr s room_1.cells room_1.slots) (T49.setTop (mkF m 136 #[.val (.int p1), .val (.int p2), .val (.int p3), .val (.int p4), .val (.int p5), .val (.int p6), .val (.int (1 : Int32)), .val (.int (0 : Int32)), .val (.ref a15), .val (.ref a32), .val (.int p1), .unset] [(.int p1)]))
      refine own_istore (pc' := 138) X49 hx #[.val (.int p1), .val (.int p2), .val (.int p3), .val (.int p4), .val (.int p5), .val (.int p6), .val (.int (1 : Int32)), .val (.int (0 : Int32)), .val (.ref a15), .val (.ref a32), .val (.int p1), .val (.int p1)] rfl (hb hby at_136) rfl ?_
      refine own_iload (pc' := 140) X49 hx rfl (hb hby at_138) rfl ?_
      refine own_aload (pc' := 142) X49 hx rfl rfl (hb hby at_140) rfl ?_
      refine own_iload (pc' := 144) X49 hx rfl (hb hby at_142) rfl ?_
      obtain ⟨c50, B50, q50, s50, u50, H50, G50⟩ := id A44
      have i50 := inb_of s50 (j := (0 : Int32)) (by decide)
      refine own_by (X49.iaload hx (j := (0 : Int32)) (v := (.int p1)) (by rw [e49]; exact B50.1) (State.isArrayOf_alike hZ.alike B50.2.1) B50.2.2 i50 (H50.at i50 rfl) (g := (mkF m 144 #[.val (.int p1), .val (.int p2), .val (.int p3), .val (.int p4), .val (.int p5), .val (.int p6), .val (.int (1 : Int32)), .val (.int (0 : Int32)), .val (.ref a15), .val (.ref a32), .val (.int p1), .val (.int p1)] [(.int (0 : Int32)), (.ref a15), (.int p1)])) rfl rfl (hb hby at_144)) ?_
      show own_Go p e below (Q0 Z p1 p2 p3 p4 p5 p6 h0 n0) (own_Fr s room_1.cells room_1.slots) (T49.setTop (mkF m 145 #[.val (.int p1), .val (.int p2), .val (.int p3), .val (.int p4), .val (.int p5), .val (.int p6), .val (.int (1 : Int32)), .val (.int (0 : Int32)), .val (.ref a15), .val (.ref a32), .val (.int p1), .val (.int p1)] [(.int p1), (.int p1)]))
      have b51 : p1.toInt = p1.toInt := by omega
      refine own_icmpNo (pc' := 148) X49 hx (own_no_ne rfl rfl b51) (hb hby at_145) rfl ?_
      refine own_iload (pc' := 150) X49 hx rfl (hb hby at_148) rfl ?_
      refine own_aload (pc' := 152) X49 hx rfl rfl (hb hby at_150) rfl ?_
      refine own_iload (pc' := 154) X49 hx rfl (hb hby at_152) rfl ?_
      refine own_iconst (pc' := 155) X49 hx (1 : Int32) (by decide) (hb hby at_154) rfl ?_
      refine own_isub (pc' := 156) X49 hx (z := (0 : Int32)) (by decide) (hb hby at_155) rfl ?_
      obtain ⟨c52, B52, q52, s52, u52, H52, G52⟩ := id A44
      have i52 := inb_of s52 (j := (0 : Int32)) (by decide)
      refine own_by (X49.iaload hx (j := (0 : Int32)) (v := (.int p1)) (by rw [e49]; exact B52.1) (State.isArrayOf_alike hZ.alike B52.2.1) B52.2.2 i52 (H52.at i52 rfl) (g := (mkF m 156 #[.val (.int p1), .val (.int p2), .val (.int p3), .val (.int p4), .val (.int p5), .val (.int p6), .val (.int (1 : Int32)), .val (.int (0 : Int32)), .val (.ref a15), .val (.ref a32), .val (.int p1), .val (.int p1)] [(.int (0 : Int32)), (.ref a15), (.int p1)])) rfl rfl (hb hby at_156)) ?_
      show own_Go p e below (Q0 Z p1 p2 p3 p4 p5 p6 h0 n0) (own_Fr s room_1.cells room_1.slots) (T49.setTop (mkF m 157 #[.val (.int p1), .val (.int p2), .val (.int p3), .val (.int p4), .val (.int p5), .val (.int p6), .val (.int (1 : Int32)), .val (.int (0 : Int32)), .val (.ref a15), .val (.ref a32), .val (.int p1), .val (.int p1)] [(.int p1), (.int p1)]))
      have b53 : p1.toInt = p1.toInt := by omega
      refine own_icmpNo (pc' := 160) X49 hx (own_no_ne rfl rfl b53) (hb hby at_157) rfl ?_
      refine own_iconst (pc' := 161) X49 hx (1 : Int32) (by decide) (hb hby at_160) rfl ?_
      refine own_goto (pc' := 165) X49 hx (hb hby at_161) (by decide) (by decide) ?_
      refine own_ret X49 hx Bd.returns Bd.notSynchronized (Or.inl ⟨rfl, by simp, _, rfl⟩) (hb hby at_165) rfl (by decide) (by decide) ?_
      show Q0 Z p1 p2 p3 p4 p5 p6 h0 n0 _ T49.heap _
      rw [e49]
      exact ⟨rfl, N49a⟩
  · obtain rfl : v5 = (2 : Int32) := Int32.toInt_inj.mp b7
    have kz54 : (2 : Int32).toInt = 2 := by decide
    refine own_iload (pc' := 13) X0 hx rfl (hb hby at_11) rfl ?_
    refine own_iconst (pc' := 14) X0 hx (3 : Int32) (by decide) (hb hby at_13) rfl ?_
    obtain ⟨v55, hv55⟩ : ∃ z, (p6.toUInt32 >>> ((3 : Int32) &&& 31).toUInt32).toInt32 = z := ⟨_, rfl⟩
    have f56 : v55.toInt = (p6.toInt % 4294967296) / 8 := by rw [← hv55]; exact c_iushr p6 (3 : Int32) 3 (by decide) (by decide)
    refine own_iushr (pc' := 15) X0 hx (z := v55) hv55 (hb hby at_14) rfl ?_
    refine own_ldcInt (pc' := 17) X0 hx hZ hown (hw _ (List.mem_of_getElem? (i := 0) rfl)) (hb hby at_15) rfl ?_
    obtain ⟨v57, hv57⟩ : ∃ z, v55 &&& (2147483647 : Int32) = z := ⟨_, rfl⟩
    have f58 : v57.toInt = v55.toInt % 2147483648 := by rw [← hv57]; exact c_mask v55 (2147483647 : Int32) 31 (by decide) (by decide)
    refine own_iand (pc' := 18) X0 hx (z := v57) hv57 (hb hby at_17) rfl ?_
    refine own_iload (pc' := 20) X0 hx rfl (hb hby at_18) rfl ?_
    obtain ⟨v59, hv59⟩ : ∃ z, v57 % (2 : Int32) = z := ⟨_, rfl⟩
    have f60 : v59.toInt = v57.toInt % 2 := by rw [← hv59]; exact (c_irem v57 (2 : Int32) 2 (by decide)).1 (by omega)
    refine own_irem (pc' := 21) X0 hx (z := v59) (by decide) hv59 (hb hby at_20) rfl ?_
    refine own_istore (pc' := 23) X0 hx #[.val (.int p1), .val (.int p2), .val (.int p3), .val (.int p4), .val (.int p5), .val (.int p6), .val (.int (2 : Int32)), .val (.int v59), .unset, .unset, .unset, .unset] rfl (hb hby at_21) rfl ?_
    refine own_iconst (pc' := 24) X0 hx (5 : Int32) (by decide) (hb hby at_23) rfl ?_
    obtain ⟨T61, h61, cA61, X61, e61, E61, Ar61, st61⟩ := newP X0 hx hZ (hw _ (List.mem_of_getElem? (i := 1) rfl)) e0 (g := (mkF m 24 #[.val (.int p1), .val (.int p2), .val (.int p3), .val (.int p4), .val (.int p5), .val (.int p6), .val (.int (2 : Int32)), .val (.int v59), .unset, .unset, .unset, .unset] [(.int (5 : Int32))])) rfl (hb hby at_24) (n := (5 : Int32)) rfl (by decide) (cap := 5) (by decide) (by decide) (by decide) (by decide)
    obtain ⟨a61, ga61⟩ : ∃ z, z = h0.size := ⟨_, rfl⟩
    rw [← ga61] at Ar61 st61
    have fr61 : n0 ≤ a61 := Nat.le_trans Z0 (Nat.le_of_eq ga61.symm)
    have Z62 : n0 ≤ h61.size := Nat.le_trans Z0 E61.1
    have A61 : Arv Z h61 a61 cA61 .int (5 : Int32) [(.int (0 : Int32)), (.int (0 : Int32)), (.int (0 : Int32)), (.int (0 : Int32)), (.int (0 : Int32))] (.int (0 : Int32)) := (Arv.new Ar61 (by decide)).pad (fun i => pad_rep [] (.int (0 : Int32)) 5 i)
    refine own_by st61 ?_
    show own_Go p e below (Q0 Z p1 p2 p3 p4 p5 p6 h0 n0) (own_Fr s room_1.cells room_1.slots) (T61.setTop (mkF m 26 #[.val (.int p1), .val (.int p2), .val (.int p3), .val (.int p4), .val (.int p5), .val (.int p6), .val (.int (2 : Int32)), .val (.int v59), .unset, .unset, .unset, .unset] [(.ref a61)]))
    refine own_astore (pc' := 28) X61 hx #[.val (.int p1), .val (.int p2), .val (.int p3), .val (.int p4), .val (.int p5), .val (.int p6), .val (.int (2 : Int32)), .val (.int v59), .val (.ref a61), .unset, .unset, .unset] rfl rfl (hb hby at_26) rfl ?_
    refine own_aload (pc' := 30) X61 hx rfl rfl (hb hby at_28) rfl ?_
    refine own_iconst (pc' := 31) X61 hx (0 : Int32) (by decide) (hb hby at_30) rfl ?_
    refine own_iloadN (pc' := 32) X61 hx rfl (hb hby at_31) rfl ?_
    obtain ⟨c63, B63, q63, s63, u63, H63, G63⟩ := id A61
    obtain ⟨T63, h63, X63, e63, W63, st63⟩ := stI X61 hx hZ e61 B63 (j := (0 : Int32)) (x := p1) (inb_of s63 (by decide)) (g := (mkF m 32 #[.val (.int p1), .val (.int p2), .val (.int p3), .val (.int p4), .val (.int p5), .val (.int p6), .val (.int (2 : Int32)), .val (.int v59), .val (.ref a61), .unset, .unset, .unset] [(.int p1), (.int (0 : Int32)), (.ref a61)])) rfl rfl (hb hby at_32)
    have A63 : Arv Z h63 a61 cA61 .int (5 : Int32) [(.int p1), (.int (0 : Int32)), (.int (0 : Int32)), (.int (0 : Int32)), (.int (0 : Int32))] (.int (0 : Int32)) := Arv.set B63 q63 s63 u63 H63 G63 rfl W63 0 (by decide) (by simp)
    have Z64 : n0 ≤ h63.size := Nat.le_trans Z62 (Nat.le_of_eq W63.size.symm)
    have N65 := Fr.snoc X63 N0 fr61
    refine own_by st63 ?_
    show own_Go p e below (Q0 Z p1 p2 p3 p4 p5 p6 h0 n0) (own_Fr s room_1.cells room_1.slots) (T63.setTop (mkF m 33 #[.val (.int p1), .val (.int p2), .val (.int p3), .val (.int p4), .val (.int p5), .val (.int p6), .val (.int (2 : Int32)), .val (.int v59), .val (.ref a61), .unset, .unset, .unset] []))
    refine own_aload (pc' := 35) X63 hx rfl rfl (hb hby at_33) rfl ?_
    refine own_iconst (pc' := 36) X63 hx (1 : Int32) (by decide) (hb hby at_35) rfl ?_
    refine own_iloadN (pc' := 37) X63 hx rfl (hb hby at_36) rfl ?_
    obtain ⟨c66, B66, q66, s66, u66, H66, G66⟩ := id A63
    obtain ⟨T66, h66, X66, e66, W66, st66⟩ := stI X63 hx hZ e63 B66 (j := (1 : Int32)) (x := p2) (inb_of s66 (by decide)) (g := (mkF m 37 #[.val (.int p1), .val (.int p2), .val (.int p3), .val (.int p4), .val (.int p5), .val (.int p6), .val (.int (2 : Int32)), .val (.int v59), .val (.ref a61), .unset, .unset, .unset] [(.int p2), (.int (1 : Int32)), (.ref a61)])) rfl rfl (hb hby at_37)
    have A66 : Arv Z h66 a61 cA61 .int (5 : Int32) [(.int p1), (.int p2), (.int (0 : Int32)), (.int (0 : Int32)), (.int (0 : Int32))] (.int (0 : Int32)) := Arv.set B66 q66 s66 u66 H66 G66 rfl W66 1 (by decide) (by simp)
    have Z67 : n0 ≤ h66.size := Nat.le_trans Z64 (Nat.le_of_eq W66.size.symm)
    have N68 := Fr.snoc X66 N65 fr61
    refine own_by st66 ?_
    show own_Go p e below (Q0 Z p1 p2 p3 p4 p5 p6 h0 n0) (own_Fr s room_1.cells room_1.slots) (T66.setTop (mkF m 38 #[.val (.int p1), .val (.int p2), .val (.int p3), .val (.int p4), .val (.int p5), .val (.int p6), .val (.int (2 : Int32)), .val (.int v59), .val (.ref a61), .unset, .unset, .unset] []))
    refine own_aload (pc' := 40) X66 hx rfl rfl (hb hby at_38) rfl ?_
    refine own_iconst (pc' := 41) X66 hx (2 : Int32) (by decide) (hb hby at_40) rfl ?_
    refine own_iloadN (pc' := 42) X66 hx rfl (hb hby at_41) rfl ?_
    obtain ⟨c69, B69, q69, s69, u69, H69, G69⟩ := id A66
    obtain ⟨T69, h69, X69, e69, W69, st69⟩ := stI X66 hx hZ e66 B69 (j := (2 : Int32)) (x := p3) (inb_of s69 (by decide)) (g := (mkF m 42 #[.val (.int p1), .val (.int p2), .val (.int p3), .val (.int p4), .val (.int p5), .val (.int p6), .val (.int (2 : Int32)), .val (.int v59), .val (.ref a61), .unset, .unset, .unset] [(.int p3), (.int (2 : Int32)), (.ref a61)])) rfl rfl (hb hby at_42)
    have A69 : Arv Z h69 a61 cA61 .int (5 : Int32) [(.int p1), (.int p2), (.int p3), (.int (0 : Int32)), (.int (0 : Int32))] (.int (0 : Int32)) := Arv.set B69 q69 s69 u69 H69 G69 rfl W69 2 (by decide) (by simp)
    have Z70 : n0 ≤ h69.size := Nat.le_trans Z67 (Nat.le_of_eq W69.size.symm)
    have N71 := Fr.snoc X69 N68 fr61
    refine own_by st69 ?_
    show own_Go p e below (Q0 Z p1 p2 p3 p4 p5 p6 h0 n0) (own_Fr s room_1.cells room_1.slots) (T69.setTop (mkF m 43 #[.val (.int p1), .val (.int p2), .val (.int p3), .val (.int p4), .val (.int p5), .val (.int p6), .val (.int (2 : Int32)), .val (.int v59), .val (.ref a61), .unset, .unset, .unset] []))
    refine own_aload (pc' := 45) X69 hx rfl rfl (hb hby at_43) rfl ?_
    refine own_iconst (pc' := 46) X69 hx (3 : Int32) (by decide) (hb hby at_45) rfl ?_
    refine own_iloadN (pc' := 47) X69 hx rfl (hb hby at_46) rfl ?_
    obtain ⟨c72, B72, q72, s72, u72, H72, G72⟩ := id A69
    obtain ⟨T72, h72, X72, e72, W72, st72⟩ := stI X69 hx hZ e69 B72 (j := (3 : Int32)) (x := p4) (inb_of s72 (by decide)) (g := (mkF m 47 #[.val (.int p1), .val (.int p2), .val (.int p3), .val (.int p4), .val (.int p5), .val (.int p6), .val (.int (2 : Int32)), .val (.int v59), .val (.ref a61), .unset, .unset, .unset] [(.int p4), (.int (3 : Int32)), (.ref a61)])) rfl rfl (hb hby at_47)
    have A72 : Arv Z h72 a61 cA61 .int (5 : Int32) [(.int p1), (.int p2), (.int p3), (.int p4), (.int (0 : Int32))] (.int (0 : Int32)) := Arv.set B72 q72 s72 u72 H72 G72 rfl W72 3 (by decide) (by simp)
    have Z73 : n0 ≤ h72.size := Nat.le_trans Z70 (Nat.le_of_eq W72.size.symm)
    have N74 := Fr.snoc X72 N71 fr61
    refine own_by st72 ?_
    show own_Go p e below (Q0 Z p1 p2 p3 p4 p5 p6 h0 n0) (own_Fr s room_1.cells room_1.slots) (T72.setTop (mkF m 48 #[.val (.int p1), .val (.int p2), .val (.int p3), .val (.int p4), .val (.int p5), .val (.int p6), .val (.int (2 : Int32)), .val (.int v59), .val (.ref a61), .unset, .unset, .unset] []))
    refine own_aload (pc' := 50) X72 hx rfl rfl (hb hby at_48) rfl ?_
    refine own_iconst (pc' := 51) X72 hx (4 : Int32) (by decide) (hb hby at_50) rfl ?_
    refine own_iload (pc' := 53) X72 hx rfl (hb hby at_51) rfl ?_
    obtain ⟨c75, B75, q75, s75, u75, H75, G75⟩ := id A72
    obtain ⟨T75, h75, X75, e75, W75, st75⟩ := stI X72 hx hZ e72 B75 (j := (4 : Int32)) (x := p5) (inb_of s75 (by decide)) (g := (mkF m 53 #[.val (.int p1), .val (.int p2), .val (.int p3), .val (.int p4), .val (.int p5), .val (.int p6), .val (.int (2 : Int32)), .val (.int v59), .val (.ref a61), .unset, .unset, .unset] [(.int p5), (.int (4 : Int32)), (.ref a61)])) rfl rfl (hb hby at_53)
    have A75 : Arv Z h75 a61 cA61 .int (5 : Int32) [(.int p1), (.int p2), (.int p3), (.int p4), (.int p5)] (.int (0 : Int32)) := Arv.set B75 q75 s75 u75 H75 G75 rfl W75 4 (by decide) (by simp)
    have Z76 : n0 ≤ h75.size := Nat.le_trans Z73 (Nat.le_of_eq W75.size.symm)
    have N77 := Fr.snoc X75 N74 fr61
    refine own_by st75 ?_
    show own_Go p e below (Q0 Z p1 p2 p3 p4 p5 p6 h0 n0) (own_Fr s room_1.cells room_1.slots) (T75.setTop (mkF m 54 #[.val (.int p1), .val (.int p2), .val (.int p3), .val (.int p4), .val (.int p5), .val (.int p6), .val (.int (2 : Int32)), .val (.int v59), .val (.ref a61), .unset, .unset, .unset] []))
    obtain ⟨T78, h78, X78, e78, E78, A78, D78, -, st78⟩ := newO X75 hx hZ hown (hw _ (List.mem_of_getElem? (i := 2) rfl)) (hw _ (List.mem_of_getElem? (i := 3) rfl)) (hw _ (List.mem_of_getElem? (i := 4) rfl)) e75 (g := (mkF m 54 #[.val (.int p1), .val (.int p2), .val (.int p3), .val (.int p4), .val (.int p5), .val (.int p6), .val (.int (2 : Int32)), .val (.int v59), .val (.ref a61), .unset, .unset, .unset] [])) rfl (hb hby at_54) (by decide) (by decide)
    obtain ⟨a78, ga78⟩ : ∃ z, z = h75.size := ⟨_, rfl⟩
    rw [← ga78] at A78 D78 st78
    have n79 : a61 ≠ a78 := Nat.ne_of_lt (ga78.symm ▸ A75.lt)
    have A80 : Arv Z h78 a61 cA61 .int (5 : Int32) [(.int p1), (.int p2), (.int p3), (.int p4), (.int p5)] (.int (0 : Int32)) := A75.ext E78
    have fr78 : n0 ≤ a78 := Nat.le_trans Z76 (Nat.le_of_eq ga78.symm)
    have Z81 : n0 ≤ h78.size := Nat.le_trans Z76 E78.1
    have F82 : Fld Z h78 a78 "com/example/libpundit/libpundit/core/IntList" "values" "[I" .null := D78 (Or.inl (hw _ (List.mem_of_getElem? (i := 12) rfl))) (ty := (.array .int)) (by decide)
    have F83 : Fld Z h78 a78 "com/example/libpundit/libpundit/core/IntList" "size" "I" (.int (0 : Int32)) := D78 (Or.inl (hw _ (List.mem_of_getElem? (i := 19) rfl))) (ty := .int) (by decide)
    refine own_by st78 ?_
    show own_Go p e below (Q0 Z p1 p2 p3 p4 p5 p6 h0 n0) (own_Fr s room_1.cells room_1.slots) (T78.setTop (mkF m 57 #[.val (.int p1), .val (.int p2), .val (.int p3), .val (.int p4), .val (.int p5), .val (.int p6), .val (.int (2 : Int32)), .val (.int v59), .val (.ref a61), .unset, .unset, .unset] [(.ref a78)]))
    refine own_dup (pc' := 58) X78 hx rfl (hb hby at_57) rfl ?_
    obtain ⟨_, _, ⟨T84, L84, k84, n84⟩, -, X84, ⟨Lc84, hQ84, l84, y84, z84⟩, st84⟩ := X78.specialBack hx (y := (⟨"com/example/libpundit/libpundit/core/IntList", "<init>", "()V"⟩ : MethodName)) rfl hown (mvT hZ (hw _ (List.mem_of_getElem? (i := 5) rfl))) (mvT hZ (hw _ (List.mem_of_getElem? (i := 6) rfl))) (mvT hZ (hw _ (List.mem_of_getElem? (i := 7) rfl))) (by decide) (backOf (W := 1) (rmi l Z a0 hw [] a78 h78 n0 Z81 A78 F82 F83 fr78) hZ (hw _ (List.mem_of_getElem? (i := 7) rfl)) (hw _ (List.mem_of_getElem? (i := 4) rfl)) (by decide) (by decide)) (g := (mkF m 58 #[.val (.int p1), .val (.int p2), .val (.int p3), .val (.int p4), .val (.int p5), .val (.int p6), .val (.int (2 : Int32)), .val (.int v59), .val (.ref a61), .unset, .unset, .unset] [(.ref a78), (.ref a78)])) rfl (by rw [hml]; rfl) (Steps.refl _) (a := a78) (argsL := []) (rest := [(.ref a78)]) (lenOf pd_2 rfl) rfl (by show 2 * 0 + _ ≤ _; exact Nat.le_of_eq rfl) (hb hby at_58) (fun _ _ => ⟨rfl, e78, (by decide : 2 + 1 ≤ _), (by decide : 7 + 4 ≤ _)⟩)
    dsimp only [Pt.U, Pt.locs, Pt.cells, Pt.slots] at X84 l84 y84 z84 st84 hQ84
    subst l84 y84 z84
    obtain ⟨ar_84, kc_84, rfl, pp84, N84, Kc84, gc84_ar, Ec84_a1, Ec84_ar, Fc84_0, Fc84_1, Ac84_ar⟩ := hQ84
    have n85 : a78 ≠ ar_84 := Nat.ne_of_lt (Nat.lt_of_lt_of_le A78.lt gc84_ar)
    have n86 : a61 ≠ ar_84 := Nat.ne_of_lt (Nat.lt_of_lt_of_le A80.lt gc84_ar)
    have frar_84 : n0 ≤ ar_84 := Nat.le_trans Z81 gc84_ar
    have A87 : Arv Z T84.heap a61 cA61 .int (5 : Int32) [(.int p1), (.int p2), (.int p3), (.int p4), (.int p5)] (.int (0 : Int32)) := A80.keep Kc84 (ninS n79 nin0)
    have Z88 : n0 ≤ T84.heap.size := Nat.le_trans Z81 Kc84.1
    have N84a := Fr.app N77 N84
    refine own_via st84 ?_
    show own_Go p e below (Q0 Z p1 p2 p3 p4 p5 p6 h0 n0) (own_Fr s room_1.cells room_1.slots) (T84.setTop (mkF m 61 #[.val (.int p1), .val (.int p2), .val (.int p3), .val (.int p4), .val (.int p5), .val (.int p6), .val (.int (2 : Int32)), .val (.int v59), .val (.ref a61), .unset, .unset, .unset] [(.ref a78)]))
    refine own_astore (pc' := 63) X84 hx #[.val (.int p1), .val (.int p2), .val (.int p3), .val (.int p4), .val (.int p5), .val (.int p6), .val (.int (2 : Int32)), .val (.int v59), .val (.ref a61), .val (.ref a78), .unset, .unset] rfl rfl (hb hby at_61) rfl ?_
    refine own_aload (pc' := 65) X84 hx rfl rfl (hb hby at_63) rfl ?_
    refine own_iloadN (pc' := 66) X84 hx rfl (hb hby at_65) rfl ?_
    obtain ⟨cq89, kq89, q89a, q89b, q89c⟩ := isOf hZ rfl Ec84_a1
    obtain ⟨_, _, ⟨T89, L89, k89, n89⟩, -, X89, ⟨Lc89, hQ89, l89, y89, z89⟩, st89⟩ := X84.virtualBack hx (y := (⟨"com/example/libpundit/libpundit/core/IntList", "add", "(I)V"⟩ : MethodName)) (z := (⟨"com/example/libpundit/libpundit/core/IntList", "add", "(I)V"⟩ : MethodName)) hown (mvT hZ (hw _ (List.mem_of_getElem? (i := 13) rfl))) (mvT hZ (hw _ (List.mem_of_getElem? (i := 14) rfl))) (notFace_of_selects (args := #[]) (mvT hZ (hw _ (List.mem_of_getElem? (i := 16) rfl)))) (mvT hZ (hw _ (List.mem_of_getElem? (i := 16) rfl))) (mvT hZ (hw _ (List.mem_of_getElem? (i := 15) rfl))) (by decide) (backOf (W := 0) (rma0 l Z a0 hw [] a78 p1 ar_84 kc_84 T84.heap n0 Z88 Ec84_a1 Ec84_ar Fc84_0 Fc84_1 Ac84_ar fr78 frar_84 n85) hZ (hw _ (List.mem_of_getElem? (i := 17) rfl)) (hw _ (List.mem_of_getElem? (i := 4) rfl)) (by decide) (by decide)) q89a q89c (g := (mkF m 66 #[.val (.int p1), .val (.int p2), .val (.int p3), .val (.int p4), .val (.int p5), .val (.int p6), .val (.int (2 : Int32)), .val (.int v59), .val (.ref a61), .val (.ref a78), .unset, .unset] [(.int p1), (.ref a78)])) rfl (by rw [hml]; rfl) (Steps.refl _) (argsL := [(.int p1)]) (rest := []) (lenOf pd_3 rfl) rfl (by show 2 * 0 + _ ≤ _; exact Nat.le_of_eq rfl) (hb hby at_66) (fun _ _ => ⟨rfl, rfl, (by decide : 3 + 0 ≤ _), (by decide : 11 + 0 ≤ _)⟩)
    dsimp only [Pt.U, Pt.locs, Pt.cells, Pt.slots] at X89 l89 y89 z89 st89 hQ89
    subst l89 y89 z89
    obtain ⟨rfl, pp89, N89, Kc89, Ec89_a1, Ec89_ar, Fc89_0, Fc89_1, Ac89_ar⟩ := hQ89
    have A90 : Arv Z T89.heap a61 cA61 .int (5 : Int32) [(.int p1), (.int p2), (.int p3), (.int p4), (.int p5)] (.int (0 : Int32)) := A87.keep Kc89 (ninS n79 (ninS n86 nin0))
    have Z91 : n0 ≤ T89.heap.size := Nat.le_trans Z88 Kc89.1
    have N89a := Fr.app N84a N89
    refine own_via st89 ?_
    show own_Go p e below (Q0 Z p1 p2 p3 p4 p5 p6 h0 n0) (own_Fr s room_1.cells room_1.slots) (T89.setTop (mkF m 69 #[.val (.int p1), .val (.int p2), .val (.int p3), .val (.int p4), .val (.int p5), .val (.int p6), .val (.int (2 : Int32)), .val (.int v59), .val (.ref a61), .val (.ref a78), .unset, .unset] []))
    refine own_iload (pc' := 71) X89 hx rfl (hb hby at_69) rfl ?_
    refine own_iconst (pc' := 72) X89 hx (1 : Int32) (by decide) (hb hby at_71) rfl ?_
    refine own_icmpNo (pc' := 75) X89 hx (by decide) (hb hby at_72) rfl ?_
    refine own_aload (pc' := 77) X89 hx rfl rfl (hb hby at_75) rfl ?_
    refine own_iloadN (pc' := 78) X89 hx rfl (hb hby at_77) rfl ?_
    obtain ⟨cq92, kq92, q92a, q92b, q92c⟩ := isOf hZ rfl Ec89_a1
    obtain ⟨_, _, ⟨T92, L92, k92, n92⟩, -, X92, ⟨Lc92, hQ92, l92, y92, z92⟩, st92⟩ := X89.virtualBack hx (y := (⟨"com/example/libpundit/libpundit/core/IntList", "add", "(I)V"⟩ : MethodName)) (z := (⟨"com/example/libpundit/libpundit/core/IntList", "add", "(I)V"⟩ : MethodName)) hown (mvT hZ (hw _ (List.mem_of_getElem? (i := 13) rfl))) (mvT hZ (hw _ (List.mem_of_getElem? (i := 14) rfl))) (notFace_of_selects (args := #[]) (mvT hZ (hw _ (List.mem_of_getElem? (i := 16) rfl)))) (mvT hZ (hw _ (List.mem_of_getElem? (i := 16) rfl))) (mvT hZ (hw _ (List.mem_of_getElem? (i := 15) rfl))) (by decide) (backOf (W := 0) (rma1 l Z a0 hw [] a78 p2 ar_84 kc_84 p1 T89.heap n0 Z91 Ec89_a1 Ec89_ar Fc89_0 Fc89_1 Ac89_ar fr78 frar_84 n85) hZ (hw _ (List.mem_of_getElem? (i := 17) rfl)) (hw _ (List.mem_of_getElem? (i := 4) rfl)) (by decide) (by decide)) q92a q92c (g := (mkF m 78 #[.val (.int p1), .val (.int p2), .val (.int p3), .val (.int p4), .val (.int p5), .val (.int p6), .val (.int (2 : Int32)), .val (.int v59), .val (.ref a61), .val (.ref a78), .unset, .unset] [(.int p2), (.ref a78)])) rfl (by rw [hml]; rfl) (Steps.refl _) (argsL := [(.int p2)]) (rest := []) (lenOf pd_3 rfl) rfl (by show 2 * 0 + _ ≤ _; exact Nat.le_of_eq rfl) (hb hby at_78) (fun _ _ => ⟨rfl, rfl, (by decide : 3 + 0 ≤ _), (by decide : 11 + 0 ≤ _)⟩)
    dsimp only [Pt.U, Pt.locs, Pt.cells, Pt.slots] at X92 l92 y92 z92 st92 hQ92
    subst l92 y92 z92
    obtain ⟨rfl, pp92, N92, Kc92, Ec92_a1, Ec92_ar, Fc92_0, Fc92_1, Ac92_ar⟩ := hQ92
    have A93 : Arv Z T92.heap a61 cA61 .int (5 : Int32) [(.int p1), (.int p2), (.int p3), (.int p4), (.int p5)] (.int (0 : Int32)) := A90.keep Kc92 (ninS n79 (ninS n86 nin0))
    have Z94 : n0 ≤ T92.heap.size := Nat.le_trans Z91 Kc92.1
    have N92a := Fr.app N89a N92
    refine own_via st92 ?_
    show own_Go p e below (Q0 Z p1 p2 p3 p4 p5 p6 h0 n0) (own_Fr s room_1.cells room_1.slots) (T92.setTop (mkF m 81 #[.val (.int p1), .val (.int p2), .val (.int p3), .val (.int p4), .val (.int p5), .val (.int p6), .val (.int (2 : Int32)), .val (.int v59), .val (.ref a61), .val (.ref a78), .unset, .unset] []))
    refine own_iload (pc' := 83) X92 hx rfl (hb hby at_81) rfl ?_
    refine own_iconst (pc' := 84) X92 hx (2 : Int32) (by decide) (hb hby at_83) rfl ?_
    refine own_icmpYes (pc' := 93) X92 hx (hb hby at_84) (by decide) (by decide) (by decide) ?_
    refine own_iload (pc' := 95) X92 hx rfl (hb hby at_93) rfl ?_
    refine own_iconst (pc' := 96) X92 hx (3 : Int32) (by decide) (hb hby at_95) rfl ?_
    refine own_icmpYes (pc' := 105) X92 hx (hb hby at_96) (by decide) (by decide) (by decide) ?_
    refine own_iload (pc' := 107) X92 hx rfl (hb hby at_105) rfl ?_
    refine own_iconst (pc' := 108) X92 hx (4 : Int32) (by decide) (hb hby at_107) rfl ?_
    refine own_icmpYes (pc' := 118) X92 hx (hb hby at_108) (by decide) (by decide) (by decide) ?_
    have b95 : v59.toInt = 0 ∨ v59.toInt = 1 := by omega
    rcases b95 with b95 | b95
    · obtain rfl : v59 = (0 : Int32) := Int32.toInt_inj.mp b95
      have kz96 : (0 : Int32).toInt = 0 := by decide
      refine own_aload (pc' := 120) X92 hx rfl rfl (hb hby at_118) rfl ?_
      refine own_iload (pc' := 122) X92 hx rfl (hb hby at_120) rfl ?_
      obtain ⟨cq97, kq97, q97a, q97b, q97c⟩ := isOf hZ rfl Ec92_a1
      obtain ⟨_, _, ⟨T97, L97, k97, n97⟩, -, X97, ⟨Lc97, hQ97, l97, y97, z97⟩, st97⟩ := X92.virtualBack hx (y := (⟨"com/example/libpundit/libpundit/core/IntList", "get", "(I)I"⟩ : MethodName)) (z := (⟨"com/example/libpundit/libpundit/core/IntList", "get", "(I)I"⟩ : MethodName)) hown (mvT hZ (hw _ (List.mem_of_getElem? (i := 20) rfl))) (mvT hZ (hw _ (List.mem_of_getElem? (i := 21) rfl))) (notFace_of_selects (args := #[]) (mvT hZ (hw _ (List.mem_of_getElem? (i := 23) rfl)))) (mvT hZ (hw _ (List.mem_of_getElem? (i := 23) rfl))) (mvT hZ (hw _ (List.mem_of_getElem? (i := 22) rfl))) (by decide) (backOf (W := 0) (rmg0_2 l Z a0 hw [] a78 ar_84 kc_84 p1 p2 T92.heap n0 Z94 Fc92_0 Fc92_1 Ac92_ar) hZ (hw _ (List.mem_of_getElem? (i := 24) rfl)) (hw _ (List.mem_of_getElem? (i := 4) rfl)) (by decide) (by decide)) q97a q97c (g := (mkF m 122 #[.val (.int p1), .val (.int p2), .val (.int p3), .val (.int p4), .val (.int p5), .val (.int p6), .val (.int (2 : Int32)), .val (.int (0 : Int32)), .val (.ref a61), .val (.ref a78), .unset, .unset] [(.int (0 : Int32)), (.ref a78)])) rfl (by rw [hml]; rfl) (Steps.refl _) (argsL := [(.int (0 : Int32))]) (rest := []) (lenOf pd_5 rfl) rfl (by show 2 * 0 + _ ≤ _; exact Nat.le_of_eq rfl) (hb hby at_122) (fun _ _ => ⟨rfl, rfl, (by decide : 3 + 0 ≤ _), (by decide : 11 + 0 ≤ _)⟩)
      dsimp only [Pt.U, Pt.locs, Pt.cells, Pt.slots] at X97 l97 y97 z97 st97 hQ97
      subst l97 y97 z97
      obtain ⟨rfl, pp97, N97, e97⟩ := hQ97
      have N97a := Fr.app N92a N97
      refine own_via st97 ?_
      show own_Go p e below (Q0 Z p1 p2 p3 p4 p5 p6 h0 n0) (own_Fr s room_1.cells room_1.slots) (T97.setTop (mkF m 125 #[.val (.int p1), .val (.int p2), .val (.int p3), .val (.int p4), .val (.int p5), .val (.int p6), .val (.int (2 : Int32)), .val (.int (0 : Int32)), .val (.ref a61), .val (.ref a78), .unset, .unset] [(.int p1)]))
      refine own_istore (pc' := 127) X97 hx #[.val (.int p1), .val (.int p2), .val (.int p3), .val (.int p4), .val (.int p5), .val (.int p6), .val (.int (2 : Int32)), .val (.int (0 : Int32)), .val (.ref a61), .val (.ref a78), .val (.int p1), .unset] rfl (hb hby at_125) rfl ?_
      refine own_aload (pc' := 129) X97 hx rfl rfl (hb hby at_127) rfl ?_
      refine own_iload (pc' := 131) X97 hx rfl (hb hby at_129) rfl ?_
      refine own_iconst (pc' := 132) X97 hx (1 : Int32) (by decide) (hb hby at_131) rfl ?_
      refine own_isub (pc' := 133) X97 hx (z := (1 : Int32)) (by decide) (hb hby at_132) rfl ?_
      obtain ⟨cq98, kq98, q98a, q98b, q98c⟩ := isOf hZ e97 Ec92_a1
      obtain ⟨_, _, ⟨T98, L98, k98, n98⟩, -, X98, ⟨Lc98, hQ98, l98, y98, z98⟩, st98⟩ := X97.virtualBack hx (y := (⟨"com/example/libpundit/libpundit/core/IntList", "get", "(I)I"⟩ : MethodName)) (z := (⟨"com/example/libpundit/libpundit/core/IntList", "get", "(I)I"⟩ : MethodName)) hown (mvT hZ (hw _ (List.mem_of_getElem? (i := 20) rfl))) (mvT hZ (hw _ (List.mem_of_getElem? (i := 21) rfl))) (notFace_of_selects (args := #[]) (mvT hZ (hw _ (List.mem_of_getElem? (i := 23) rfl)))) (mvT hZ (hw _ (List.mem_of_getElem? (i := 23) rfl))) (mvT hZ (hw _ (List.mem_of_getElem? (i := 22) rfl))) (by decide) (backOf (W := 0) (rmg1_2 l Z a0 hw [] a78 ar_84 kc_84 p1 p2 T92.heap n0 Z94 Fc92_0 Fc92_1 Ac92_ar) hZ (hw _ (List.mem_of_getElem? (i := 24) rfl)) (hw _ (List.mem_of_getElem? (i := 4) rfl)) (by decide) (by decide)) q98a q98c (g := (mkF m 133 #[.val (.int p1), .val (.int p2), .val (.int p3), .val (.int p4), .val (.int p5), .val (.int p6), .val (.int (2 : Int32)), .val (.int (0 : Int32)), .val (.ref a61), .val (.ref a78), .val (.int p1), .unset] [(.int (1 : Int32)), (.ref a78)])) rfl (by rw [hml]; rfl) (Steps.refl _) (argsL := [(.int (1 : Int32))]) (rest := []) (lenOf pd_5 rfl) rfl (by show 2 * 0 + _ ≤ _; exact Nat.le_of_eq rfl) (hb hby at_133) (fun _ _ => ⟨rfl, e97, (by decide : 3 + 0 ≤ _), (by decide : 11 + 0 ≤ _)⟩)
      dsimp only [Pt.U, Pt.locs, Pt.cells, Pt.slots] at X98 l98 y98 z98 st98 hQ98
      subst l98 y98 z98
      obtain ⟨rfl, pp98, N98, e98⟩ := hQ98
      have N98a := Fr.app N97a N98
      refine own_via st98 ?_
      show own_Go p e below (Q0 Z p1 p2 p3 p4 p5 p6 h0 n0) (own_Fr s room_1.cells room_1.slots) (T98.setTop (mkF m 136 #[.val (.int p1), .val (.int p2), .val (.int p3), .val (.int p4), .val (.int p5), .val (.int p6), .val (.int (2 : Int32)), .val (.int (0 : Int32)), .val (.ref a61), .val (.ref a78), .val (.int p1), .unset] [(.int p2)]))
      refine own_istore (pc' := 138) X98 hx #[.val (.int p1), .val (.int p2), .val (.int p3), .val (.int p4), .val (.int p5), .val (.int p6), .val (.int (2 : Int32)), .val (.int (0 : Int32)), .val (.ref a61), .val (.ref a78), .val (.int p1), .val (.int p2)] rfl (hb hby at_136) rfl ?_
      refine own_iload (pc' := 140) X98 hx rfl (hb hby at_138) rfl ?_
      refine own_aload (pc' := 142) X98 hx rfl rfl (hb hby at_140) rfl ?_
      refine own_iload (pc' := 144) X98 hx rfl (hb hby at_142) rfl ?_
      obtain ⟨c99, B99, q99, s99, u99, H99, G99⟩ := id A93
      have i99 := inb_of s99 (j := (0 : Int32)) (by decide)
      refine own_by (X98.iaload hx (j := (0 : Int32)) (v := (.int p1)) (by rw [e98]; exact B99.1) (State.isArrayOf_alike hZ.alike B99.2.1) B99.2.2 i99 (H99.at i99 rfl) (g := (mkF m 144 #[.val (.int p1), .val (.int p2), .val (.int p3), .val (.int p4), .val (.int p5), .val (.int p6), .val (.int (2 : Int32)), .val (.int (0 : Int32)), .val (.ref a61), .val (.ref a78), .val (.int p1), .val (.int p2)] [(.int (0 : Int32)), (.ref a61), (.int p1)])) rfl rfl (hb hby at_144)) ?_
      show own_Go p e below (Q0 Z p1 p2 p3 p4 p5 p6 h0 n0) (own_Fr s room_1.cells room_1.slots) (T98.setTop (mkF m 145 #[.val (.int p1), .val (.int p2), .val (.int p3), .val (.int p4), .val (.int p5), .val (.int p6), .val (.int (2 : Int32)), .val (.int (0 : Int32)), .val (.ref a61), .val (.ref a78), .val (.int p1), .val (.int p2)] [(.int p1), (.int p1)]))
      have b100 : p1.toInt = p1.toInt := by omega
      refine own_icmpNo (pc' := 148) X98 hx (own_no_ne rfl rfl b100) (hb hby at_145) rfl ?_
      refine own_iload (pc' := 150) X98 hx rfl (hb hby at_148) rfl ?_
      refine own_aload (pc' := 152) X98 hx rfl rfl (hb hby at_150) rfl ?_
      refine own_iload (pc' := 154) X98 hx rfl (hb hby at_152) rfl ?_
      refine own_iconst (pc' := 155) X98 hx (1 : Int32) (by decide) (hb hby at_154) rfl ?_
      refine own_isub (pc' := 156) X98 hx (z := (1 : Int32)) (by decide) (hb hby at_155) rfl ?_
      obtain ⟨c101, B101, q101, s101, u101, H101, G101⟩ := id A93
      have i101 := inb_of s101 (j := (1 : Int32)) (by decide)
      refine own_by (X98.iaload hx (j := (1 : Int32)) (v := (.int p2)) (by rw [e98]; exact B101.1) (State.isArrayOf_alike hZ.alike B101.2.1) B101.2.2 i101 (H101.at i101 rfl) (g := (mkF m 156 #[.val (.int p1), .val (.int p2), .val (.int p3), .val (.int p4), .val (.int p5), .val (.int p6), .val (.int (2 : Int32)), .val (.int (0 : Int32)), .val (.ref a61), .val (.ref a78), .val (.int p1), .val (.int p2)] [(.int (1 : Int32)), (.ref a61), (.int p2)])) rfl rfl (hb hby at_156)) ?_
      show own_Go p e below (Q0 Z p1 p2 p3 p4 p5 p6 h0 n0) (own_Fr s room_1.cells room_1.slots) (T98.setTop (mkF m 157 #[.val (.int p1), .val (.int p2), .val (.int p3), .val (.int p4), .val (.int p5), .val (.int p6), .val (.int (2 : Int32)), .val (.int (0 : Int32)), .val (.ref a61), .val (.ref a78), .val (.int p1), .val (.int p2)] [(.int p2), (.int p2)]))
      have b102 : p2.toInt = p2.toInt := by omega
      refine own_icmpNo (pc' := 160) X98 hx (own_no_ne rfl rfl b102) (hb hby at_157) rfl ?_
      refine own_iconst (pc' := 161) X98 hx (1 : Int32) (by decide) (hb hby at_160) rfl ?_
      refine own_goto (pc' := 165) X98 hx (hb hby at_161) (by decide) (by decide) ?_
      refine own_ret X98 hx Bd.returns Bd.notSynchronized (Or.inl ⟨rfl, by simp, _, rfl⟩) (hb hby at_165) rfl (by decide) (by decide) ?_
      show Q0 Z p1 p2 p3 p4 p5 p6 h0 n0 _ T98.heap _
      rw [e98]
      exact ⟨rfl, N98a⟩
    · obtain rfl : v59 = (1 : Int32) := Int32.toInt_inj.mp b95
      have kz103 : (1 : Int32).toInt = 1 := by decide
      refine own_aload (pc' := 120) X92 hx rfl rfl (hb hby at_118) rfl ?_
      refine own_iload (pc' := 122) X92 hx rfl (hb hby at_120) rfl ?_
      obtain ⟨cq104, kq104, q104a, q104b, q104c⟩ := isOf hZ rfl Ec92_a1
      obtain ⟨_, _, ⟨T104, L104, k104, n104⟩, -, X104, ⟨Lc104, hQ104, l104, y104, z104⟩, st104⟩ := X92.virtualBack hx (y := (⟨"com/example/libpundit/libpundit/core/IntList", "get", "(I)I"⟩ : MethodName)) (z := (⟨"com/example/libpundit/libpundit/core/IntList", "get", "(I)I"⟩ : MethodName)) hown (mvT hZ (hw _ (List.mem_of_getElem? (i := 20) rfl))) (mvT hZ (hw _ (List.mem_of_getElem? (i := 21) rfl))) (notFace_of_selects (args := #[]) (mvT hZ (hw _ (List.mem_of_getElem? (i := 23) rfl)))) (mvT hZ (hw _ (List.mem_of_getElem? (i := 23) rfl))) (mvT hZ (hw _ (List.mem_of_getElem? (i := 22) rfl))) (by decide) (backOf (W := 0) (rmg1_2 l Z a0 hw [] a78 ar_84 kc_84 p1 p2 T92.heap n0 Z94 Fc92_0 Fc92_1 Ac92_ar) hZ (hw _ (List.mem_of_getElem? (i := 24) rfl)) (hw _ (List.mem_of_getElem? (i := 4) rfl)) (by decide) (by decide)) q104a q104c (g := (mkF m 122 #[.val (.int p1), .val (.int p2), .val (.int p3), .val (.int p4), .val (.int p5), .val (.int p6), .val (.int (2 : Int32)), .val (.int (1 : Int32)), .val (.ref a61), .val (.ref a78), .unset, .unset] [(.int (1 : Int32)), (.ref a78)])) rfl (by rw [hml]; rfl) (Steps.refl _) (argsL := [(.int (1 : Int32))]) (rest := []) (lenOf pd_5 rfl) rfl (by show 2 * 0 + _ ≤ _; exact Nat.le_of_eq rfl) (hb hby at_122) (fun _ _ => ⟨rfl, rfl, (by decide : 3 + 0 ≤ _), (by decide : 11 + 0 ≤ _)⟩)
      dsimp only [Pt.U, Pt.locs, Pt.cells, Pt.slots] at X104 l104 y104 z104 st104 hQ104
      subst l104 y104 z104
      obtain ⟨rfl, pp104, N104, e104⟩ := hQ104
      have N104a := Fr.app N92a N104
      refine own_via st104 ?_
      show own_Go p e below (Q0 Z p1 p2 p3 p4 p5 p6 h0 n0) (own_Fr s room_1.cells room_1.slots) (T104.setTop (mkF m 125 #[.val (.int p1), .val (.int p2), .val (.int p3), .val (.int p4), .val (.int p5), .val (.int p6), .val (.int (2 : Int32)), .val (.int (1 : Int32)), .val (.ref a61), .val (.ref a78), .unset, .unset] [(.int p2)]))
      refine own_istore (pc' := 127) X104 hx #[.val (.int p1), .val (.int p2), .val (.int p3), .val (.int p4), .val (.int p5), .val (.int p6), .val (.int (2 : Int32)), .val (.int (1 : Int32)), .val (.ref a61), .val (.ref a78), .val (.int p2), .unset] rfl (hb hby at_125) rfl ?_
      refine own_aload (pc' := 129) X104 hx rfl rfl (hb hby at_127) rfl ?_
      refine own_iload (pc' := 131) X104 hx rfl (hb hby at_129) rfl ?_
      refine own_iconst (pc' := 132) X104 hx (1 : Int32) (by decide) (hb hby at_131) rfl ?_
      refine own_isub (pc' := 133) X104 hx (z := (1 : Int32)) (by decide) (hb hby at_132) rfl ?_
      obtain ⟨cq105, kq105, q105a, q105b, q105c⟩ := isOf hZ e104 Ec92_a1
      obtain ⟨_, _, ⟨T105, L105, k105, n105⟩, -, X105, ⟨Lc105, hQ105, l105, y105, z105⟩, st105⟩ := X104.virtualBack hx (y := (⟨"com/example/libpundit/libpundit/core/IntList", "get", "(I)I"⟩ : MethodName)) (z := (⟨"com/example/libpundit/libpundit/core/IntList", "get", "(I)I"⟩ : MethodName)) hown (mvT hZ (hw _ (List.mem_of_getElem? (i := 20) rfl))) (mvT hZ (hw _ (List.mem_of_getElem? (i := 21) rfl))) (notFace_of_selects (args := #[]) (mvT hZ (hw _ (List.mem_of_getElem? (i := 23) rfl)))) (mvT hZ (hw _ (List.mem_of_getElem? (i := 23) rfl))) (mvT hZ (hw _ (List.mem_of_getElem? (i := 22) rfl))) (by decide) (backOf (W := 0) (rmg1_2 l Z a0 hw [] a78 ar_84 kc_84 p1 p2 T92.heap n0 Z94 Fc92_0 Fc92_1 Ac92_ar) hZ (hw _ (List.mem_of_getElem? (i := 24) rfl)) (hw _ (List.mem_of_getElem? (i := 4) rfl)) (by decide) (by decide)) q105a q105c (g := (mkF m 133 #[.val (.int p1), .val (.int p2), .val (.int p3), .val (.int p4), .val (.int p5), .val (.int p6), .val (.int (2 : Int32)), .val (.int (1 : Int32)), .val (.ref a61), .val (.ref a78), .val (.int p2), .unset] [(.int (1 : Int32)), (.ref a78)])) rfl (by rw [hml]; rfl) (Steps.refl _) (argsL := [(.int (1 : Int32))]) (rest := []) (lenOf pd_5 rfl) rfl (by show 2 * 0 + _ ≤ _; exact Nat.le_of_eq rfl) (hb hby at_133) (fun _ _ => ⟨rfl, e104, (by decide : 3 + 0 ≤ _), (by decide : 11 + 0 ≤ _)⟩)
      dsimp only [Pt.U, Pt.locs, Pt.cells, Pt.slots] at X105 l105 y105 z105 st105 hQ105
      subst l105 y105 z105
      obtain ⟨rfl, pp105, N105, e105⟩ := hQ105
      have N105a := Fr.app N104a N105
      refine own_via st105 ?_
      show own_Go p e below (Q0 Z p1 p2 p3 p4 p5 p6 h0 n0) (own_Fr s room_1.cells room_1.slots) (T105.setTop (mkF m 136 #[.val (.int p1), .val (.int p2), .val (.int p3), .val (.int p4), .val (.int p5), .val (.int p6), .val (.int (2 : Int32)), .val (.int (1 : Int32)), .val (.ref a61), .val (.ref a78), .val (.int p2), .unset] [(.int p2)]))
      refine own_istore (pc' := 138) X105 hx #[.val (.int p1), .val (.int p2), .val (.int p3), .val (.int p4), .val (.int p5), .val (.int p6), .val (.int (2 : Int32)), .val (.int (1 : Int32)), .val (.ref a61), .val (.ref a78), .val (.int p2), .val (.int p2)] rfl (hb hby at_136) rfl ?_
      refine own_iload (pc' := 140) X105 hx rfl (hb hby at_138) rfl ?_
      refine own_aload (pc' := 142) X105 hx rfl rfl (hb hby at_140) rfl ?_
      refine own_iload (pc' := 144) X105 hx rfl (hb hby at_142) rfl ?_
      obtain ⟨c106, B106, q106, s106, u106, H106, G106⟩ := id A93
      have i106 := inb_of s106 (j := (1 : Int32)) (by decide)
      refine own_by (X105.iaload hx (j := (1 : Int32)) (v := (.int p2)) (by rw [e105]; exact B106.1) (State.isArrayOf_alike hZ.alike B106.2.1) B106.2.2 i106 (H106.at i106 rfl) (g := (mkF m 144 #[.val (.int p1), .val (.int p2), .val (.int p3), .val (.int p4), .val (.int p5), .val (.int p6), .val (.int (2 : Int32)), .val (.int (1 : Int32)), .val (.ref a61), .val (.ref a78), .val (.int p2), .val (.int p2)] [(.int (1 : Int32)), (.ref a61), (.int p2)])) rfl rfl (hb hby at_144)) ?_
      show own_Go p e below (Q0 Z p1 p2 p3 p4 p5 p6 h0 n0) (own_Fr s room_1.cells room_1.slots) (T105.setTop (mkF m 145 #[.val (.int p1), .val (.int p2), .val (.int p3), .val (.int p4), .val (.int p5), .val (.int p6), .val (.int (2 : Int32)), .val (.int (1 : Int32)), .val (.ref a61), .val (.ref a78), .val (.int p2), .val (.int p2)] [(.int p2), (.int p2)]))
      have b107 : p2.toInt = p2.toInt := by omega
      refine own_icmpNo (pc' := 148) X105 hx (own_no_ne rfl rfl b107) (hb hby at_145) rfl ?_
      refine own_iload (pc' := 150) X105 hx rfl (hb hby at_148) rfl ?_
      refine own_aload (pc' := 152) X105 hx rfl rfl (hb hby at_150) rfl ?_
      refine own_iload (pc' := 154) X105 hx rfl (hb hby at_152) rfl ?_
      refine own_iconst (pc' := 155) X105 hx (1 : Int32) (by decide) (hb hby at_154) rfl ?_
      refine own_isub (pc' := 156) X105 hx (z := (1 : Int32)) (by decide) (hb hby at_155) rfl ?_
      obtain ⟨c108, B108, q108, s108, u108, H108, G108⟩ := id A93
      have i108 := inb_of s108 (j := (1 : Int32)) (by decide)
      refine own_by (X105.iaload hx (j := (1 : Int32)) (v := (.int p2)) (by rw [e105]; exact B108.1) (State.isArrayOf_alike hZ.alike B108.2.1) B108.2.2 i108 (H108.at i108 rfl) (g := (mkF m 156 #[.val (.int p1), .val (.int p2), .val (.int p3), .val (.int p4), .val (.int p5), .val (.int p6), .val (.int (2 : Int32)), .val (.int (1 : Int32)), .val (.ref a61), .val (.ref a78), .val (.int p2), .val (.int p2)] [(.int (1 : Int32)), (.ref a61), (.int p2)])) rfl rfl (hb hby at_156)) ?_
      show own_Go p e below (Q0 Z p1 p2 p3 p4 p5 p6 h0 n0) (own_Fr s room_1.cells room_1.slots) (T105.setTop (mkF m 157 #[.val (.int p1), .val (.int p2), .val (.int p3), .val (.int p4), .val (.int p5), .val (.int p6), .val (.int (2 : Int32)), .val (.int (1 : Int32)), .val (.ref a61), .val (.ref a78), .val (.int p2), .val (.int p2)] [(.int p2), (.int p2)]))
      have b109 : p2.toInt = p2.toInt := by omega
      refine own_icmpNo (pc' := 160) X105 hx (own_no_ne rfl rfl b109) (hb hby at_157) rfl ?_
      refine own_iconst (pc' := 161) X105 hx (1 : Int32) (by decide) (hb hby at_160) rfl ?_
      refine own_goto (pc' := 165) X105 hx (hb hby at_161) (by decide) (by decide) ?_
      refine own_ret X105 hx Bd.returns Bd.notSynchronized (Or.inl ⟨rfl, by simp, _, rfl⟩) (hb hby at_165) rfl (by decide) (by decide) ?_
      show Q0 Z p1 p2 p3 p4 p5 p6 h0 n0 _ T105.heap _
      rw [e105]
      exact ⟨rfl, N105a⟩
  · obtain rfl : v5 = (3 : Int32) := Int32.toInt_inj.mp b7
    have kz110 : (3 : Int32).toInt = 3 := by decide
    refine own_iload (pc' := 13) X0 hx rfl (hb hby at_11) rfl ?_
    refine own_iconst (pc' := 14) X0 hx (3 : Int32) (by decide) (hb hby at_13) rfl ?_
    obtain ⟨v111, hv111⟩ : ∃ z, (p6.toUInt32 >>> ((3 : Int32) &&& 31).toUInt32).toInt32 = z := ⟨_, rfl⟩
    have f112 : v111.toInt = (p6.toInt % 4294967296) / 8 := by rw [← hv111]; exact c_iushr p6 (3 : Int32) 3 (by decide) (by decide)
    refine own_iushr (pc' := 15) X0 hx (z := v111) hv111 (hb hby at_14) rfl ?_
    refine own_ldcInt (pc' := 17) X0 hx hZ hown (hw _ (List.mem_of_getElem? (i := 0) rfl)) (hb hby at_15) rfl ?_
    obtain ⟨v113, hv113⟩ : ∃ z, v111 &&& (2147483647 : Int32) = z := ⟨_, rfl⟩
    have f114 : v113.toInt = v111.toInt % 2147483648 := by rw [← hv113]; exact c_mask v111 (2147483647 : Int32) 31 (by decide) (by decide)
    refine own_iand (pc' := 18) X0 hx (z := v113) hv113 (hb hby at_17) rfl ?_
    refine own_iload (pc' := 20) X0 hx rfl (hb hby at_18) rfl ?_
    obtain ⟨v115, hv115⟩ : ∃ z, v113 % (3 : Int32) = z := ⟨_, rfl⟩
    have f116 : v115.toInt = v113.toInt % 3 := by rw [← hv115]; exact (c_irem v113 (3 : Int32) 3 (by decide)).1 (by omega)
    refine own_irem (pc' := 21) X0 hx (z := v115) (by decide) hv115 (hb hby at_20) rfl ?_
    refine own_istore (pc' := 23) X0 hx #[.val (.int p1), .val (.int p2), .val (.int p3), .val (.int p4), .val (.int p5), .val (.int p6), .val (.int (3 : Int32)), .val (.int v115), .unset, .unset, .unset, .unset] rfl (hb hby at_21) rfl ?_
    refine own_iconst (pc' := 24) X0 hx (5 : Int32) (by decide) (hb hby at_23) rfl ?_
    obtain ⟨T117, h117, cA117, X117, e117, E117, Ar117, st117⟩ := newP X0 hx hZ (hw _ (List.mem_of_getElem? (i := 1) rfl)) e0 (g := (mkF m 24 #[.val (.int p1), .val (.int p2), .val (.int p3), .val (.int p4), .val (.int p5), .val (.int p6), .val (.int (3 : Int32)), .val (.int v115), .unset, .unset, .unset, .unset] [(.int (5 : Int32))])) rfl (hb hby at_24) (n := (5 : Int32)) rfl (by decide) (cap := 5) (by decide) (by decide) (by decide) (by decide)
    obtain ⟨a117, ga117⟩ : ∃ z, z = h0.size := ⟨_, rfl⟩
    rw [← ga117] at Ar117 st117
    have fr117 : n0 ≤ a117 := Nat.le_trans Z0 (Nat.le_of_eq ga117.symm)
    have Z118 : n0 ≤ h117.size := Nat.le_trans Z0 E117.1
    have A117 : Arv Z h117 a117 cA117 .int (5 : Int32) [(.int (0 : Int32)), (.int (0 : Int32)), (.int (0 : Int32)), (.int (0 : Int32)), (.int (0 : Int32))] (.int (0 : Int32)) := (Arv.new Ar117 (by decide)).pad (fun i => pad_rep [] (.int (0 : Int32)) 5 i)
    refine own_by st117 ?_
    show own_Go p e below (Q0 Z p1 p2 p3 p4 p5 p6 h0 n0) (own_Fr s room_1.cells room_1.slots) (T117.setTop (mkF m 26 #[.val (.int p1), .val (.int p2), .val (.int p3), .val (.int p4), .val (.int p5), .val (.int p6), .val (.int (3 : Int32)), .val (.int v115), .unset, .unset, .unset, .unset] [(.ref a117)]))
    refine own_astore (pc' := 28) X117 hx #[.val (.int p1), .val (.int p2), .val (.int p3), .val (.int p4), .val (.int p5), .val (.int p6), .val (.int (3 : Int32)), .val (.int v115), .val (.ref a117), .unset, .unset, .unset] rfl rfl (hb hby at_26) rfl ?_
    refine own_aload (pc' := 30) X117 hx rfl rfl (hb hby at_28) rfl ?_
    refine own_iconst (pc' := 31) X117 hx (0 : Int32) (by decide) (hb hby at_30) rfl ?_
    refine own_iloadN (pc' := 32) X117 hx rfl (hb hby at_31) rfl ?_
    obtain ⟨c119, B119, q119, s119, u119, H119, G119⟩ := id A117
    obtain ⟨T119, h119, X119, e119, W119, st119⟩ := stI X117 hx hZ e117 B119 (j := (0 : Int32)) (x := p1) (inb_of s119 (by decide)) (g := (mkF m 32 #[.val (.int p1), .val (.int p2), .val (.int p3), .val (.int p4), .val (.int p5), .val (.int p6), .val (.int (3 : Int32)), .val (.int v115), .val (.ref a117), .unset, .unset, .unset] [(.int p1), (.int (0 : Int32)), (.ref a117)])) rfl rfl (hb hby at_32)
    have A119 : Arv Z h119 a117 cA117 .int (5 : Int32) [(.int p1), (.int (0 : Int32)), (.int (0 : Int32)), (.int (0 : Int32)), (.int (0 : Int32))] (.int (0 : Int32)) := Arv.set B119 q119 s119 u119 H119 G119 rfl W119 0 (by decide) (by simp)
    have Z120 : n0 ≤ h119.size := Nat.le_trans Z118 (Nat.le_of_eq W119.size.symm)
    have N121 := Fr.snoc X119 N0 fr117
    refine own_by st119 ?_
    show own_Go p e below (Q0 Z p1 p2 p3 p4 p5 p6 h0 n0) (own_Fr s room_1.cells room_1.slots) (T119.setTop (mkF m 33 #[.val (.int p1), .val (.int p2), .val (.int p3), .val (.int p4), .val (.int p5), .val (.int p6), .val (.int (3 : Int32)), .val (.int v115), .val (.ref a117), .unset, .unset, .unset] []))
    refine own_aload (pc' := 35) X119 hx rfl rfl (hb hby at_33) rfl ?_
    refine own_iconst (pc' := 36) X119 hx (1 : Int32) (by decide) (hb hby at_35) rfl ?_
    refine own_iloadN (pc' := 37) X119 hx rfl (hb hby at_36) rfl ?_
    obtain ⟨c122, B122, q122, s122, u122, H122, G122⟩ := id A119
    obtain ⟨T122, h122, X122, e122, W122, st122⟩ := stI X119 hx hZ e119 B122 (j := (1 : Int32)) (x := p2) (inb_of s122 (by decide)) (g := (mkF m 37 #[.val (.int p1), .val (.int p2), .val (.int p3), .val (.int p4), .val (.int p5), .val (.int p6), .val (.int (3 : Int32)), .val (.int v115), .val (.ref a117), .unset, .unset, .unset] [(.int p2), (.int (1 : Int32)), (.ref a117)])) rfl rfl (hb hby at_37)
    have A122 : Arv Z h122 a117 cA117 .int (5 : Int32) [(.int p1), (.int p2), (.int (0 : Int32)), (.int (0 : Int32)), (.int (0 : Int32))] (.int (0 : Int32)) := Arv.set B122 q122 s122 u122 H122 G122 rfl W122 1 (by decide) (by simp)
    have Z123 : n0 ≤ h122.size := Nat.le_trans Z120 (Nat.le_of_eq W122.size.symm)
    have N124 := Fr.snoc X122 N121 fr117
    refine own_by st122 ?_
    show own_Go p e below (Q0 Z p1 p2 p3 p4 p5 p6 h0 n0) (own_Fr s room_1.cells room_1.slots) (T122.setTop (mkF m 38 #[.val (.int p1), .val (.int p2), .val (.int p3), .val (.int p4), .val (.int p5), .val (.int p6), .val (.int (3 : Int32)), .val (.int v115), .val (.ref a117), .unset, .unset, .unset] []))
    refine own_aload (pc' := 40) X122 hx rfl rfl (hb hby at_38) rfl ?_
    refine own_iconst (pc' := 41) X122 hx (2 : Int32) (by decide) (hb hby at_40) rfl ?_
    refine own_iloadN (pc' := 42) X122 hx rfl (hb hby at_41) rfl ?_
    obtain ⟨c125, B125, q125, s125, u125, H125, G125⟩ := id A122
    obtain ⟨T125, h125, X125, e125, W125, st125⟩ := stI X122 hx hZ e122 B125 (j := (2 : Int32)) (x := p3) (inb_of s125 (by decide)) (g := (mkF m 42 #[.val (.int p1), .val (.int p2), .val (.int p3), .val (.int p4), .val (.int p5), .val (.int p6), .val (.int (3 : Int32)), .val (.int v115), .val (.ref a117), .unset, .unset, .unset] [(.int p3), (.int (2 : Int32)), (.ref a117)])) rfl rfl (hb hby at_42)
    have A125 : Arv Z h125 a117 cA117 .int (5 : Int32) [(.int p1), (.int p2), (.int p3), (.int (0 : Int32)), (.int (0 : Int32))] (.int (0 : Int32)) := Arv.set B125 q125 s125 u125 H125 G125 rfl W125 2 (by decide) (by simp)
    have Z126 : n0 ≤ h125.size := Nat.le_trans Z123 (Nat.le_of_eq W125.size.symm)
    have N127 := Fr.snoc X125 N124 fr117
    refine own_by st125 ?_
    show own_Go p e below (Q0 Z p1 p2 p3 p4 p5 p6 h0 n0) (own_Fr s room_1.cells room_1.slots) (T125.setTop (mkF m 43 #[.val (.int p1), .val (.int p2), .val (.int p3), .val (.int p4), .val (.int p5), .val (.int p6), .val (.int (3 : Int32)), .val (.int v115), .val (.ref a117), .unset, .unset, .unset] []))
    refine own_aload (pc' := 45) X125 hx rfl rfl (hb hby at_43) rfl ?_
    refine own_iconst (pc' := 46) X125 hx (3 : Int32) (by decide) (hb hby at_45) rfl ?_
    refine own_iloadN (pc' := 47) X125 hx rfl (hb hby at_46) rfl ?_
    obtain ⟨c128, B128, q128, s128, u128, H128, G128⟩ := id A125
    obtain ⟨T128, h128, X128, e128, W128, st128⟩ := stI X125 hx hZ e125 B128 (j := (3 : Int32)) (x := p4) (inb_of s128 (by decide)) (g := (mkF m 47 #[.val (.int p1), .val (.int p2), .val (.int p3), .val (.int p4), .val (.int p5), .val (.int p6), .val (.int (3 : Int32)), .val (.int v115), .val (.ref a117), .unset, .unset, .unset] [(.int p4), (.int (3 : Int32)), (.ref a117)])) rfl rfl (hb hby at_47)
    have A128 : Arv Z h128 a117 cA117 .int (5 : Int32) [(.int p1), (.int p2), (.int p3), (.int p4), (.int (0 : Int32))] (.int (0 : Int32)) := Arv.set B128 q128 s128 u128 H128 G128 rfl W128 3 (by decide) (by simp)
    have Z129 : n0 ≤ h128.size := Nat.le_trans Z126 (Nat.le_of_eq W128.size.symm)
    have N130 := Fr.snoc X128 N127 fr117
    refine own_by st128 ?_
    show own_Go p e below (Q0 Z p1 p2 p3 p4 p5 p6 h0 n0) (own_Fr s room_1.cells room_1.slots) (T128.setTop (mkF m 48 #[.val (.int p1), .val (.int p2), .val (.int p3), .val (.int p4), .val (.int p5), .val (.int p6), .val (.int (3 : Int32)), .val (.int v115), .val (.ref a117), .unset, .unset, .unset] []))
    refine own_aload (pc' := 50) X128 hx rfl rfl (hb hby at_48) rfl ?_
    refine own_iconst (pc' := 51) X128 hx (4 : Int32) (by decide) (hb hby at_50) rfl ?_
    refine own_iload (pc' := 53) X128 hx rfl (hb hby at_51) rfl ?_
    obtain ⟨c131, B131, q131, s131, u131, H131, G131⟩ := id A128
    obtain ⟨T131, h131, X131, e131, W131, st131⟩ := stI X128 hx hZ e128 B131 (j := (4 : Int32)) (x := p5) (inb_of s131 (by decide)) (g := (mkF m 53 #[.val (.int p1), .val (.int p2), .val (.int p3), .val (.int p4), .val (.int p5), .val (.int p6), .val (.int (3 : Int32)), .val (.int v115), .val (.ref a117), .unset, .unset, .unset] [(.int p5), (.int (4 : Int32)), (.ref a117)])) rfl rfl (hb hby at_53)
    have A131 : Arv Z h131 a117 cA117 .int (5 : Int32) [(.int p1), (.int p2), (.int p3), (.int p4), (.int p5)] (.int (0 : Int32)) := Arv.set B131 q131 s131 u131 H131 G131 rfl W131 4 (by decide) (by simp)
    have Z132 : n0 ≤ h131.size := Nat.le_trans Z129 (Nat.le_of_eq W131.size.symm)
    have N133 := Fr.snoc X131 N130 fr117
    refine own_by st131 ?_
    show own_Go p e below (Q0 Z p1 p2 p3 p4 p5 p6 h0 n0) (own_Fr s room_1.cells room_1.slots) (T131.setTop (mkF m 54 #[.val (.int p1), .val (.int p2), .val (.int p3), .val (.int p4), .val (.int p5), .val (.int p6), .val (.int (3 : Int32)), .val (.int v115), .val (.ref a117), .unset, .unset, .unset] []))
    obtain ⟨T134, h134, X134, e134, E134, A134, D134, -, st134⟩ := newO X131 hx hZ hown (hw _ (List.mem_of_getElem? (i := 2) rfl)) (hw _ (List.mem_of_getElem? (i := 3) rfl)) (hw _ (List.mem_of_getElem? (i := 4) rfl)) e131 (g := (mkF m 54 #[.val (.int p1), .val (.int p2), .val (.int p3), .val (.int p4), .val (.int p5), .val (.int p6), .val (.int (3 : Int32)), .val (.int v115), .val (.ref a117), .unset, .unset, .unset] [])) rfl (hb hby at_54) (by decide) (by decide)
    obtain ⟨a134, ga134⟩ : ∃ z, z = h131.size := ⟨_, rfl⟩
    rw [← ga134] at A134 D134 st134
    have n135 : a117 ≠ a134 := Nat.ne_of_lt (ga134.symm ▸ A131.lt)
    have A136 : Arv Z h134 a117 cA117 .int (5 : Int32) [(.int p1), (.int p2), (.int p3), (.int p4), (.int p5)] (.int (0 : Int32)) := A131.ext E134
    have fr134 : n0 ≤ a134 := Nat.le_trans Z132 (Nat.le_of_eq ga134.symm)
    have Z137 : n0 ≤ h134.size := Nat.le_trans Z132 E134.1
    have F138 : Fld Z h134 a134 "com/example/libpundit/libpundit/core/IntList" "values" "[I" .null := D134 (Or.inl (hw _ (List.mem_of_getElem? (i := 12) rfl))) (ty := (.array .int)) (by decide)
    have F139 : Fld Z h134 a134 "com/example/libpundit/libpundit/core/IntList" "size" "I" (.int (0 : Int32)) := D134 (Or.inl (hw _ (List.mem_of_getElem? (i := 19) rfl))) (ty := .int) (by decide)
    refine own_by st134 ?_
    show own_Go p e below (Q0 Z p1 p2 p3 p4 p5 p6 h0 n0) (own_Fr s room_1.cells room_1.slots) (T134.setTop (mkF m 57 #[.val (.int p1), .val (.int p2), .val (.int p3), .val (.int p4), .val (.int p5), .val (.int p6), .val (.int (3 : Int32)), .val (.int v115), .val (.ref a117), .unset, .unset, .unset] [(.ref a134)]))
    refine own_dup (pc' := 58) X134 hx rfl (hb hby at_57) rfl ?_
    obtain ⟨_, _, ⟨T140, L140, k140, n140⟩, -, X140, ⟨Lc140, hQ140, l140, y140, z140⟩, st140⟩ := X134.specialBack hx (y := (⟨"com/example/libpundit/libpundit/core/IntList", "<init>", "()V"⟩ : MethodName)) rfl hown (mvT hZ (hw _ (List.mem_of_getElem? (i := 5) rfl))) (mvT hZ (hw _ (List.mem_of_getElem? (i := 6) rfl))) (mvT hZ (hw _ (List.mem_of_getElem? (i := 7) rfl))) (by decide) (backOf (W := 1) (rmi l Z a0 hw [] a134 h134 n0 Z137 A134 F138 F139 fr134) hZ (hw _ (List.mem_of_getElem? (i := 7) rfl)) (hw _ (List.mem_of_getElem? (i := 4) rfl)) (by decide) (by decide)) (g := (mkF m 58 #[.val (.int p1), .val (.int p2), .val (.int p3), .val (.int p4), .val (.int p5), .val (.int p6), .val (.int (3 : Int32)), .val (.int v115), .val (.ref a117), .unset, .unset, .unset] [(.ref a134), (.ref a134)])) rfl (by rw [hml]; rfl) (Steps.refl _) (a := a134) (argsL := []) (rest := [(.ref a134)]) (lenOf pd_2 rfl) rfl (by show 2 * 0 + _ ≤ _; exact Nat.le_of_eq rfl) (hb hby at_58) (fun _ _ => ⟨rfl, e134, (by decide : 2 + 1 ≤ _), (by decide : 7 + 4 ≤ _)⟩)
    dsimp only [Pt.U, Pt.locs, Pt.cells, Pt.slots] at X140 l140 y140 z140 st140 hQ140
    subst l140 y140 z140
    obtain ⟨ar_140, kc_140, rfl, pp140, N140, Kc140, gc140_ar, Ec140_a1, Ec140_ar, Fc140_0, Fc140_1, Ac140_ar⟩ := hQ140
    have n141 : a134 ≠ ar_140 := Nat.ne_of_lt (Nat.lt_of_lt_of_le A134.lt gc140_ar)
    have n142 : a117 ≠ ar_140 := Nat.ne_of_lt (Nat.lt_of_lt_of_le A136.lt gc140_ar)
    have frar_140 : n0 ≤ ar_140 := Nat.le_trans Z137 gc140_ar
    have A143 : Arv Z T140.heap a117 cA117 .int (5 : Int32) [(.int p1), (.int p2), (.int p3), (.int p4), (.int p5)] (.int (0 : Int32)) := A136.keep Kc140 (ninS n135 nin0)
    have Z144 : n0 ≤ T140.heap.size := Nat.le_trans Z137 Kc140.1
    have N140a := Fr.app N133 N140
    refine own_via st140 ?_
    show own_Go p e below (Q0 Z p1 p2 p3 p4 p5 p6 h0 n0) (own_Fr s room_1.cells room_1.slots) (T140.setTop (mkF m 61 #[.val (.int p1), .val (.int p2), .val (.int p3), .val (.int p4), .val (.int p5), .val (.int p6), .val (.int (3 : Int32)), .val (.int v115), .val (.ref a117), .unset, .unset, .unset] [(.ref a134)]))
    refine own_astore (pc' := 63) X140 hx #[.val (.int p1), .val (.int p2), .val (.int p3), .val (.int p4), .val (.int p5), .val (.int p6), .val (.int (3 : Int32)), .val (.int v115), .val (.ref a117), .val (.ref a134), .unset, .unset] rfl rfl (hb hby at_61) rfl ?_
    refine own_aload (pc' := 65) X140 hx rfl rfl (hb hby at_63) rfl ?_
    refine own_iloadN (pc' := 66) X140 hx rfl (hb hby at_65) rfl ?_
    obtain ⟨cq145, kq145, q145a, q145b, q145c⟩ := isOf hZ rfl Ec140_a1
    obtain ⟨_, _, ⟨T145, L145, k145, n145⟩, -, X145, ⟨Lc145, hQ145, l145, y145, z145⟩, st145⟩ := X140.virtualBack hx (y := (⟨"com/example/libpundit/libpundit/core/IntList", "add", "(I)V"⟩ : MethodName)) (z := (⟨"com/example/libpundit/libpundit/core/IntList", "add", "(I)V"⟩ : MethodName)) hown (mvT hZ (hw _ (List.mem_of_getElem? (i := 13) rfl))) (mvT hZ (hw _ (List.mem_of_getElem? (i := 14) rfl))) (notFace_of_selects (args := #[]) (mvT hZ (hw _ (List.mem_of_getElem? (i := 16) rfl)))) (mvT hZ (hw _ (List.mem_of_getElem? (i := 16) rfl))) (mvT hZ (hw _ (List.mem_of_getElem? (i := 15) rfl))) (by decide) (backOf (W := 0) (rma0 l Z a0 hw [] a134 p1 ar_140 kc_140 T140.heap n0 Z144 Ec140_a1 Ec140_ar Fc140_0 Fc140_1 Ac140_ar fr134 frar_140 n141) hZ (hw _ (List.mem_of_getElem? (i := 17) rfl)) (hw _ (List.mem_of_getElem? (i := 4) rfl)) (by decide) (by decide)) q145a q145c (g := (mkF m 66 #[.val (.int p1), .val (.int p2), .val (.int p3), .val (.int p4), .val (.int p5), .val (.int p6), .val (.int (3 : Int32)), .val (.int v115), .val (.ref a117), .val (.ref a134), .unset, .unset] [(.int p1), (.ref a134)])) rfl (by rw [hml]; rfl) (Steps.refl _) (argsL := [(.int p1)]) (rest := []) (lenOf pd_3 rfl) rfl (by show 2 * 0 + _ ≤ _; exact Nat.le_of_eq rfl) (hb hby at_66) (fun _ _ => ⟨rfl, rfl, (by decide : 3 + 0 ≤ _), (by decide : 11 + 0 ≤ _)⟩)
    dsimp only [Pt.U, Pt.locs, Pt.cells, Pt.slots] at X145 l145 y145 z145 st145 hQ145
    subst l145 y145 z145
    obtain ⟨rfl, pp145, N145, Kc145, Ec145_a1, Ec145_ar, Fc145_0, Fc145_1, Ac145_ar⟩ := hQ145
    have A146 : Arv Z T145.heap a117 cA117 .int (5 : Int32) [(.int p1), (.int p2), (.int p3), (.int p4), (.int p5)] (.int (0 : Int32)) := A143.keep Kc145 (ninS n135 (ninS n142 nin0))
    have Z147 : n0 ≤ T145.heap.size := Nat.le_trans Z144 Kc145.1
    have N145a := Fr.app N140a N145
    refine own_via st145 ?_
    show own_Go p e below (Q0 Z p1 p2 p3 p4 p5 p6 h0 n0) (own_Fr s room_1.cells room_1.slots) (T145.setTop (mkF m 69 #[.val (.int p1), .val (.int p2), .val (.int p3), .val (.int p4), .val (.int p5), .val (.int p6), .val (.int (3 : Int32)), .val (.int v115), .val (.ref a117), .val (.ref a134), .unset, .unset] []))
    refine own_iload (pc' := 71) X145 hx rfl (hb hby at_69) rfl ?_
    refine own_iconst (pc' := 72) X145 hx (1 : Int32) (by decide) (hb hby at_71) rfl ?_
    refine own_icmpNo (pc' := 75) X145 hx (by decide) (hb hby at_72) rfl ?_
    refine own_aload (pc' := 77) X145 hx rfl rfl (hb hby at_75) rfl ?_
    refine own_iloadN (pc' := 78) X145 hx rfl (hb hby at_77) rfl ?_
    obtain ⟨cq148, kq148, q148a, q148b, q148c⟩ := isOf hZ rfl Ec145_a1
    obtain ⟨_, _, ⟨T148, L148, k148, n148⟩, -, X148, ⟨Lc148, hQ148, l148, y148, z148⟩, st148⟩ := X145.virtualBack hx (y := (⟨"com/example/libpundit/libpundit/core/IntList", "add", "(I)V"⟩ : MethodName)) (z := (⟨"com/example/libpundit/libpundit/core/IntList", "add", "(I)V"⟩ : MethodName)) hown (mvT hZ (hw _ (List.mem_of_getElem? (i := 13) rfl))) (mvT hZ (hw _ (List.mem_of_getElem? (i := 14) rfl))) (notFace_of_selects (args := #[]) (mvT hZ (hw _ (List.mem_of_getElem? (i := 16) rfl)))) (mvT hZ (hw _ (List.mem_of_getElem? (i := 16) rfl))) (mvT hZ (hw _ (List.mem_of_getElem? (i := 15) rfl))) (by decide) (backOf (W := 0) (rma1 l Z a0 hw [] a134 p2 ar_140 kc_140 p1 T145.heap n0 Z147 Ec145_a1 Ec145_ar Fc145_0 Fc145_1 Ac145_ar fr134 frar_140 n141) hZ (hw _ (List.mem_of_getElem? (i := 17) rfl)) (hw _ (List.mem_of_getElem? (i := 4) rfl)) (by decide) (by decide)) q148a q148c (g := (mkF m 78 #[.val (.int p1), .val (.int p2), .val (.int p3), .val (.int p4), .val (.int p5), .val (.int p6), .val (.int (3 : Int32)), .val (.int v115), .val (.ref a117), .val (.ref a134), .unset, .unset] [(.int p2), (.ref a134)])) rfl (by rw [hml]; rfl) (Steps.refl _) (argsL := [(.int p2)]) (rest := []) (lenOf pd_3 rfl) rfl (by show 2 * 0 + _ ≤ _; exact Nat.le_of_eq rfl) (hb hby at_78) (fun _ _ => ⟨rfl, rfl, (by decide : 3 + 0 ≤ _), (by decide : 11 + 0 ≤ _)⟩)
    dsimp only [Pt.U, Pt.locs, Pt.cells, Pt.slots] at X148 l148 y148 z148 st148 hQ148
    subst l148 y148 z148
    obtain ⟨rfl, pp148, N148, Kc148, Ec148_a1, Ec148_ar, Fc148_0, Fc148_1, Ac148_ar⟩ := hQ148
    have A149 : Arv Z T148.heap a117 cA117 .int (5 : Int32) [(.int p1), (.int p2), (.int p3), (.int p4), (.int p5)] (.int (0 : Int32)) := A146.keep Kc148 (ninS n135 (ninS n142 nin0))
    have Z150 : n0 ≤ T148.heap.size := Nat.le_trans Z147 Kc148.1
    have N148a := Fr.app N145a N148
    refine own_via st148 ?_
    show own_Go p e below (Q0 Z p1 p2 p3 p4 p5 p6 h0 n0) (own_Fr s room_1.cells room_1.slots) (T148.setTop (mkF m 81 #[.val (.int p1), .val (.int p2), .val (.int p3), .val (.int p4), .val (.int p5), .val (.int p6), .val (.int (3 : Int32)), .val (.int v115), .val (.ref a117), .val (.ref a134), .unset, .unset] []))
    refine own_iload (pc' := 83) X148 hx rfl (hb hby at_81) rfl ?_
    refine own_iconst (pc' := 84) X148 hx (2 : Int32) (by decide) (hb hby at_83) rfl ?_
    refine own_icmpNo (pc' := 87) X148 hx (by decide) (hb hby at_84) rfl ?_
    refine own_aload (pc' := 89) X148 hx rfl rfl (hb hby at_87) rfl ?_
    refine own_iloadN (pc' := 90) X148 hx rfl (hb hby at_89) rfl ?_
    obtain ⟨cq151, kq151, q151a, q151b, q151c⟩ := isOf hZ rfl Ec148_a1
    obtain ⟨_, _, ⟨T151, L151, k151, n151⟩, -, X151, ⟨Lc151, hQ151, l151, y151, z151⟩, st151⟩ := X148.virtualBack hx (y := (⟨"com/example/libpundit/libpundit/core/IntList", "add", "(I)V"⟩ : MethodName)) (z := (⟨"com/example/libpundit/libpundit/core/IntList", "add", "(I)V"⟩ : MethodName)) hown (mvT hZ (hw _ (List.mem_of_getElem? (i := 13) rfl))) (mvT hZ (hw _ (List.mem_of_getElem? (i := 14) rfl))) (notFace_of_selects (args := #[]) (mvT hZ (hw _ (List.mem_of_getElem? (i := 16) rfl)))) (mvT hZ (hw _ (List.mem_of_getElem? (i := 16) rfl))) (mvT hZ (hw _ (List.mem_of_getElem? (i := 15) rfl))) (by decide) (backOf (W := 0) (rma2 l Z a0 hw [] a134 p3 ar_140 kc_140 p1 p2 T148.heap n0 Z150 Ec148_a1 Ec148_ar Fc148_0 Fc148_1 Ac148_ar fr134 frar_140 n141) hZ (hw _ (List.mem_of_getElem? (i := 17) rfl)) (hw _ (List.mem_of_getElem? (i := 4) rfl)) (by decide) (by decide)) q151a q151c (g := (mkF m 90 #[.val (.int p1), .val (.int p2), .val (.int p3), .val (.int p4), .val (.int p5), .val (.int p6), .val (.int (3 : Int32)), .val (.int v115), .val (.ref a117), .val (.ref a134), .unset, .unset] [(.int p3), (.ref a134)])) rfl (by rw [hml]; rfl) (Steps.refl _) (argsL := [(.int p3)]) (rest := []) (lenOf pd_3 rfl) rfl (by show 2 * 0 + _ ≤ _; exact Nat.le_of_eq rfl) (hb hby at_90) (fun _ _ => ⟨rfl, rfl, (by decide : 3 + 0 ≤ _), (by decide : 11 + 0 ≤ _)⟩)
    dsimp only [Pt.U, Pt.locs, Pt.cells, Pt.slots] at X151 l151 y151 z151 st151 hQ151
    subst l151 y151 z151
    obtain ⟨rfl, pp151, N151, Kc151, Ec151_a1, Ec151_ar, Fc151_0, Fc151_1, Ac151_ar⟩ := hQ151
    have A152 : Arv Z T151.heap a117 cA117 .int (5 : Int32) [(.int p1), (.int p2), (.int p3), (.int p4), (.int p5)] (.int (0 : Int32)) := A149.keep Kc151 (ninS n135 (ninS n142 nin0))
    have Z153 : n0 ≤ T151.heap.size := Nat.le_trans Z150 Kc151.1
    have N151a := Fr.app N148a N151
    refine own_via st151 ?_
    show own_Go p e below (Q0 Z p1 p2 p3 p4 p5 p6 h0 n0) (own_Fr s room_1.cells room_1.slots) (T151.setTop (mkF m 93 #[.val (.int p1), .val (.int p2), .val (.int p3), .val (.int p4), .val (.int p5), .val (.int p6), .val (.int (3 : Int32)), .val (.int v115), .val (.ref a117), .val (.ref a134), .unset, .unset] []))
    refine own_iload (pc' := 95) X151 hx rfl (hb hby at_93) rfl ?_
    refine own_iconst (pc' := 96) X151 hx (3 : Int32) (by decide) (hb hby at_95) rfl ?_
    refine own_icmpYes (pc' := 105) X151 hx (hb hby at_96) (by decide) (by decide) (by decide) ?_
    refine own_iload (pc' := 107) X151 hx rfl (hb hby at_105) rfl ?_
    refine own_iconst (pc' := 108) X151 hx (4 : Int32) (by decide) (hb hby at_107) rfl ?_
    refine own_icmpYes (pc' := 118) X151 hx (hb hby at_108) (by decide) (by decide) (by decide) ?_
    have b154 : v115.toInt = 0 ∨ v115.toInt = 1 ∨ v115.toInt = 2 := by omega
    rcases b154 with b154 | b154 | b154
    · obtain rfl : v115 = (0 : Int32) := Int32.toInt_inj.mp b154
      have kz155 : (0 : Int32).toInt = 0 := by decide
      refine own_aload (pc' := 120) X151 hx rfl rfl (hb hby at_118) rfl ?_
      refine own_iload (pc' := 122) X151 hx rfl (hb hby at_120) rfl ?_
      obtain ⟨cq156, kq156, q156a, q156b, q156c⟩ := isOf hZ rfl Ec151_a1
      obtain ⟨_, _, ⟨T156, L156, k156, n156⟩, -, X156, ⟨Lc156, hQ156, l156, y156, z156⟩, st156⟩ := X151.virtualBack hx (y := (⟨"com/example/libpundit/libpundit/core/IntList", "get", "(I)I"⟩ : MethodName)) (z := (⟨"com/example/libpundit/libpundit/core/IntList", "get", "(I)I"⟩ : MethodName)) hown (mvT hZ (hw _ (List.mem_of_getElem? (i := 20) rfl))) (mvT hZ (hw _ (List.mem_of_getElem? (i := 21) rfl))) (notFace_of_selects (args := #[]) (mvT hZ (hw _ (List.mem_of_getElem? (i := 23) rfl)))) (mvT hZ (hw _ (List.mem_of_getElem? (i := 23) rfl))) (mvT hZ (hw _ (List.mem_of_getElem? (i := 22) rfl))) (by decide) (backOf (W := 0) (rmg0_3 l Z a0 hw [] a134 ar_140 kc_140 p1 p2 p3 T151.heap n0 Z153 Fc151_0 Fc151_1 Ac151_ar) hZ (hw _ (List.mem_of_getElem? (i := 24) rfl)) (hw _ (List.mem_of_getElem? (i := 4) rfl)) (by decide) (by decide)) q156a q156c (g := (mkF m 122 #[.val (.int p1), .val (.int p2), .val (.int p3), .val (.int p4), .val (.int p5), .val (.int p6), .val (.int (3 : Int32)), .val (.int (0 : Int32)), .val (.ref a117), .val (.ref a134), .unset, .unset] [(.int (0 : Int32)), (.ref a134)])) rfl (by rw [hml]; rfl) (Steps.refl _) (argsL := [(.int (0 : Int32))]) (rest := []) (lenOf pd_5 rfl) rfl (by show 2 * 0 + _ ≤ _; exact Nat.le_of_eq rfl) (hb hby at_122) (fun _ _ => ⟨rfl, rfl, (by decide : 3 + 0 ≤ _), (by decide : 11 + 0 ≤ _)⟩)
      dsimp only [Pt.U, Pt.locs, Pt.cells, Pt.slots] at X156 l156 y156 z156 st156 hQ156
      subst l156 y156 z156
      obtain ⟨rfl, pp156, N156, e156⟩ := hQ156
      have N156a := Fr.app N151a N156
      refine own_via st156 ?_
      show own_Go p e below (Q0 Z p1 p2 p3 p4 p5 p6 h0 n0) (own_Fr s room_1.cells room_1.slots) (T156.setTop (mkF m 125 #[.val (.int p1), .val (.int p2), .val (.int p3), .val (.int p4), .val (.int p5), .val (.int p6), .val (.int (3 : Int32)), .val (.int (0 : Int32)), .val (.ref a117), .val (.ref a134), .unset, .unset] [(.int p1)]))
      refine own_istore (pc' := 127) X156 hx #[.val (.int p1), .val (.int p2), .val (.int p3), .val (.int p4), .val (.int p5), .val (.int p6), .val (.int (3 : Int32)), .val (.int (0 : Int32)), .val (.ref a117), .val (.ref a134), .val (.int p1), .unset] rfl (hb hby at_125) rfl ?_
      refine own_aload (pc' := 129) X156 hx rfl rfl (hb hby at_127) rfl ?_
      refine own_iload (pc' := 131) X156 hx rfl (hb hby at_129) rfl ?_
      refine own_iconst (pc' := 132) X156 hx (1 : Int32) (by decide) (hb hby at_131) rfl ?_
      refine own_isub (pc' := 133) X156 hx (z := (2 : Int32)) (by decide) (hb hby at_132) rfl ?_
      obtain ⟨cq157, kq157, q157a, q157b, q157c⟩ := isOf hZ e156 Ec151_a1
      obtain ⟨_, _, ⟨T157, L157, k157, n157⟩, -, X157, ⟨Lc157, hQ157, l157, y157, z157⟩, st157⟩ := X156.virtualBack hx (y := (⟨"com/example/libpundit/libpundit/core/IntList", "get", "(I)I"⟩ : MethodName)) (z := (⟨"com/example/libpundit/libpundit/core/IntList", "get", "(I)I"⟩ : MethodName)) hown (mvT hZ (hw _ (List.mem_of_getElem? (i := 20) rfl))) (mvT hZ (hw _ (List.mem_of_getElem? (i := 21) rfl))) (notFace_of_selects (args := #[]) (mvT hZ (hw _ (List.mem_of_getElem? (i := 23) rfl)))) (mvT hZ (hw _ (List.mem_of_getElem? (i := 23) rfl))) (mvT hZ (hw _ (List.mem_of_getElem? (i := 22) rfl))) (by decide) (backOf (W := 0) (rmg2_3 l Z a0 hw [] a134 ar_140 kc_140 p1 p2 p3 T151.heap n0 Z153 Fc151_0 Fc151_1 Ac151_ar) hZ (hw _ (List.mem_of_getElem? (i := 24) rfl)) (hw _ (List.mem_of_getElem? (i := 4) rfl)) (by decide) (by decide)) q157a q157c (g := (mkF m 133 #[.val (.int p1), .val (.int p2), .val (.int p3), .val (.int p4), .val (.int p5), .val (.int p6), .val (.int (3 : Int32)), .val (.int (0 : Int32)), .val (.ref a117), .val (.ref a134), .val (.int p1), .unset] [(.int (2 : Int32)), (.ref a134)])) rfl (by rw [hml]; rfl) (Steps.refl _) (argsL := [(.int (2 : Int32))]) (rest := []) (lenOf pd_5 rfl) rfl (by show 2 * 0 + _ ≤ _; exact Nat.le_of_eq rfl) (hb hby at_133) (fun _ _ => ⟨rfl, e156, (by decide : 3 + 0 ≤ _), (by decide : 11 + 0 ≤ _)⟩)
      dsimp only [Pt.U, Pt.locs, Pt.cells, Pt.slots] at X157 l157 y157 z157 st157 hQ157
      subst l157 y157 z157
      obtain ⟨rfl, pp157, N157, e157⟩ := hQ157
      have N157a := Fr.app N156a N157
      refine own_via st157 ?_
      show own_Go p e below (Q0 Z p1 p2 p3 p4 p5 p6 h0 n0) (own_Fr s room_1.cells room_1.slots) (T157.setTop (mkF m 136 #[.val (.int p1), .val (.int p2), .val (.int p3), .val (.int p4), .val (.int p5), .val (.int p6), .val (.int (3 : Int32)), .val (.int (0 : Int32)), .val (.ref a117), .val (.ref a134), .val (.int p1), .unset] [(.int p3)]))
      refine own_istore (pc' := 138) X157 hx #[.val (.int p1), .val (.int p2), .val (.int p3), .val (.int p4), .val (.int p5), .val (.int p6), .val (.int (3 : Int32)), .val (.int (0 : Int32)), .val (.ref a117), .val (.ref a134), .val (.int p1), .val (.int p3)] rfl (hb hby at_136) rfl ?_
      refine own_iload (pc' := 140) X157 hx rfl (hb hby at_138) rfl ?_
      refine own_aload (pc' := 142) X157 hx rfl rfl (hb hby at_140) rfl ?_
      refine own_iload (pc' := 144) X157 hx rfl (hb hby at_142) rfl ?_
      obtain ⟨c158, B158, q158, s158, u158, H158, G158⟩ := id A152
      have i158 := inb_of s158 (j := (0 : Int32)) (by decide)
      refine own_by (X157.iaload hx (j := (0 : Int32)) (v := (.int p1)) (by rw [e157]; exact B158.1) (State.isArrayOf_alike hZ.alike B158.2.1) B158.2.2 i158 (H158.at i158 rfl) (g := (mkF m 144 #[.val (.int p1), .val (.int p2), .val (.int p3), .val (.int p4), .val (.int p5), .val (.int p6), .val (.int (3 : Int32)), .val (.int (0 : Int32)), .val (.ref a117), .val (.ref a134), .val (.int p1), .val (.int p3)] [(.int (0 : Int32)), (.ref a117), (.int p1)])) rfl rfl (hb hby at_144)) ?_
      show own_Go p e below (Q0 Z p1 p2 p3 p4 p5 p6 h0 n0) (own_Fr s room_1.cells room_1.slots) (T157.setTop (mkF m 145 #[.val (.int p1), .val (.int p2), .val (.int p3), .val (.int p4), .val (.int p5), .val (.int p6), .val (.int (3 : Int32)), .val (.int (0 : Int32)), .val (.ref a117), .val (.ref a134), .val (.int p1), .val (.int p3)] [(.int p1), (.int p1)]))
      have b159 : p1.toInt = p1.toInt := by omega
      refine own_icmpNo (pc' := 148) X157 hx (own_no_ne rfl rfl b159) (hb hby at_145) rfl ?_
      refine own_iload (pc' := 150) X157 hx rfl (hb hby at_148) rfl ?_
      refine own_aload (pc' := 152) X157 hx rfl rfl (hb hby at_150) rfl ?_
      refine own_iload (pc' := 154) X157 hx rfl (hb hby at_152) rfl ?_
      refine own_iconst (pc' := 155) X157 hx (1 : Int32) (by decide) (hb hby at_154) rfl ?_
      refine own_isub (pc' := 156) X157 hx (z := (2 : Int32)) (by decide) (hb hby at_155) rfl ?_
      obtain ⟨c160, B160, q160, s160, u160, H160, G160⟩ := id A152
      have i160 := inb_of s160 (j := (2 : Int32)) (by decide)
      refine own_by (X157.iaload hx (j := (2 : Int32)) (v := (.int p3)) (by rw [e157]; exact B160.1) (State.isArrayOf_alike hZ.alike B160.2.1) B160.2.2 i160 (H160.at i160 rfl) (g := (mkF m 156 #[.val (.int p1), .val (.int p2), .val (.int p3), .val (.int p4), .val (.int p5), .val (.int p6), .val (.int (3 : Int32)), .val (.int (0 : Int32)), .val (.ref a117), .val (.ref a134), .val (.int p1), .val (.int p3)] [(.int (2 : Int32)), (.ref a117), (.int p3)])) rfl rfl (hb hby at_156)) ?_
      show own_Go p e below (Q0 Z p1 p2 p3 p4 p5 p6 h0 n0) (own_Fr s room_1.cells room_1.slots) (T157.setTop (mkF m 157 #[.val (.int p1), .val (.int p2), .val (.int p3), .val (.int p4), .val (.int p5), .val (.int p6), .val (.int (3 : Int32)), .val (.int (0 : Int32)), .val (.ref a117), .val (.ref a134), .val (.int p1), .val (.int p3)] [(.int p3), (.int p3)]))
      have b161 : p3.toInt = p3.toInt := by omega
      refine own_icmpNo (pc' := 160) X157 hx (own_no_ne rfl rfl b161) (hb hby at_157) rfl ?_
      refine own_iconst (pc' := 161) X157 hx (1 : Int32) (by decide) (hb hby at_160) rfl ?_
      refine own_goto (pc' := 165) X157 hx (hb hby at_161) (by decide) (by decide) ?_
      refine own_ret X157 hx Bd.returns Bd.notSynchronized (Or.inl ⟨rfl, by simp, _, rfl⟩) (hb hby at_165) rfl (by decide) (by decide) ?_
      show Q0 Z p1 p2 p3 p4 p5 p6 h0 n0 _ T157.heap _
      rw [e157]
      exact ⟨rfl, N157a⟩
    · obtain rfl : v115 = (1 : Int32) := Int32.toInt_inj.mp b154
      have kz162 : (1 : Int32).toInt = 1 := by decide
      refine own_aload (pc' := 120) X151 hx rfl rfl (hb hby at_118) rfl ?_
      refine own_iload (pc' := 122) X151 hx rfl (hb hby at_120) rfl ?_
      obtain ⟨cq163, kq163, q163a, q163b, q163c⟩ := isOf hZ rfl Ec151_a1
      obtain ⟨_, _, ⟨T163, L163, k163, n163⟩, -, X163, ⟨Lc163, hQ163, l163, y163, z163⟩, st163⟩ := X151.virtualBack hx (y := (⟨"com/example/libpundit/libpundit/core/IntList", "get", "(I)I"⟩ : MethodName)) (z := (⟨"com/example/libpundit/libpundit/core/IntList", "get", "(I)I"⟩ : MethodName)) hown (mvT hZ (hw _ (List.mem_of_getElem? (i := 20) rfl))) (mvT hZ (hw _ (List.mem_of_getElem? (i := 21) rfl))) (notFace_of_selects (args := #[]) (mvT hZ (hw _ (List.mem_of_getElem? (i := 23) rfl)))) (mvT hZ (hw _ (List.mem_of_getElem? (i := 23) rfl))) (mvT hZ (hw _ (List.mem_of_getElem? (i := 22) rfl))) (by decide) (backOf (W := 0) (rmg1_3 l Z a0 hw [] a134 ar_140 kc_140 p1 p2 p3 T151.heap n0 Z153 Fc151_0 Fc151_1 Ac151_ar) hZ (hw _ (List.mem_of_getElem? (i := 24) rfl)) (hw _ (List.mem_of_getElem? (i := 4) rfl)) (by decide) (by decide)) q163a q163c (g := (mkF m 122 #[.val (.int p1), .val (.int p2), .val (.int p3), .val (.int p4), .val (.int p5), .val (.int p6), .val (.int (3 : Int32)), .val (.int (1 : Int32)), .val (.ref a117), .val (.ref a134), .unset, .unset] [(.int (1 : Int32)), (.ref a134)])) rfl (by rw [hml]; rfl) (Steps.refl _) (argsL := [(.int (1 : Int32))]) (rest := []) (lenOf pd_5 rfl) rfl (by show 2 * 0 + _ ≤ _; exact Nat.le_of_eq rfl) (hb hby at_122) (fun _ _ => ⟨rfl, rfl, (by decide : 3 + 0 ≤ _), (by decide : 11 + 0 ≤ _)⟩)
      dsimp only [Pt.U, Pt.locs, Pt.cells, Pt.slots] at X163 l163 y163 z163 st163 hQ163
      subst l163 y163 z163
      obtain ⟨rfl, pp163, N163, e163⟩ := hQ163
      have N163a := Fr.app N151a N163
      refine own_via st163 ?_
      show own_Go p e below (Q0 Z p1 p2 p3 p4 p5 p6 h0 n0) (own_Fr s room_1.cells room_1.slots) (T163.setTop (mkF m 125 #[.val (.int p1), .val (.int p2), .val (.int p3), .val (.int p4), .val (.int p5), .val (.int p6), .val (.int (3 : Int32)), .val (.int (1 : Int32)), .val (.ref a117), .val (.ref a134), .unset, .unset] [(.int p2)]))
      refine own_istore (pc' := 127) X163 hx #[.val (.int p1), .val (.int p2), .val (.int p3), .val (.int p4), .val (.int p5), .val (.int p6), .val (.int (3 : Int32)), .val (.int (1 : Int32)), .val (.ref a117), .val (.ref a134), .val (.int p2), .unset] rfl (hb hby at_125) rfl ?_
      refine own_aload (pc' := 129) X163 hx rfl rfl (hb hby at_127) rfl ?_
      refine own_iload (pc' := 131) X163 hx rfl (hb hby at_129) rfl ?_
      refine own_iconst (pc' := 132) X163 hx (1 : Int32) (by decide) (hb hby at_131) rfl ?_
      refine own_isub (pc' := 133) X163 hx (z := (2 : Int32)) (by decide) (hb hby at_132) rfl ?_
      obtain ⟨cq164, kq164, q164a, q164b, q164c⟩ := isOf hZ e163 Ec151_a1
      obtain ⟨_, _, ⟨T164, L164, k164, n164⟩, -, X164, ⟨Lc164, hQ164, l164, y164, z164⟩, st164⟩ := X163.virtualBack hx (y := (⟨"com/example/libpundit/libpundit/core/IntList", "get", "(I)I"⟩ : MethodName)) (z := (⟨"com/example/libpundit/libpundit/core/IntList", "get", "(I)I"⟩ : MethodName)) hown (mvT hZ (hw _ (List.mem_of_getElem? (i := 20) rfl))) (mvT hZ (hw _ (List.mem_of_getElem? (i := 21) rfl))) (notFace_of_selects (args := #[]) (mvT hZ (hw _ (List.mem_of_getElem? (i := 23) rfl)))) (mvT hZ (hw _ (List.mem_of_getElem? (i := 23) rfl))) (mvT hZ (hw _ (List.mem_of_getElem? (i := 22) rfl))) (by decide) (backOf (W := 0) (rmg2_3 l Z a0 hw [] a134 ar_140 kc_140 p1 p2 p3 T151.heap n0 Z153 Fc151_0 Fc151_1 Ac151_ar) hZ (hw _ (List.mem_of_getElem? (i := 24) rfl)) (hw _ (List.mem_of_getElem? (i := 4) rfl)) (by decide) (by decide)) q164a q164c (g := (mkF m 133 #[.val (.int p1), .val (.int p2), .val (.int p3), .val (.int p4), .val (.int p5), .val (.int p6), .val (.int (3 : Int32)), .val (.int (1 : Int32)), .val (.ref a117), .val (.ref a134), .val (.int p2), .unset] [(.int (2 : Int32)), (.ref a134)])) rfl (by rw [hml]; rfl) (Steps.refl _) (argsL := [(.int (2 : Int32))]) (rest := []) (lenOf pd_5 rfl) rfl (by show 2 * 0 + _ ≤ _; exact Nat.le_of_eq rfl) (hb hby at_133) (fun _ _ => ⟨rfl, e163, (by decide : 3 + 0 ≤ _), (by decide : 11 + 0 ≤ _)⟩)
      dsimp only [Pt.U, Pt.locs, Pt.cells, Pt.slots] at X164 l164 y164 z164 st164 hQ164
      subst l164 y164 z164
      obtain ⟨rfl, pp164, N164, e164⟩ := hQ164
      have N164a := Fr.app N163a N164
      refine own_via st164 ?_
      show own_Go p e below (Q0 Z p1 p2 p3 p4 p5 p6 h0 n0) (own_Fr s room_1.cells room_1.slots) (T164.setTop (mkF m 136 #[.val (.int p1), .val (.int p2), .val (.int p3), .val (.int p4), .val (.int p5), .val (.int p6), .val (.int (3 : Int32)), .val (.int (1 : Int32)), .val (.ref a117), .val (.ref a134), .val (.int p2), .unset] [(.int p3)]))
      refine own_istore (pc' := 138) X164 hx #[.val (.int p1), .val (.int p2), .val (.int p3), .val (.int p4), .val (.int p5), .val (.int p6), .val (.int (3 : Int32)), .val (.int (1 : Int32)), .val (.ref a117), .val (.ref a134), .val (.int p2), .val (.int p3)] rfl (hb hby at_136) rfl ?_
      refine own_iload (pc' := 140) X164 hx rfl (hb hby at_138) rfl ?_
      refine own_aload (pc' := 142) X164 hx rfl rfl (hb hby at_140) rfl ?_
      refine own_iload (pc' := 144) X164 hx rfl (hb hby at_142) rfl ?_
      obtain ⟨c165, B165, q165, s165, u165, H165, G165⟩ := id A152
      have i165 := inb_of s165 (j := (1 : Int32)) (by decide)
      refine own_by (X164.iaload hx (j := (1 : Int32)) (v := (.int p2)) (by rw [e164]; exact B165.1) (State.isArrayOf_alike hZ.alike B165.2.1) B165.2.2 i165 (H165.at i165 rfl) (g := (mkF m 144 #[.val (.int p1), .val (.int p2), .val (.int p3), .val (.int p4), .val (.int p5), .val (.int p6), .val (.int (3 : Int32)), .val (.int (1 : Int32)), .val (.ref a117), .val (.ref a134), .val (.int p2), .val (.int p3)] [(.int (1 : Int32)), (.ref a117), (.int p2)])) rfl rfl (hb hby at_144)) ?_
      show own_Go p e below (Q0 Z p1 p2 p3 p4 p5 p6 h0 n0) (own_Fr s room_1.cells room_1.slots) (T164.setTop (mkF m 145 #[.val (.int p1), .val (.int p2), .val (.int p3), .val (.int p4), .val (.int p5), .val (.int p6), .val (.int (3 : Int32)), .val (.int (1 : Int32)), .val (.ref a117), .val (.ref a134), .val (.int p2), .val (.int p3)] [(.int p2), (.int p2)]))
      have b166 : p2.toInt = p2.toInt := by omega
      refine own_icmpNo (pc' := 148) X164 hx (own_no_ne rfl rfl b166) (hb hby at_145) rfl ?_
      refine own_iload (pc' := 150) X164 hx rfl (hb hby at_148) rfl ?_
      refine own_aload (pc' := 152) X164 hx rfl rfl (hb hby at_150) rfl ?_
      refine own_iload (pc' := 154) X164 hx rfl (hb hby at_152) rfl ?_
      refine own_iconst (pc' := 155) X164 hx (1 : Int32) (by decide) (hb hby at_154) rfl ?_
      refine own_isub (pc' := 156) X164 hx (z := (2 : Int32)) (by decide) (hb hby at_155) rfl ?_
      obtain ⟨c167, B167, q167, s167, u167, H167, G167⟩ := id A152
      have i167 := inb_of s167 (j := (2 : Int32)) (by decide)
      refine own_by (X164.iaload hx (j := (2 : Int32)) (v := (.int p3)) (by rw [e164]; exact B167.1) (State.isArrayOf_alike hZ.alike B167.2.1) B167.2.2 i167 (H167.at i167 rfl) (g := (mkF m 156 #[.val (.int p1), .val (.int p2), .val (.int p3), .val (.int p4), .val (.int p5), .val (.int p6), .val (.int (3 : Int32)), .val (.int (1 : Int32)), .val (.ref a117), .val (.ref a134), .val (.int p2), .val (.int p3)] [(.int (2 : Int32)), (.ref a117), (.int p3)])) rfl rfl (hb hby at_156)) ?_
      show own_Go p e below (Q0 Z p1 p2 p3 p4 p5 p6 h0 n0) (own_Fr s room_1.cells room_1.slots) (T164.setTop (mkF m 157 #[.val (.int p1), .val (.int p2), .val (.int p3), .val (.int p4), .val (.int p5), .val (.int p6), .val (.int (3 : Int32)), .val (.int (1 : Int32)), .val (.ref a117), .val (.ref a134), .val (.int p2), .val (.int p3)] [(.int p3), (.int p3)]))
      have b168 : p3.toInt = p3.toInt := by omega
      refine own_icmpNo (pc' := 160) X164 hx (own_no_ne rfl rfl b168) (hb hby at_157) rfl ?_
      refine own_iconst (pc' := 161) X164 hx (1 : Int32) (by decide) (hb hby at_160) rfl ?_
      refine own_goto (pc' := 165) X164 hx (hb hby at_161) (by decide) (by decide) ?_
      refine own_ret X164 hx Bd.returns Bd.notSynchronized (Or.inl ⟨rfl, by simp, _, rfl⟩) (hb hby at_165) rfl (by decide) (by decide) ?_
      show Q0 Z p1 p2 p3 p4 p5 p6 h0 n0 _ T164.heap _
      rw [e164]
      exact ⟨rfl, N164a⟩
    · obtain rfl : v115 = (2 : Int32) := Int32.toInt_inj.mp b154
      have kz169 : (2 : Int32).toInt = 2 := by decide
      refine own_aload (pc' := 120) X151 hx rfl rfl (hb hby at_118) rfl ?_
      refine own_iload (pc' := 122) X151 hx rfl (hb hby at_120) rfl ?_
      obtain ⟨cq170, kq170, q170a, q170b, q170c⟩ := isOf hZ rfl Ec151_a1
      obtain ⟨_, _, ⟨T170, L170, k170, n170⟩, -, X170, ⟨Lc170, hQ170, l170, y170, z170⟩, st170⟩ := X151.virtualBack hx (y := (⟨"com/example/libpundit/libpundit/core/IntList", "get", "(I)I"⟩ : MethodName)) (z := (⟨"com/example/libpundit/libpundit/core/IntList", "get", "(I)I"⟩ : MethodName)) hown (mvT hZ (hw _ (List.mem_of_getElem? (i := 20) rfl))) (mvT hZ (hw _ (List.mem_of_getElem? (i := 21) rfl))) (notFace_of_selects (args := #[]) (mvT hZ (hw _ (List.mem_of_getElem? (i := 23) rfl)))) (mvT hZ (hw _ (List.mem_of_getElem? (i := 23) rfl))) (mvT hZ (hw _ (List.mem_of_getElem? (i := 22) rfl))) (by decide) (backOf (W := 0) (rmg2_3 l Z a0 hw [] a134 ar_140 kc_140 p1 p2 p3 T151.heap n0 Z153 Fc151_0 Fc151_1 Ac151_ar) hZ (hw _ (List.mem_of_getElem? (i := 24) rfl)) (hw _ (List.mem_of_getElem? (i := 4) rfl)) (by decide) (by decide)) q170a q170c (g := (mkF m 122 #[.val (.int p1), .val (.int p2), .val (.int p3), .val (.int p4), .val (.int p5), .val (.int p6), .val (.int (3 : Int32)), .val (.int (2 : Int32)), .val (.ref a117), .val (.ref a134), .unset, .unset] [(.int (2 : Int32)), (.ref a134)])) rfl (by rw [hml]; rfl) (Steps.refl _) (argsL := [(.int (2 : Int32))]) (rest := []) (lenOf pd_5 rfl) rfl (by show 2 * 0 + _ ≤ _; exact Nat.le_of_eq rfl) (hb hby at_122) (fun _ _ => ⟨rfl, rfl, (by decide : 3 + 0 ≤ _), (by decide : 11 + 0 ≤ _)⟩)
      dsimp only [Pt.U, Pt.locs, Pt.cells, Pt.slots] at X170 l170 y170 z170 st170 hQ170
      subst l170 y170 z170
      obtain ⟨rfl, pp170, N170, e170⟩ := hQ170
      have N170a := Fr.app N151a N170
      refine own_via st170 ?_
      show own_Go p e below (Q0 Z p1 p2 p3 p4 p5 p6 h0 n0) (own_Fr s room_1.cells room_1.slots) (T170.setTop (mkF m 125 #[.val (.int p1), .val (.int p2), .val (.int p3), .val (.int p4), .val (.int p5), .val (.int p6), .val (.int (3 : Int32)), .val (.int (2 : Int32)), .val (.ref a117), .val (.ref a134), .unset, .unset] [(.int p3)]))
      refine own_istore (pc' := 127) X170 hx #[.val (.int p1), .val (.int p2), .val (.int p3), .val (.int p4), .val (.int p5), .val (.int p6), .val (.int (3 : Int32)), .val (.int (2 : Int32)), .val (.ref a117), .val (.ref a134), .val (.int p3), .unset] rfl (hb hby at_125) rfl ?_
      refine own_aload (pc' := 129) X170 hx rfl rfl (hb hby at_127) rfl ?_
      refine own_iload (pc' := 131) X170 hx rfl (hb hby at_129) rfl ?_
      refine own_iconst (pc' := 132) X170 hx (1 : Int32) (by decide) (hb hby at_131) rfl ?_
      refine own_isub (pc' := 133) X170 hx (z := (2 : Int32)) (by decide) (hb hby at_132) rfl ?_
      obtain ⟨cq171, kq171, q171a, q171b, q171c⟩ := isOf hZ e170 Ec151_a1
      obtain ⟨_, _, ⟨T171, L171, k171, n171⟩, -, X171, ⟨Lc171, hQ171, l171, y171, z171⟩, st171⟩ := X170.virtualBack hx (y := (⟨"com/example/libpundit/libpundit/core/IntList", "get", "(I)I"⟩ : MethodName)) (z := (⟨"com/example/libpundit/libpundit/core/IntList", "get", "(I)I"⟩ : MethodName)) hown (mvT hZ (hw _ (List.mem_of_getElem? (i := 20) rfl))) (mvT hZ (hw _ (List.mem_of_getElem? (i := 21) rfl))) (notFace_of_selects (args := #[]) (mvT hZ (hw _ (List.mem_of_getElem? (i := 23) rfl)))) (mvT hZ (hw _ (List.mem_of_getElem? (i := 23) rfl))) (mvT hZ (hw _ (List.mem_of_getElem? (i := 22) rfl))) (by decide) (backOf (W := 0) (rmg2_3 l Z a0 hw [] a134 ar_140 kc_140 p1 p2 p3 T151.heap n0 Z153 Fc151_0 Fc151_1 Ac151_ar) hZ (hw _ (List.mem_of_getElem? (i := 24) rfl)) (hw _ (List.mem_of_getElem? (i := 4) rfl)) (by decide) (by decide)) q171a q171c (g := (mkF m 133 #[.val (.int p1), .val (.int p2), .val (.int p3), .val (.int p4), .val (.int p5), .val (.int p6), .val (.int (3 : Int32)), .val (.int (2 : Int32)), .val (.ref a117), .val (.ref a134), .val (.int p3), .unset] [(.int (2 : Int32)), (.ref a134)])) rfl (by rw [hml]; rfl) (Steps.refl _) (argsL := [(.int (2 : Int32))]) (rest := []) (lenOf pd_5 rfl) rfl (by show 2 * 0 + _ ≤ _; exact Nat.le_of_eq rfl) (hb hby at_133) (fun _ _ => ⟨rfl, e170, (by decide : 3 + 0 ≤ _), (by decide : 11 + 0 ≤ _)⟩)
      dsimp only [Pt.U, Pt.locs, Pt.cells, Pt.slots] at X171 l171 y171 z171 st171 hQ171
      subst l171 y171 z171
      obtain ⟨rfl, pp171, N171, e171⟩ := hQ171
      have N171a := Fr.app N170a N171
      refine own_via st171 ?_
      show own_Go p e below (Q0 Z p1 p2 p3 p4 p5 p6 h0 n0) (own_Fr s room_1.cells room_1.slots) (T171.setTop (mkF m 136 #[.val (.int p1), .val (.int p2), .val (.int p3), .val (.int p4), .val (.int p5), .val (.int p6), .val (.int (3 : Int32)), .val (.int (2 : Int32)), .val (.ref a117), .val (.ref a134), .val (.int p3), .unset] [(.int p3)]))
      refine own_istore (pc' := 138) X171 hx #[.val (.int p1), .val (.int p2), .val (.int p3), .val (.int p4), .val (.int p5), .val (.int p6), .val (.int (3 : Int32)), .val (.int (2 : Int32)), .val (.ref a117), .val (.ref a134), .val (.int p3), .val (.int p3)] rfl (hb hby at_136) rfl ?_
      refine own_iload (pc' := 140) X171 hx rfl (hb hby at_138) rfl ?_
      refine own_aload (pc' := 142) X171 hx rfl rfl (hb hby at_140) rfl ?_
      refine own_iload (pc' := 144) X171 hx rfl (hb hby at_142) rfl ?_
      obtain ⟨c172, B172, q172, s172, u172, H172, G172⟩ := id A152
      have i172 := inb_of s172 (j := (2 : Int32)) (by decide)
      refine own_by (X171.iaload hx (j := (2 : Int32)) (v := (.int p3)) (by rw [e171]; exact B172.1) (State.isArrayOf_alike hZ.alike B172.2.1) B172.2.2 i172 (H172.at i172 rfl) (g := (mkF m 144 #[.val (.int p1), .val (.int p2), .val (.int p3), .val (.int p4), .val (.int p5), .val (.int p6), .val (.int (3 : Int32)), .val (.int (2 : Int32)), .val (.ref a117), .val (.ref a134), .val (.int p3), .val (.int p3)] [(.int (2 : Int32)), (.ref a117), (.int p3)])) rfl rfl (hb hby at_144)) ?_
      show own_Go p e below (Q0 Z p1 p2 p3 p4 p5 p6 h0 n0) (own_Fr s room_1.cells room_1.slots) (T171.setTop (mkF m 145 #[.val (.int p1), .val (.int p2), .val (.int p3), .val (.int p4), .val (.int p5), .val (.int p6), .val (.int (3 : Int32)), .val (.int (2 : Int32)), .val (.ref a117), .val (.ref a134), .val (.int p3), .val (.int p3)] [(.int p3), (.int p3)]))
      have b173 : p3.toInt = p3.toInt := by omega
      refine own_icmpNo (pc' := 148) X171 hx (own_no_ne rfl rfl b173) (hb hby at_145) rfl ?_
      refine own_iload (pc' := 150) X171 hx rfl (hb hby at_148) rfl ?_
      refine own_aload (pc' := 152) X171 hx rfl rfl (hb hby at_150) rfl ?_
      refine own_iload (pc' := 154) X171 hx rfl (hb hby at_152) rfl ?_
      refine own_iconst (pc' := 155) X171 hx (1 : Int32) (by decide) (hb hby at_154) rfl ?_
      refine own_isub (pc' := 156) X171 hx (z := (2 : Int32)) (by decide) (hb hby at_155) rfl ?_
      obtain ⟨c174, B174, q174, s174, u174, H174, G174⟩ := id A152
      have i174 := inb_of s174 (j := (2 : Int32)) (by decide)
      refine own_by (X171.iaload hx (j := (2 : Int32)) (v := (.int p3)) (by rw [e171]; exact B174.1) (State.isArrayOf_alike hZ.alike B174.2.1) B174.2.2 i174 (H174.at i174 rfl) (g := (mkF m 156 #[.val (.int p1), .val (.int p2), .val (.int p3), .val (.int p4), .val (.int p5), .val (.int p6), .val (.int (3 : Int32)), .val (.int (2 : Int32)), .val (.ref a117), .val (.ref a134), .val (.int p3), .val (.int p3)] [(.int (2 : Int32)), (.ref a117), (.int p3)])) rfl rfl (hb hby at_156)) ?_
      show own_Go p e below (Q0 Z p1 p2 p3 p4 p5 p6 h0 n0) (own_Fr s room_1.cells room_1.slots) (T171.setTop (mkF m 157 #[.val (.int p1), .val (.int p2), .val (.int p3), .val (.int p4), .val (.int p5), .val (.int p6), .val (.int (3 : Int32)), .val (.int (2 : Int32)), .val (.ref a117), .val (.ref a134), .val (.int p3), .val (.int p3)] [(.int p3), (.int p3)]))
      have b175 : p3.toInt = p3.toInt := by omega
      refine own_icmpNo (pc' := 160) X171 hx (own_no_ne rfl rfl b175) (hb hby at_157) rfl ?_
      refine own_iconst (pc' := 161) X171 hx (1 : Int32) (by decide) (hb hby at_160) rfl ?_
      refine own_goto (pc' := 165) X171 hx (hb hby at_161) (by decide) (by decide) ?_
      refine own_ret X171 hx Bd.returns Bd.notSynchronized (Or.inl ⟨rfl, by simp, _, rfl⟩) (hb hby at_165) rfl (by decide) (by decide) ?_
      show Q0 Z p1 p2 p3 p4 p5 p6 h0 n0 _ T171.heap _
      rw [e171]
      exact ⟨rfl, N171a⟩
  · obtain rfl : v5 = (4 : Int32) := Int32.toInt_inj.mp b7
    have kz176 : (4 : Int32).toInt = 4 := by decide
    refine own_iload (pc' := 13) X0 hx rfl (hb hby at_11) rfl ?_
    refine own_iconst (pc' := 14) X0 hx (3 : Int32) (by decide) (hb hby at_13) rfl ?_
    obtain ⟨v177, hv177⟩ : ∃ z, (p6.toUInt32 >>> ((3 : Int32) &&& 31).toUInt32).toInt32 = z := ⟨_, rfl⟩
    have f178 : v177.toInt = (p6.toInt % 4294967296) / 8 := by rw [← hv177]; exact c_iushr p6 (3 : Int32) 3 (by decide) (by decide)
    refine own_iushr (pc' := 15) X0 hx (z := v177) hv177 (hb hby at_14) rfl ?_
    refine own_ldcInt (pc' := 17) X0 hx hZ hown (hw _ (List.mem_of_getElem? (i := 0) rfl)) (hb hby at_15) rfl ?_
    obtain ⟨v179, hv179⟩ : ∃ z, v177 &&& (2147483647 : Int32) = z := ⟨_, rfl⟩
    have f180 : v179.toInt = v177.toInt % 2147483648 := by rw [← hv179]; exact c_mask v177 (2147483647 : Int32) 31 (by decide) (by decide)
    refine own_iand (pc' := 18) X0 hx (z := v179) hv179 (hb hby at_17) rfl ?_
    refine own_iload (pc' := 20) X0 hx rfl (hb hby at_18) rfl ?_
    obtain ⟨v181, hv181⟩ : ∃ z, v179 % (4 : Int32) = z := ⟨_, rfl⟩
    have f182 : v181.toInt = v179.toInt % 4 := by rw [← hv181]; exact (c_irem v179 (4 : Int32) 4 (by decide)).1 (by omega)
    refine own_irem (pc' := 21) X0 hx (z := v181) (by decide) hv181 (hb hby at_20) rfl ?_
    refine own_istore (pc' := 23) X0 hx #[.val (.int p1), .val (.int p2), .val (.int p3), .val (.int p4), .val (.int p5), .val (.int p6), .val (.int (4 : Int32)), .val (.int v181), .unset, .unset, .unset, .unset] rfl (hb hby at_21) rfl ?_
    refine own_iconst (pc' := 24) X0 hx (5 : Int32) (by decide) (hb hby at_23) rfl ?_
    obtain ⟨T183, h183, cA183, X183, e183, E183, Ar183, st183⟩ := newP X0 hx hZ (hw _ (List.mem_of_getElem? (i := 1) rfl)) e0 (g := (mkF m 24 #[.val (.int p1), .val (.int p2), .val (.int p3), .val (.int p4), .val (.int p5), .val (.int p6), .val (.int (4 : Int32)), .val (.int v181), .unset, .unset, .unset, .unset] [(.int (5 : Int32))])) rfl (hb hby at_24) (n := (5 : Int32)) rfl (by decide) (cap := 5) (by decide) (by decide) (by decide) (by decide)
    obtain ⟨a183, ga183⟩ : ∃ z, z = h0.size := ⟨_, rfl⟩
    rw [← ga183] at Ar183 st183
    have fr183 : n0 ≤ a183 := Nat.le_trans Z0 (Nat.le_of_eq ga183.symm)
    have Z184 : n0 ≤ h183.size := Nat.le_trans Z0 E183.1
    have A183 : Arv Z h183 a183 cA183 .int (5 : Int32) [(.int (0 : Int32)), (.int (0 : Int32)), (.int (0 : Int32)), (.int (0 : Int32)), (.int (0 : Int32))] (.int (0 : Int32)) := (Arv.new Ar183 (by decide)).pad (fun i => pad_rep [] (.int (0 : Int32)) 5 i)
    refine own_by st183 ?_
    show own_Go p e below (Q0 Z p1 p2 p3 p4 p5 p6 h0 n0) (own_Fr s room_1.cells room_1.slots) (T183.setTop (mkF m 26 #[.val (.int p1), .val (.int p2), .val (.int p3), .val (.int p4), .val (.int p5), .val (.int p6), .val (.int (4 : Int32)), .val (.int v181), .unset, .unset, .unset, .unset] [(.ref a183)]))
    refine own_astore (pc' := 28) X183 hx #[.val (.int p1), .val (.int p2), .val (.int p3), .val (.int p4), .val (.int p5), .val (.int p6), .val (.int (4 : Int32)), .val (.int v181), .val (.ref a183), .unset, .unset, .unset] rfl rfl (hb hby at_26) rfl ?_
    refine own_aload (pc' := 30) X183 hx rfl rfl (hb hby at_28) rfl ?_
    refine own_iconst (pc' := 31) X183 hx (0 : Int32) (by decide) (hb hby at_30) rfl ?_
    refine own_iloadN (pc' := 32) X183 hx rfl (hb hby at_31) rfl ?_
    obtain ⟨c185, B185, q185, s185, u185, H185, G185⟩ := id A183
    obtain ⟨T185, h185, X185, e185, W185, st185⟩ := stI X183 hx hZ e183 B185 (j := (0 : Int32)) (x := p1) (inb_of s185 (by decide)) (g := (mkF m 32 #[.val (.int p1), .val (.int p2), .val (.int p3), .val (.int p4), .val (.int p5), .val (.int p6), .val (.int (4 : Int32)), .val (.int v181), .val (.ref a183), .unset, .unset, .unset] [(.int p1), (.int (0 : Int32)), (.ref a183)])) rfl rfl (hb hby at_32)
    have A185 : Arv Z h185 a183 cA183 .int (5 : Int32) [(.int p1), (.int (0 : Int32)), (.int (0 : Int32)), (.int (0 : Int32)), (.int (0 : Int32))] (.int (0 : Int32)) := Arv.set B185 q185 s185 u185 H185 G185 rfl W185 0 (by decide) (by simp)
    have Z186 : n0 ≤ h185.size := Nat.le_trans Z184 (Nat.le_of_eq W185.size.symm)
    have N187 := Fr.snoc X185 N0 fr183
    refine own_by st185 ?_
    show own_Go p e below (Q0 Z p1 p2 p3 p4 p5 p6 h0 n0) (own_Fr s room_1.cells room_1.slots) (T185.setTop (mkF m 33 #[.val (.int p1), .val (.int p2), .val (.int p3), .val (.int p4), .val (.int p5), .val (.int p6), .val (.int (4 : Int32)), .val (.int v181), .val (.ref a183), .unset, .unset, .unset] []))
    refine own_aload (pc' := 35) X185 hx rfl rfl (hb hby at_33) rfl ?_
    refine own_iconst (pc' := 36) X185 hx (1 : Int32) (by decide) (hb hby at_35) rfl ?_
    refine own_iloadN (pc' := 37) X185 hx rfl (hb hby at_36) rfl ?_
    obtain ⟨c188, B188, q188, s188, u188, H188, G188⟩ := id A185
    obtain ⟨T188, h188, X188, e188, W188, st188⟩ := stI X185 hx hZ e185 B188 (j := (1 : Int32)) (x := p2) (inb_of s188 (by decide)) (g := (mkF m 37 #[.val (.int p1), .val (.int p2), .val (.int p3), .val (.int p4), .val (.int p5), .val (.int p6), .val (.int (4 : Int32)), .val (.int v181), .val (.ref a183), .unset, .unset, .unset] [(.int p2), (.int (1 : Int32)), (.ref a183)])) rfl rfl (hb hby at_37)
    have A188 : Arv Z h188 a183 cA183 .int (5 : Int32) [(.int p1), (.int p2), (.int (0 : Int32)), (.int (0 : Int32)), (.int (0 : Int32))] (.int (0 : Int32)) := Arv.set B188 q188 s188 u188 H188 G188 rfl W188 1 (by decide) (by simp)
    have Z189 : n0 ≤ h188.size := Nat.le_trans Z186 (Nat.le_of_eq W188.size.symm)
    have N190 := Fr.snoc X188 N187 fr183
    refine own_by st188 ?_
    show own_Go p e below (Q0 Z p1 p2 p3 p4 p5 p6 h0 n0) (own_Fr s room_1.cells room_1.slots) (T188.setTop (mkF m 38 #[.val (.int p1), .val (.int p2), .val (.int p3), .val (.int p4), .val (.int p5), .val (.int p6), .val (.int (4 : Int32)), .val (.int v181), .val (.ref a183), .unset, .unset, .unset] []))
    refine own_aload (pc' := 40) X188 hx rfl rfl (hb hby at_38) rfl ?_
    refine own_iconst (pc' := 41) X188 hx (2 : Int32) (by decide) (hb hby at_40) rfl ?_
    refine own_iloadN (pc' := 42) X188 hx rfl (hb hby at_41) rfl ?_
    obtain ⟨c191, B191, q191, s191, u191, H191, G191⟩ := id A188
    obtain ⟨T191, h191, X191, e191, W191, st191⟩ := stI X188 hx hZ e188 B191 (j := (2 : Int32)) (x := p3) (inb_of s191 (by decide)) (g := (mkF m 42 #[.val (.int p1), .val (.int p2), .val (.int p3), .val (.int p4), .val (.int p5), .val (.int p6), .val (.int (4 : Int32)), .val (.int v181), .val (.ref a183), .unset, .unset, .unset] [(.int p3), (.int (2 : Int32)), (.ref a183)])) rfl rfl (hb hby at_42)
    have A191 : Arv Z h191 a183 cA183 .int (5 : Int32) [(.int p1), (.int p2), (.int p3), (.int (0 : Int32)), (.int (0 : Int32))] (.int (0 : Int32)) := Arv.set B191 q191 s191 u191 H191 G191 rfl W191 2 (by decide) (by simp)
    have Z192 : n0 ≤ h191.size := Nat.le_trans Z189 (Nat.le_of_eq W191.size.symm)
    have N193 := Fr.snoc X191 N190 fr183
    refine own_by st191 ?_
    show own_Go p e below (Q0 Z p1 p2 p3 p4 p5 p6 h0 n0) (own_Fr s room_1.cells room_1.slots) (T191.setTop (mkF m 43 #[.val (.int p1), .val (.int p2), .val (.int p3), .val (.int p4), .val (.int p5), .val (.int p6), .val (.int (4 : Int32)), .val (.int v181), .val (.ref a183), .unset, .unset, .unset] []))
    refine own_aload (pc' := 45) X191 hx rfl rfl (hb hby at_43) rfl ?_
    refine own_iconst (pc' := 46) X191 hx (3 : Int32) (by decide) (hb hby at_45) rfl ?_
    refine own_iloadN (pc' := 47) X191 hx rfl (hb hby at_46) rfl ?_
    obtain ⟨c194, B194, q194, s194, u194, H194, G194⟩ := id A191
    obtain ⟨T194, h194, X194, e194, W194, st194⟩ := stI X191 hx hZ e191 B194 (j := (3 : Int32)) (x := p4) (inb_of s194 (by decide)) (g := (mkF m 47 #[.val (.int p1), .val (.int p2), .val (.int p3), .val (.int p4), .val (.int p5), .val (.int p6), .val (.int (4 : Int32)), .val (.int v181), .val (.ref a183), .unset, .unset, .unset] [(.int p4), (.int (3 : Int32)), (.ref a183)])) rfl rfl (hb hby at_47)
    have A194 : Arv Z h194 a183 cA183 .int (5 : Int32) [(.int p1), (.int p2), (.int p3), (.int p4), (.int (0 : Int32))] (.int (0 : Int32)) := Arv.set B194 q194 s194 u194 H194 G194 rfl W194 3 (by decide) (by simp)
    have Z195 : n0 ≤ h194.size := Nat.le_trans Z192 (Nat.le_of_eq W194.size.symm)
    have N196 := Fr.snoc X194 N193 fr183
    refine own_by st194 ?_
    show own_Go p e below (Q0 Z p1 p2 p3 p4 p5 p6 h0 n0) (own_Fr s room_1.cells room_1.slots) (T194.setTop (mkF m 48 #[.val (.int p1), .val (.int p2), .val (.int p3), .val (.int p4), .val (.int p5), .val (.int p6), .val (.int (4 : Int32)), .val (.int v181), .val (.ref a183), .unset, .unset, .unset] []))
    refine own_aload (pc' := 50) X194 hx rfl rfl (hb hby at_48) rfl ?_
    refine own_iconst (pc' := 51) X194 hx (4 : Int32) (by decide) (hb hby at_50) rfl ?_
    refine own_iload (pc' := 53) X194 hx rfl (hb hby at_51) rfl ?_
    obtain ⟨c197, B197, q197, s197, u197, H197, G197⟩ := id A194
    obtain ⟨T197, h197, X197, e197, W197, st197⟩ := stI X194 hx hZ e194 B197 (j := (4 : Int32)) (x := p5) (inb_of s197 (by decide)) (g := (mkF m 53 #[.val (.int p1), .val (.int p2), .val (.int p3), .val (.int p4), .val (.int p5), .val (.int p6), .val (.int (4 : Int32)), .val (.int v181), .val (.ref a183), .unset, .unset, .unset] [(.int p5), (.int (4 : Int32)), (.ref a183)])) rfl rfl (hb hby at_53)
    have A197 : Arv Z h197 a183 cA183 .int (5 : Int32) [(.int p1), (.int p2), (.int p3), (.int p4), (.int p5)] (.int (0 : Int32)) := Arv.set B197 q197 s197 u197 H197 G197 rfl W197 4 (by decide) (by simp)
    have Z198 : n0 ≤ h197.size := Nat.le_trans Z195 (Nat.le_of_eq W197.size.symm)
    have N199 := Fr.snoc X197 N196 fr183
    refine own_by st197 ?_
    show own_Go p e below (Q0 Z p1 p2 p3 p4 p5 p6 h0 n0) (own_Fr s room_1.cells room_1.slots) (T197.setTop (mkF m 54 #[.val (.int p1), .val (.int p2), .val (.int p3), .val (.int p4), .val (.int p5), .val (.int p6), .val (.int (4 : Int32)), .val (.int v181), .val (.ref a183), .unset, .unset, .unset] []))
    obtain ⟨T200, h200, X200, e200, E200, A200, D200, -, st200⟩ := newO X197 hx hZ hown (hw _ (List.mem_of_getElem? (i := 2) rfl)) (hw _ (List.mem_of_getElem? (i := 3) rfl)) (hw _ (List.mem_of_getElem? (i := 4) rfl)) e197 (g := (mkF m 54 #[.val (.int p1), .val (.int p2), .val (.int p3), .val (.int p4), .val (.int p5), .val (.int p6), .val (.int (4 : Int32)), .val (.int v181), .val (.ref a183), .unset, .unset, .unset] [])) rfl (hb hby at_54) (by decide) (by decide)
    obtain ⟨a200, ga200⟩ : ∃ z, z = h197.size := ⟨_, rfl⟩
    rw [← ga200] at A200 D200 st200
    have n201 : a183 ≠ a200 := Nat.ne_of_lt (ga200.symm ▸ A197.lt)
    have A202 : Arv Z h200 a183 cA183 .int (5 : Int32) [(.int p1), (.int p2), (.int p3), (.int p4), (.int p5)] (.int (0 : Int32)) := A197.ext E200
    have fr200 : n0 ≤ a200 := Nat.le_trans Z198 (Nat.le_of_eq ga200.symm)
    have Z203 : n0 ≤ h200.size := Nat.le_trans Z198 E200.1
    have F204 : Fld Z h200 a200 "com/example/libpundit/libpundit/core/IntList" "values" "[I" .null := D200 (Or.inl (hw _ (List.mem_of_getElem? (i := 12) rfl))) (ty := (.array .int)) (by decide)
    have F205 : Fld Z h200 a200 "com/example/libpundit/libpundit/core/IntList" "size" "I" (.int (0 : Int32)) := D200 (Or.inl (hw _ (List.mem_of_getElem? (i := 19) rfl))) (ty := .int) (by decide)
    refine own_by st200 ?_
    show own_Go p e below (Q0 Z p1 p2 p3 p4 p5 p6 h0 n0) (own_Fr s room_1.cells room_1.slots) (T200.setTop (mkF m 57 #[.val (.int p1), .val (.int p2), .val (.int p3), .val (.int p4), .val (.int p5), .val (.int p6), .val (.int (4 : Int32)), .val (.int v181), .val (.ref a183), .unset, .unset, .unset] [(.ref a200)]))
    refine own_dup (pc' := 58) X200 hx rfl (hb hby at_57) rfl ?_
    obtain ⟨_, _, ⟨T206, L206, k206, n206⟩, -, X206, ⟨Lc206, hQ206, l206, y206, z206⟩, st206⟩ := X200.specialBack hx (y := (⟨"com/example/libpundit/libpundit/core/IntList", "<init>", "()V"⟩ : MethodName)) rfl hown (mvT hZ (hw _ (List.mem_of_getElem? (i := 5) rfl))) (mvT hZ (hw _ (List.mem_of_getElem? (i := 6) rfl))) (mvT hZ (hw _ (List.mem_of_getElem? (i := 7) rfl))) (by decide) (backOf (W := 1) (rmi l Z a0 hw [] a200 h200 n0 Z203 A200 F204 F205 fr200) hZ (hw _ (List.mem_of_getElem? (i := 7) rfl)) (hw _ (List.mem_of_getElem? (i := 4) rfl)) (by decide) (by decide)) (g := (mkF m 58 #[.val (.int p1), .val (.int p2), .val (.int p3), .val (.int p4), .val (.int p5), .val (.int p6), .val (.int (4 : Int32)), .val (.int v181), .val (.ref a183), .unset, .unset, .unset] [(.ref a200), (.ref a200)])) rfl (by rw [hml]; rfl) (Steps.refl _) (a := a200) (argsL := []) (rest := [(.ref a200)]) (lenOf pd_2 rfl) rfl (by show 2 * 0 + _ ≤ _; exact Nat.le_of_eq rfl) (hb hby at_58) (fun _ _ => ⟨rfl, e200, (by decide : 2 + 1 ≤ _), (by decide : 7 + 4 ≤ _)⟩)
    dsimp only [Pt.U, Pt.locs, Pt.cells, Pt.slots] at X206 l206 y206 z206 st206 hQ206
    subst l206 y206 z206
    obtain ⟨ar_206, kc_206, rfl, pp206, N206, Kc206, gc206_ar, Ec206_a1, Ec206_ar, Fc206_0, Fc206_1, Ac206_ar⟩ := hQ206
    have n207 : a200 ≠ ar_206 := Nat.ne_of_lt (Nat.lt_of_lt_of_le A200.lt gc206_ar)
    have n208 : a183 ≠ ar_206 := Nat.ne_of_lt (Nat.lt_of_lt_of_le A202.lt gc206_ar)
    have frar_206 : n0 ≤ ar_206 := Nat.le_trans Z203 gc206_ar
    have A209 : Arv Z T206.heap a183 cA183 .int (5 : Int32) [(.int p1), (.int p2), (.int p3), (.int p4), (.int p5)] (.int (0 : Int32)) := A202.keep Kc206 (ninS n201 nin0)
    have Z210 : n0 ≤ T206.heap.size := Nat.le_trans Z203 Kc206.1
    have N206a := Fr.app N199 N206
    refine own_via st206 ?_
    show own_Go p e below (Q0 Z p1 p2 p3 p4 p5 p6 h0 n0) (own_Fr s room_1.cells room_1.slots) (T206.setTop (mkF m 61 #[.val (.int p1), .val (.int p2), .val (.int p3), .val (.int p4), .val (.int p5), .val (.int p6), .val (.int (4 : Int32)), .val (.int v181), .val (.ref a183), .unset, .unset, .unset] [(.ref a200)]))
    refine own_astore (pc' := 63) X206 hx #[.val (.int p1), .val (.int p2), .val (.int p3), .val (.int p4), .val (.int p5), .val (.int p6), .val (.int (4 : Int32)), .val (.int v181), .val (.ref a183), .val (.ref a200), .unset, .unset] rfl rfl (hb hby at_61) rfl ?_
    refine own_aload (pc' := 65) X206 hx rfl rfl (hb hby at_63) rfl ?_
    refine own_iloadN (pc' := 66) X206 hx rfl (hb hby at_65) rfl ?_
    obtain ⟨cq211, kq211, q211a, q211b, q211c⟩ := isOf hZ rfl Ec206_a1
    obtain ⟨_, _, ⟨T211, L211, k211, n211⟩, -, X211, ⟨Lc211, hQ211, l211, y211, z211⟩, st211⟩ := X206.virtualBack hx (y := (⟨"com/example/libpundit/libpundit/core/IntList", "add", "(I)V"⟩ : MethodName)) (z := (⟨"com/example/libpundit/libpundit/core/IntList", "add", "(I)V"⟩ : MethodName)) hown (mvT hZ (hw _ (List.mem_of_getElem? (i := 13) rfl))) (mvT hZ (hw _ (List.mem_of_getElem? (i := 14) rfl))) (notFace_of_selects (args := #[]) (mvT hZ (hw _ (List.mem_of_getElem? (i := 16) rfl)))) (mvT hZ (hw _ (List.mem_of_getElem? (i := 16) rfl))) (mvT hZ (hw _ (List.mem_of_getElem? (i := 15) rfl))) (by decide) (backOf (W := 0) (rma0 l Z a0 hw [] a200 p1 ar_206 kc_206 T206.heap n0 Z210 Ec206_a1 Ec206_ar Fc206_0 Fc206_1 Ac206_ar fr200 frar_206 n207) hZ (hw _ (List.mem_of_getElem? (i := 17) rfl)) (hw _ (List.mem_of_getElem? (i := 4) rfl)) (by decide) (by decide)) q211a q211c (g := (mkF m 66 #[.val (.int p1), .val (.int p2), .val (.int p3), .val (.int p4), .val (.int p5), .val (.int p6), .val (.int (4 : Int32)), .val (.int v181), .val (.ref a183), .val (.ref a200), .unset, .unset] [(.int p1), (.ref a200)])) rfl (by rw [hml]; rfl) (Steps.refl _) (argsL := [(.int p1)]) (rest := []) (lenOf pd_3 rfl) rfl (by show 2 * 0 + _ ≤ _; exact Nat.le_of_eq rfl) (hb hby at_66) (fun _ _ => ⟨rfl, rfl, (by decide : 3 + 0 ≤ _), (by decide : 11 + 0 ≤ _)⟩)
    dsimp only [Pt.U, Pt.locs, Pt.cells, Pt.slots] at X211 l211 y211 z211 st211 hQ211
    subst l211 y211 z211
    obtain ⟨rfl, pp211, N211, Kc211, Ec211_a1, Ec211_ar, Fc211_0, Fc211_1, Ac211_ar⟩ := hQ211
    have A212 : Arv Z T211.heap a183 cA183 .int (5 : Int32) [(.int p1), (.int p2), (.int p3), (.int p4), (.int p5)] (.int (0 : Int32)) := A209.keep Kc211 (ninS n201 (ninS n208 nin0))
    have Z213 : n0 ≤ T211.heap.size := Nat.le_trans Z210 Kc211.1
    have N211a := Fr.app N206a N211
    refine own_via st211 ?_
    show own_Go p e below (Q0 Z p1 p2 p3 p4 p5 p6 h0 n0) (own_Fr s room_1.cells room_1.slots) (T211.setTop (mkF m 69 #[.val (.int p1), .val (.int p2), .val (.int p3), .val (.int p4), .val (.int p5), .val (.int p6), .val (.int (4 : Int32)), .val (.int v181), .val (.ref a183), .val (.ref a200), .unset, .unset] []))
    refine own_iload (pc' := 71) X211 hx rfl (hb hby at_69) rfl ?_
    refine own_iconst (pc' := 72) X211 hx (1 : Int32) (by decide) (hb hby at_71) rfl ?_
    refine own_icmpNo (pc' := 75) X211 hx (by decide) (hb hby at_72) rfl ?_
    refine own_aload (pc' := 77) X211 hx rfl rfl (hb hby at_75) rfl ?_
    refine own_iloadN (pc' := 78) X211 hx rfl (hb hby at_77) rfl ?_
    obtain ⟨cq214, kq214, q214a, q214b, q214c⟩ := isOf hZ rfl Ec211_a1
    obtain ⟨_, _, ⟨T214, L214, k214, n214⟩, -, X214, ⟨Lc214, hQ214, l214, y214, z214⟩, st214⟩ := X211.virtualBack hx (y := (⟨"com/example/libpundit/libpundit/core/IntList", "add", "(I)V"⟩ : MethodName)) (z := (⟨"com/example/libpundit/libpundit/core/IntList", "add", "(I)V"⟩ : MethodName)) hown (mvT hZ (hw _ (List.mem_of_getElem? (i := 13) rfl))) (mvT hZ (hw _ (List.mem_of_getElem? (i := 14) rfl))) (notFace_of_selects (args := #[]) (mvT hZ (hw _ (List.mem_of_getElem? (i := 16) rfl)))) (mvT hZ (hw _ (List.mem_of_getElem? (i := 16) rfl))) (mvT hZ (hw _ (List.mem_of_getElem? (i := 15) rfl))) (by decide) (backOf (W := 0) (rma1 l Z a0 hw [] a200 p2 ar_206 kc_206 p1 T211.heap n0 Z213 Ec211_a1 Ec211_ar Fc211_0 Fc211_1 Ac211_ar fr200 frar_206 n207) hZ (hw _ (List.mem_of_getElem? (i := 17) rfl)) (hw _ (List.mem_of_getElem? (i := 4) rfl)) (by decide) (by decide)) q214a q214c (g := (mkF m 78 #[.val (.int p1), .val (.int p2), .val (.int p3), .val (.int p4), .val (.int p5), .val (.int p6), .val (.int (4 : Int32)), .val (.int v181), .val (.ref a183), .val (.ref a200), .unset, .unset] [(.int p2), (.ref a200)])) rfl (by rw [hml]; rfl) (Steps.refl _) (argsL := [(.int p2)]) (rest := []) (lenOf pd_3 rfl) rfl (by show 2 * 0 + _ ≤ _; exact Nat.le_of_eq rfl) (hb hby at_78) (fun _ _ => ⟨rfl, rfl, (by decide : 3 + 0 ≤ _), (by decide : 11 + 0 ≤ _)⟩)
    dsimp only [Pt.U, Pt.locs, Pt.cells, Pt.slots] at X214 l214 y214 z214 st214 hQ214
    subst l214 y214 z214
    obtain ⟨rfl, pp214, N214, Kc214, Ec214_a1, Ec214_ar, Fc214_0, Fc214_1, Ac214_ar⟩ := hQ214
    have A215 : Arv Z T214.heap a183 cA183 .int (5 : Int32) [(.int p1), (.int p2), (.int p3), (.int p4), (.int p5)] (.int (0 : Int32)) := A212.keep Kc214 (ninS n201 (ninS n208 nin0))
    have Z216 : n0 ≤ T214.heap.size := Nat.le_trans Z213 Kc214.1
    have N214a := Fr.app N211a N214
    refine own_via st214 ?_
    show own_Go p e below (Q0 Z p1 p2 p3 p4 p5 p6 h0 n0) (own_Fr s room_1.cells room_1.slots) (T214.setTop (mkF m 81 #[.val (.int p1), .val (.int p2), .val (.int p3), .val (.int p4), .val (.int p5), .val (.int p6), .val (.int (4 : Int32)), .val (.int v181), .val (.ref a183), .val (.ref a200), .unset, .unset] []))
    refine own_iload (pc' := 83) X214 hx rfl (hb hby at_81) rfl ?_
    refine own_iconst (pc' := 84) X214 hx (2 : Int32) (by decide) (hb hby at_83) rfl ?_
    refine own_icmpNo (pc' := 87) X214 hx (by decide) (hb hby at_84) rfl ?_
    refine own_aload (pc' := 89) X214 hx rfl rfl (hb hby at_87) rfl ?_
    refine own_iloadN (pc' := 90) X214 hx rfl (hb hby at_89) rfl ?_
    obtain ⟨cq217, kq217, q217a, q217b, q217c⟩ := isOf hZ rfl Ec214_a1
    obtain ⟨_, _, ⟨T217, L217, k217, n217⟩, -, X217, ⟨Lc217, hQ217, l217, y217, z217⟩, st217⟩ := X214.virtualBack hx (y := (⟨"com/example/libpundit/libpundit/core/IntList", "add", "(I)V"⟩ : MethodName)) (z := (⟨"com/example/libpundit/libpundit/core/IntList", "add", "(I)V"⟩ : MethodName)) hown (mvT hZ (hw _ (List.mem_of_getElem? (i := 13) rfl))) (mvT hZ (hw _ (List.mem_of_getElem? (i := 14) rfl))) (notFace_of_selects (args := #[]) (mvT hZ (hw _ (List.mem_of_getElem? (i := 16) rfl)))) (mvT hZ (hw _ (List.mem_of_getElem? (i := 16) rfl))) (mvT hZ (hw _ (List.mem_of_getElem? (i := 15) rfl))) (by decide) (backOf (W := 0) (rma2 l Z a0 hw [] a200 p3 ar_206 kc_206 p1 p2 T214.heap n0 Z216 Ec214_a1 Ec214_ar Fc214_0 Fc214_1 Ac214_ar fr200 frar_206 n207) hZ (hw _ (List.mem_of_getElem? (i := 17) rfl)) (hw _ (List.mem_of_getElem? (i := 4) rfl)) (by decide) (by decide)) q217a q217c (g := (mkF m 90 #[.val (.int p1), .val (.int p2), .val (.int p3), .val (.int p4), .val (.int p5), .val (.int p6), .val (.int (4 : Int32)), .val (.int v181), .val (.ref a183), .val (.ref a200), .unset, .unset] [(.int p3), (.ref a200)])) rfl (by rw [hml]; rfl) (Steps.refl _) (argsL := [(.int p3)]) (rest := []) (lenOf pd_3 rfl) rfl (by show 2 * 0 + _ ≤ _; exact Nat.le_of_eq rfl) (hb hby at_90) (fun _ _ => ⟨rfl, rfl, (by decide : 3 + 0 ≤ _), (by decide : 11 + 0 ≤ _)⟩)
    dsimp only [Pt.U, Pt.locs, Pt.cells, Pt.slots] at X217 l217 y217 z217 st217 hQ217
    subst l217 y217 z217
    obtain ⟨rfl, pp217, N217, Kc217, Ec217_a1, Ec217_ar, Fc217_0, Fc217_1, Ac217_ar⟩ := hQ217
    have A218 : Arv Z T217.heap a183 cA183 .int (5 : Int32) [(.int p1), (.int p2), (.int p3), (.int p4), (.int p5)] (.int (0 : Int32)) := A215.keep Kc217 (ninS n201 (ninS n208 nin0))
    have Z219 : n0 ≤ T217.heap.size := Nat.le_trans Z216 Kc217.1
    have N217a := Fr.app N214a N217
    refine own_via st217 ?_
    show own_Go p e below (Q0 Z p1 p2 p3 p4 p5 p6 h0 n0) (own_Fr s room_1.cells room_1.slots) (T217.setTop (mkF m 93 #[.val (.int p1), .val (.int p2), .val (.int p3), .val (.int p4), .val (.int p5), .val (.int p6), .val (.int (4 : Int32)), .val (.int v181), .val (.ref a183), .val (.ref a200), .unset, .unset] []))
    refine own_iload (pc' := 95) X217 hx rfl (hb hby at_93) rfl ?_
    refine own_iconst (pc' := 96) X217 hx (3 : Int32) (by decide) (hb hby at_95) rfl ?_
    refine own_icmpNo (pc' := 99) X217 hx (by decide) (hb hby at_96) rfl ?_
    refine own_aload (pc' := 101) X217 hx rfl rfl (hb hby at_99) rfl ?_
    refine own_iloadN (pc' := 102) X217 hx rfl (hb hby at_101) rfl ?_
    obtain ⟨cq220, kq220, q220a, q220b, q220c⟩ := isOf hZ rfl Ec217_a1
    obtain ⟨_, _, ⟨T220, L220, k220, n220⟩, -, X220, ⟨Lc220, hQ220, l220, y220, z220⟩, st220⟩ := X217.virtualBack hx (y := (⟨"com/example/libpundit/libpundit/core/IntList", "add", "(I)V"⟩ : MethodName)) (z := (⟨"com/example/libpundit/libpundit/core/IntList", "add", "(I)V"⟩ : MethodName)) hown (mvT hZ (hw _ (List.mem_of_getElem? (i := 13) rfl))) (mvT hZ (hw _ (List.mem_of_getElem? (i := 14) rfl))) (notFace_of_selects (args := #[]) (mvT hZ (hw _ (List.mem_of_getElem? (i := 16) rfl)))) (mvT hZ (hw _ (List.mem_of_getElem? (i := 16) rfl))) (mvT hZ (hw _ (List.mem_of_getElem? (i := 15) rfl))) (by decide) (backOf (W := 0) (rma3 l Z a0 hw [] a200 p4 ar_206 kc_206 p1 p2 p3 T217.heap n0 Z219 Ec217_a1 Ec217_ar Fc217_0 Fc217_1 Ac217_ar fr200 frar_206 n207) hZ (hw _ (List.mem_of_getElem? (i := 17) rfl)) (hw _ (List.mem_of_getElem? (i := 4) rfl)) (by decide) (by decide)) q220a q220c (g := (mkF m 102 #[.val (.int p1), .val (.int p2), .val (.int p3), .val (.int p4), .val (.int p5), .val (.int p6), .val (.int (4 : Int32)), .val (.int v181), .val (.ref a183), .val (.ref a200), .unset, .unset] [(.int p4), (.ref a200)])) rfl (by rw [hml]; rfl) (Steps.refl _) (argsL := [(.int p4)]) (rest := []) (lenOf pd_3 rfl) rfl (by show 2 * 0 + _ ≤ _; exact Nat.le_of_eq rfl) (hb hby at_102) (fun _ _ => ⟨rfl, rfl, (by decide : 3 + 0 ≤ _), (by decide : 11 + 0 ≤ _)⟩)
    dsimp only [Pt.U, Pt.locs, Pt.cells, Pt.slots] at X220 l220 y220 z220 st220 hQ220
    subst l220 y220 z220
    obtain ⟨rfl, pp220, N220, Kc220, Ec220_a1, Ec220_ar, Fc220_0, Fc220_1, Ac220_ar⟩ := hQ220
    have A221 : Arv Z T220.heap a183 cA183 .int (5 : Int32) [(.int p1), (.int p2), (.int p3), (.int p4), (.int p5)] (.int (0 : Int32)) := A218.keep Kc220 (ninS n201 (ninS n208 nin0))
    have Z222 : n0 ≤ T220.heap.size := Nat.le_trans Z219 Kc220.1
    have N220a := Fr.app N217a N220
    refine own_via st220 ?_
    show own_Go p e below (Q0 Z p1 p2 p3 p4 p5 p6 h0 n0) (own_Fr s room_1.cells room_1.slots) (T220.setTop (mkF m 105 #[.val (.int p1), .val (.int p2), .val (.int p3), .val (.int p4), .val (.int p5), .val (.int p6), .val (.int (4 : Int32)), .val (.int v181), .val (.ref a183), .val (.ref a200), .unset, .unset] []))
    refine own_iload (pc' := 107) X220 hx rfl (hb hby at_105) rfl ?_
    refine own_iconst (pc' := 108) X220 hx (4 : Int32) (by decide) (hb hby at_107) rfl ?_
    refine own_icmpYes (pc' := 118) X220 hx (hb hby at_108) (by decide) (by decide) (by decide) ?_
    have b223 : v181.toInt = 0 ∨ v181.toInt = 1 ∨ v181.toInt = 2 ∨ v181.toInt = 3 := by omega
    rcases b223 with b223 | b223 | b223 | b223
    · obtain rfl : v181 = (0 : Int32) := Int32.toInt_inj.mp b223
      have kz224 : (0 : Int32).toInt = 0 := by decide
      refine own_aload (pc' := 120) X220 hx rfl rfl (hb hby at_118) rfl ?_
      refine own_iload (pc' := 122) X220 hx rfl (hb hby at_120) rfl ?_
      obtain ⟨cq225, kq225, q225a, q225b, q225c⟩ := isOf hZ rfl Ec220_a1
      obtain ⟨_, _, ⟨T225, L225, k225, n225⟩, -, X225, ⟨Lc225, hQ225, l225, y225, z225⟩, st225⟩ := X220.virtualBack hx (y := (⟨"com/example/libpundit/libpundit/core/IntList", "get", "(I)I"⟩ : MethodName)) (z := (⟨"com/example/libpundit/libpundit/core/IntList", "get", "(I)I"⟩ : MethodName)) hown (mvT hZ (hw _ (List.mem_of_getElem? (i := 20) rfl))) (mvT hZ (hw _ (List.mem_of_getElem? (i := 21) rfl))) (notFace_of_selects (args := #[]) (mvT hZ (hw _ (List.mem_of_getElem? (i := 23) rfl)))) (mvT hZ (hw _ (List.mem_of_getElem? (i := 23) rfl))) (mvT hZ (hw _ (List.mem_of_getElem? (i := 22) rfl))) (by decide) (backOf (W := 0) (rmg0_4 l Z a0 hw [] a200 ar_206 kc_206 p1 p2 p3 p4 T220.heap n0 Z222 Fc220_0 Fc220_1 Ac220_ar) hZ (hw _ (List.mem_of_getElem? (i := 24) rfl)) (hw _ (List.mem_of_getElem? (i := 4) rfl)) (by decide) (by decide)) q225a q225c (g := (mkF m 122 #[.val (.int p1), .val (.int p2), .val (.int p3), .val (.int p4), .val (.int p5), .val (.int p6), .val (.int (4 : Int32)), .val (.int (0 : Int32)), .val (.ref a183), .val (.ref a200), .unset, .unset] [(.int (0 : Int32)), (.ref a200)])) rfl (by rw [hml]; rfl) (Steps.refl _) (argsL := [(.int (0 : Int32))]) (rest := []) (lenOf pd_5 rfl) rfl (by show 2 * 0 + _ ≤ _; exact Nat.le_of_eq rfl) (hb hby at_122) (fun _ _ => ⟨rfl, rfl, (by decide : 3 + 0 ≤ _), (by decide : 11 + 0 ≤ _)⟩)
      dsimp only [Pt.U, Pt.locs, Pt.cells, Pt.slots] at X225 l225 y225 z225 st225 hQ225
      subst l225 y225 z225
      obtain ⟨rfl, pp225, N225, e225⟩ := hQ225
      have N225a := Fr.app N220a N225
      refine own_via st225 ?_
      show own_Go p e below (Q0 Z p1 p2 p3 p4 p5 p6 h0 n0) (own_Fr s room_1.cells room_1.slots) (T225.setTop (mkF m 125 #[.val (.int p1), .val (.int p2), .val (.int p3), .val (.int p4), .val (.int p5), .val (.int p6), .val (.int (4 : Int32)), .val (.int (0 : Int32)), .val (.ref a183), .val (.ref a200), .unset, .unset] [(.int p1)]))
      refine own_istore (pc' := 127) X225 hx #[.val (.int p1), .val (.int p2), .val (.int p3), .val (.int p4), .val (.int p5), .val (.int p6), .val (.int (4 : Int32)), .val (.int (0 : Int32)), .val (.ref a183), .val (.ref a200), .val (.int p1), .unset] rfl (hb hby at_125) rfl ?_
      refine own_aload (pc' := 129) X225 hx rfl rfl (hb hby at_127) rfl ?_
      refine own_iload (pc' := 131) X225 hx rfl (hb hby at_129) rfl ?_
      refine own_iconst (pc' := 132) X225 hx (1 : Int32) (by decide) (hb hby at_131) rfl ?_
      refine own_isub (pc' := 133) X225 hx (z := (3 : Int32)) (by decide) (hb hby at_132) rfl ?_
      obtain ⟨cq226, kq226, q226a, q226b, q226c⟩ := isOf hZ e225 Ec220_a1
      obtain ⟨_, _, ⟨T226, L226, k226, n226⟩, -, X226, ⟨Lc226, hQ226, l226, y226, z226⟩, st226⟩ := X225.virtualBack hx (y := (⟨"com/example/libpundit/libpundit/core/IntList", "get", "(I)I"⟩ : MethodName)) (z := (⟨"com/example/libpundit/libpundit/core/IntList", "get", "(I)I"⟩ : MethodName)) hown (mvT hZ (hw _ (List.mem_of_getElem? (i := 20) rfl))) (mvT hZ (hw _ (List.mem_of_getElem? (i := 21) rfl))) (notFace_of_selects (args := #[]) (mvT hZ (hw _ (List.mem_of_getElem? (i := 23) rfl)))) (mvT hZ (hw _ (List.mem_of_getElem? (i := 23) rfl))) (mvT hZ (hw _ (List.mem_of_getElem? (i := 22) rfl))) (by decide) (backOf (W := 0) (rmg3_4 l Z a0 hw [] a200 ar_206 kc_206 p1 p2 p3 p4 T220.heap n0 Z222 Fc220_0 Fc220_1 Ac220_ar) hZ (hw _ (List.mem_of_getElem? (i := 24) rfl)) (hw _ (List.mem_of_getElem? (i := 4) rfl)) (by decide) (by decide)) q226a q226c (g := (mkF m 133 #[.val (.int p1), .val (.int p2), .val (.int p3), .val (.int p4), .val (.int p5), .val (.int p6), .val (.int (4 : Int32)), .val (.int (0 : Int32)), .val (.ref a183), .val (.ref a200), .val (.int p1), .unset] [(.int (3 : Int32)), (.ref a200)])) rfl (by rw [hml]; rfl) (Steps.refl _) (argsL := [(.int (3 : Int32))]) (rest := []) (lenOf pd_5 rfl) rfl (by show 2 * 0 + _ ≤ _; exact Nat.le_of_eq rfl) (hb hby at_133) (fun _ _ => ⟨rfl, e225, (by decide : 3 + 0 ≤ _), (by decide : 11 + 0 ≤ _)⟩)
      dsimp only [Pt.U, Pt.locs, Pt.cells, Pt.slots] at X226 l226 y226 z226 st226 hQ226
      subst l226 y226 z226
      obtain ⟨rfl, pp226, N226, e226⟩ := hQ226
      have N226a := Fr.app N225a N226
      refine own_via st226 ?_
      show own_Go p e below (Q0 Z p1 p2 p3 p4 p5 p6 h0 n0) (own_Fr s room_1.cells room_1.slots) (T226.setTop (mkF m 136 #[.val (.int p1), .val (.int p2), .val (.int p3), .val (.int p4), .val (.int p5), .val (.int p6), .val (.int (4 : Int32)), .val (.int (0 : Int32)), .val (.ref a183), .val (.ref a200), .val (.int p1), .unset] [(.int p4)]))
      refine own_istore (pc' := 138) X226 hx #[.val (.int p1), .val (.int p2), .val (.int p3), .val (.int p4), .val (.int p5), .val (.int p6), .val (.int (4 : Int32)), .val (.int (0 : Int32)), .val (.ref a183), .val (.ref a200), .val (.int p1), .val (.int p4)] rfl (hb hby at_136) rfl ?_
      refine own_iload (pc' := 140) X226 hx rfl (hb hby at_138) rfl ?_
      refine own_aload (pc' := 142) X226 hx rfl rfl (hb hby at_140) rfl ?_
      refine own_iload (pc' := 144) X226 hx rfl (hb hby at_142) rfl ?_
      obtain ⟨c227, B227, q227, s227, u227, H227, G227⟩ := id A221
      have i227 := inb_of s227 (j := (0 : Int32)) (by decide)
      refine own_by (X226.iaload hx (j := (0 : Int32)) (v := (.int p1)) (by rw [e226]; exact B227.1) (State.isArrayOf_alike hZ.alike B227.2.1) B227.2.2 i227 (H227.at i227 rfl) (g := (mkF m 144 #[.val (.int p1), .val (.int p2), .val (.int p3), .val (.int p4), .val (.int p5), .val (.int p6), .val (.int (4 : Int32)), .val (.int (0 : Int32)), .val (.ref a183), .val (.ref a200), .val (.int p1), .val (.int p4)] [(.int (0 : Int32)), (.ref a183), (.int p1)])) rfl rfl (hb hby at_144)) ?_
      show own_Go p e below (Q0 Z p1 p2 p3 p4 p5 p6 h0 n0) (own_Fr s room_1.cells room_1.slots) (T226.setTop (mkF m 145 #[.val (.int p1), .val (.int p2), .val (.int p3), .val (.int p4), .val (.int p5), .val (.int p6), .val (.int (4 : Int32)), .val (.int (0 : Int32)), .val (.ref a183), .val (.ref a200), .val (.int p1), .val (.int p4)] [(.int p1), (.int p1)]))
      have b228 : p1.toInt = p1.toInt := by omega
      refine own_icmpNo (pc' := 148) X226 hx (own_no_ne rfl rfl b228) (hb hby at_145) rfl ?_
      refine own_iload (pc' := 150) X226 hx rfl (hb hby at_148) rfl ?_
      refine own_aload (pc' := 152) X226 hx rfl rfl (hb hby at_150) rfl ?_
      refine own_iload (pc' := 154) X226 hx rfl (hb hby at_152) rfl ?_
      refine own_iconst (pc' := 155) X226 hx (1 : Int32) (by decide) (hb hby at_154) rfl ?_
      refine own_isub (pc' := 156) X226 hx (z := (3 : Int32)) (by decide) (hb hby at_155) rfl ?_
      obtain ⟨c229, B229, q229, s229, u229, H229, G229⟩ := id A221
      have i229 := inb_of s229 (j := (3 : Int32)) (by decide)
      refine own_by (X226.iaload hx (j := (3 : Int32)) (v := (.int p4)) (by rw [e226]; exact B229.1) (State.isArrayOf_alike hZ.alike B229.2.1) B229.2.2 i229 (H229.at i229 rfl) (g := (mkF m 156 #[.val (.int p1), .val (.int p2), .val (.int p3), .val (.int p4), .val (.int p5), .val (.int p6), .val (.int (4 : Int32)), .val (.int (0 : Int32)), .val (.ref a183), .val (.ref a200), .val (.int p1), .val (.int p4)] [(.int (3 : Int32)), (.ref a183), (.int p4)])) rfl rfl (hb hby at_156)) ?_
      show own_Go p e below (Q0 Z p1 p2 p3 p4 p5 p6 h0 n0) (own_Fr s room_1.cells room_1.slots) (T226.setTop (mkF m 157 #[.val (.int p1), .val (.int p2), .val (.int p3), .val (.int p4), .val (.int p5), .val (.int p6), .val (.int (4 : Int32)), .val (.int (0 : Int32)), .val (.ref a183), .val (.ref a200), .val (.int p1), .val (.int p4)] [(.int p4), (.int p4)]))
      have b230 : p4.toInt = p4.toInt := by omega
      refine own_icmpNo (pc' := 160) X226 hx (own_no_ne rfl rfl b230) (hb hby at_157) rfl ?_
      refine own_iconst (pc' := 161) X226 hx (1 : Int32) (by decide) (hb hby at_160) rfl ?_
      refine own_goto (pc' := 165) X226 hx (hb hby at_161) (by decide) (by decide) ?_
      refine own_ret X226 hx Bd.returns Bd.notSynchronized (Or.inl ⟨rfl, by simp, _, rfl⟩) (hb hby at_165) rfl (by decide) (by decide) ?_
      show Q0 Z p1 p2 p3 p4 p5 p6 h0 n0 _ T226.heap _
      rw [e226]
      exact ⟨rfl, N226a⟩
    · obtain rfl : v181 = (1 : Int32) := Int32.toInt_inj.mp b223
      have kz231 : (1 : Int32).toInt = 1 := by decide
      refine own_aload (pc' := 120) X220 hx rfl rfl (hb hby at_118) rfl ?_
      refine own_iload (pc' := 122) X220 hx rfl (hb hby at_120) rfl ?_
      obtain ⟨cq232, kq232, q232a, q232b, q232c⟩ := isOf hZ rfl Ec220_a1
      obtain ⟨_, _, ⟨T232, L232, k232, n232⟩, -, X232, ⟨Lc232, hQ232, l232, y232, z232⟩, st232⟩ := X220.virtualBack hx (y := (⟨"com/example/libpundit/libpundit/core/IntList", "get", "(I)I"⟩ : MethodName)) (z := (⟨"com/example/libpundit/libpundit/core/IntList", "get", "(I)I"⟩ : MethodName)) hown (mvT hZ (hw _ (List.mem_of_getElem? (i := 20) rfl))) (mvT hZ (hw _ (List.mem_of_getElem? (i := 21) rfl))) (notFace_of_selects (args := #[]) (mvT hZ (hw _ (List.mem_of_getElem? (i := 23) rfl)))) (mvT hZ (hw _ (List.mem_of_getElem? (i := 23) rfl))) (mvT hZ (hw _ (List.mem_of_getElem? (i := 22) rfl))) (by decide) (backOf (W := 0) (rmg1_4 l Z a0 hw [] a200 ar_206 kc_206 p1 p2 p3 p4 T220.heap n0 Z222 Fc220_0 Fc220_1 Ac220_ar) hZ (hw _ (List.mem_of_getElem? (i := 24) rfl)) (hw _ (List.mem_of_getElem? (i := 4) rfl)) (by decide) (by decide)) q232a q232c (g := (mkF m 122 #[.val (.int p1), .val (.int p2), .val (.int p3), .val (.int p4), .val (.int p5), .val (.int p6), .val (.int (4 : Int32)), .val (.int (1 : Int32)), .val (.ref a183), .val (.ref a200), .unset, .unset] [(.int (1 : Int32)), (.ref a200)])) rfl (by rw [hml]; rfl) (Steps.refl _) (argsL := [(.int (1 : Int32))]) (rest := []) (lenOf pd_5 rfl) rfl (by show 2 * 0 + _ ≤ _; exact Nat.le_of_eq rfl) (hb hby at_122) (fun _ _ => ⟨rfl, rfl, (by decide : 3 + 0 ≤ _), (by decide : 11 + 0 ≤ _)⟩)
      dsimp only [Pt.U, Pt.locs, Pt.cells, Pt.slots] at X232 l232 y232 z232 st232 hQ232
      subst l232 y232 z232
      obtain ⟨rfl, pp232, N232, e232⟩ := hQ232
      have N232a := Fr.app N220a N232
      refine own_via st232 ?_
      show own_Go p e below (Q0 Z p1 p2 p3 p4 p5 p6 h0 n0) (own_Fr s room_1.cells room_1.slots) (T232.setTop (mkF m 125 #[.val (.int p1), .val (.int p2), .val (.int p3), .val (.int p4), .val (.int p5), .val (.int p6), .val (.int (4 : Int32)), .val (.int (1 : Int32)), .val (.ref a183), .val (.ref a200), .unset, .unset] [(.int p2)]))
      refine own_istore (pc' := 127) X232 hx #[.val (.int p1), .val (.int p2), .val (.int p3), .val (.int p4), .val (.int p5), .val (.int p6), .val (.int (4 : Int32)), .val (.int (1 : Int32)), .val (.ref a183), .val (.ref a200), .val (.int p2), .unset] rfl (hb hby at_125) rfl ?_
      refine own_aload (pc' := 129) X232 hx rfl rfl (hb hby at_127) rfl ?_
      refine own_iload (pc' := 131) X232 hx rfl (hb hby at_129) rfl ?_
      refine own_iconst (pc' := 132) X232 hx (1 : Int32) (by decide) (hb hby at_131) rfl ?_
      refine own_isub (pc' := 133) X232 hx (z := (3 : Int32)) (by decide) (hb hby at_132) rfl ?_
      obtain ⟨cq233, kq233, q233a, q233b, q233c⟩ := isOf hZ e232 Ec220_a1
      obtain ⟨_, _, ⟨T233, L233, k233, n233⟩, -, X233, ⟨Lc233, hQ233, l233, y233, z233⟩, st233⟩ := X232.virtualBack hx (y := (⟨"com/example/libpundit/libpundit/core/IntList", "get", "(I)I"⟩ : MethodName)) (z := (⟨"com/example/libpundit/libpundit/core/IntList", "get", "(I)I"⟩ : MethodName)) hown (mvT hZ (hw _ (List.mem_of_getElem? (i := 20) rfl))) (mvT hZ (hw _ (List.mem_of_getElem? (i := 21) rfl))) (notFace_of_selects (args := #[]) (mvT hZ (hw _ (List.mem_of_getElem? (i := 23) rfl)))) (mvT hZ (hw _ (List.mem_of_getElem? (i := 23) rfl))) (mvT hZ (hw _ (List.mem_of_getElem? (i := 22) rfl))) (by decide) (backOf (W := 0) (rmg3_4 l Z a0 hw [] a200 ar_206 kc_206 p1 p2 p3 p4 T220.heap n0 Z222 Fc220_0 Fc220_1 Ac220_ar) hZ (hw _ (List.mem_of_getElem? (i := 24) rfl)) (hw _ (List.mem_of_getElem? (i := 4) rfl)) (by decide) (by decide)) q233a q233c (g := (mkF m 133 #[.val (.int p1), .val (.int p2), .val (.int p3), .val (.int p4), .val (.int p5), .val (.int p6), .val (.int (4 : Int32)), .val (.int (1 : Int32)), .val (.ref a183), .val (.ref a200), .val (.int p2), .unset] [(.int (3 : Int32)), (.ref a200)])) rfl (by rw [hml]; rfl) (Steps.refl _) (argsL := [(.int (3 : Int32))]) (rest := []) (lenOf pd_5 rfl) rfl (by show 2 * 0 + _ ≤ _; exact Nat.le_of_eq rfl) (hb hby at_133) (fun _ _ => ⟨rfl, e232, (by decide : 3 + 0 ≤ _), (by decide : 11 + 0 ≤ _)⟩)
      dsimp only [Pt.U, Pt.locs, Pt.cells, Pt.slots] at X233 l233 y233 z233 st233 hQ233
      subst l233 y233 z233
      obtain ⟨rfl, pp233, N233, e233⟩ := hQ233
      have N233a := Fr.app N232a N233
      refine own_via st233 ?_
      show own_Go p e below (Q0 Z p1 p2 p3 p4 p5 p6 h0 n0) (own_Fr s room_1.cells room_1.slots) (T233.setTop (mkF m 136 #[.val (.int p1), .val (.int p2), .val (.int p3), .val (.int p4), .val (.int p5), .val (.int p6), .val (.int (4 : Int32)), .val (.int (1 : Int32)), .val (.ref a183), .val (.ref a200), .val (.int p2), .unset] [(.int p4)]))
      refine own_istore (pc' := 138) X233 hx #[.val (.int p1), .val (.int p2), .val (.int p3), .val (.int p4), .val (.int p5), .val (.int p6), .val (.int (4 : Int32)), .val (.int (1 : Int32)), .val (.ref a183), .val (.ref a200), .val (.int p2), .val (.int p4)] rfl (hb hby at_136) rfl ?_
      refine own_iload (pc' := 140) X233 hx rfl (hb hby at_138) rfl ?_
      refine own_aload (pc' := 142) X233 hx rfl rfl (hb hby at_140) rfl ?_
      refine own_iload (pc' := 144) X233 hx rfl (hb hby at_142) rfl ?_
      obtain ⟨c234, B234, q234, s234, u234, H234, G234⟩ := id A221
      have i234 := inb_of s234 (j := (1 : Int32)) (by decide)
      refine own_by (X233.iaload hx (j := (1 : Int32)) (v := (.int p2)) (by rw [e233]; exact B234.1) (State.isArrayOf_alike hZ.alike B234.2.1) B234.2.2 i234 (H234.at i234 rfl) (g := (mkF m 144 #[.val (.int p1), .val (.int p2), .val (.int p3), .val (.int p4), .val (.int p5), .val (.int p6), .val (.int (4 : Int32)), .val (.int (1 : Int32)), .val (.ref a183), .val (.ref a200), .val (.int p2), .val (.int p4)] [(.int (1 : Int32)), (.ref a183), (.int p2)])) rfl rfl (hb hby at_144)) ?_
      show own_Go p e below (Q0 Z p1 p2 p3 p4 p5 p6 h0 n0) (own_Fr s room_1.cells room_1.slots) (T233.setTop (mkF m 145 #[.val (.int p1), .val (.int p2), .val (.int p3), .val (.int p4), .val (.int p5), .val (.int p6), .val (.int (4 : Int32)), .val (.int (1 : Int32)), .val (.ref a183), .val (.ref a200), .val (.int p2), .val (.int p4)] [(.int p2), (.int p2)]))
      have b235 : p2.toInt = p2.toInt := by omega
      refine own_icmpNo (pc' := 148) X233 hx (own_no_ne rfl rfl b235) (hb hby at_145) rfl ?_
      refine own_iload (pc' := 150) X233 hx rfl (hb hby at_148) rfl ?_
      refine own_aload (pc' := 152) X233 hx rfl rfl (hb hby at_150) rfl ?_
      refine own_iload (pc' := 154) X233 hx rfl (hb hby at_152) rfl ?_
      refine own_iconst (pc' := 155) X233 hx (1 : Int32) (by decide) (hb hby at_154) rfl ?_
      refine own_isub (pc' := 156) X233 hx (z := (3 : Int32)) (by decide) (hb hby at_155) rfl ?_
      obtain ⟨c236, B236, q236, s236, u236, H236, G236⟩ := id A221
      have i236 := inb_of s236 (j := (3 : Int32)) (by decide)
      refine own_by (X233.iaload hx (j := (3 : Int32)) (v := (.int p4)) (by rw [e233]; exact B236.1) (State.isArrayOf_alike hZ.alike B236.2.1) B236.2.2 i236 (H236.at i236 rfl) (g := (mkF m 156 #[.val (.int p1), .val (.int p2), .val (.int p3), .val (.int p4), .val (.int p5), .val (.int p6), .val (.int (4 : Int32)), .val (.int (1 : Int32)), .val (.ref a183), .val (.ref a200), .val (.int p2), .val (.int p4)] [(.int (3 : Int32)), (.ref a183), (.int p4)])) rfl rfl (hb hby at_156)) ?_
      show own_Go p e below (Q0 Z p1 p2 p3 p4 p5 p6 h0 n0) (own_Fr s room_1.cells room_1.slots) (T233.setTop (mkF m 157 #[.val (.int p1), .val (.int p2), .val (.int p3), .val (.int p4), .val (.int p5), .val (.int p6), .val (.int (4 : Int32)), .val (.int (1 : Int32)), .val (.ref a183), .val (.ref a200), .val (.int p2), .val (.int p4)] [(.int p4), (.int p4)]))
      have b237 : p4.toInt = p4.toInt := by omega
      refine own_icmpNo (pc' := 160) X233 hx (own_no_ne rfl rfl b237) (hb hby at_157) rfl ?_
      refine own_iconst (pc' := 161) X233 hx (1 : Int32) (by decide) (hb hby at_160) rfl ?_
      refine own_goto (pc' := 165) X233 hx (hb hby at_161) (by decide) (by decide) ?_
      refine own_ret X233 hx Bd.returns Bd.notSynchronized (Or.inl ⟨rfl, by simp, _, rfl⟩) (hb hby at_165) rfl (by decide) (by decide) ?_
      show Q0 Z p1 p2 p3 p4 p5 p6 h0 n0 _ T233.heap _
      rw [e233]
      exact ⟨rfl, N233a⟩
    · obtain rfl : v181 = (2 : Int32) := Int32.toInt_inj.mp b223
      have kz238 : (2 : Int32).toInt = 2 := by decide
      refine own_aload (pc' := 120) X220 hx rfl rfl (hb hby at_118) rfl ?_
      refine own_iload (pc' := 122) X220 hx rfl (hb hby at_120) rfl ?_
      obtain ⟨cq239, kq239, q239a, q239b, q239c⟩ := isOf hZ rfl Ec220_a1
      obtain ⟨_, _, ⟨T239, L239, k239, n239⟩, -, X239, ⟨Lc239, hQ239, l239, y239, z239⟩, st239⟩ := X220.virtualBack hx (y := (⟨"com/example/libpundit/libpundit/core/IntList", "get", "(I)I"⟩ : MethodName)) (z := (⟨"com/example/libpundit/libpundit/core/IntList", "get", "(I)I"⟩ : MethodName)) hown (mvT hZ (hw _ (List.mem_of_getElem? (i := 20) rfl))) (mvT hZ (hw _ (List.mem_of_getElem? (i := 21) rfl))) (notFace_of_selects (args := #[]) (mvT hZ (hw _ (List.mem_of_getElem? (i := 23) rfl)))) (mvT hZ (hw _ (List.mem_of_getElem? (i := 23) rfl))) (mvT hZ (hw _ (List.mem_of_getElem? (i := 22) rfl))) (by decide) (backOf (W := 0) (rmg2_4 l Z a0 hw [] a200 ar_206 kc_206 p1 p2 p3 p4 T220.heap n0 Z222 Fc220_0 Fc220_1 Ac220_ar) hZ (hw _ (List.mem_of_getElem? (i := 24) rfl)) (hw _ (List.mem_of_getElem? (i := 4) rfl)) (by decide) (by decide)) q239a q239c (g := (mkF m 122 #[.val (.int p1), .val (.int p2), .val (.int p3), .val (.int p4), .val (.int p5), .val (.int p6), .val (.int (4 : Int32)), .val (.int (2 : Int32)), .val (.ref a183), .val (.ref a200), .unset, .unset] [(.int (2 : Int32)), (.ref a200)])) rfl (by rw [hml]; rfl) (Steps.refl _) (argsL := [(.int (2 : Int32))]) (rest := []) (lenOf pd_5 rfl) rfl (by show 2 * 0 + _ ≤ _; exact Nat.le_of_eq rfl) (hb hby at_122) (fun _ _ => ⟨rfl, rfl, (by decide : 3 + 0 ≤ _), (by decide : 11 + 0 ≤ _)⟩)
      dsimp only [Pt.U, Pt.locs, Pt.cells, Pt.slots] at X239 l239 y239 z239 st239 hQ239
      subst l239 y239 z239
      obtain ⟨rfl, pp239, N239, e239⟩ := hQ239
      have N239a := Fr.app N220a N239
      refine own_via st239 ?_
      show own_Go p e below (Q0 Z p1 p2 p3 p4 p5 p6 h0 n0) (own_Fr s room_1.cells room_1.slots) (T239.setTop (mkF m 125 #[.val (.int p1), .val (.int p2), .val (.int p3), .val (.int p4), .val (.int p5), .val (.int p6), .val (.int (4 : Int32)), .val (.int (2 : Int32)), .val (.ref a183), .val (.ref a200), .unset, .unset] [(.int p3)]))
      refine own_istore (pc' := 127) X239 hx #[.val (.int p1), .val (.int p2), .val (.int p3), .val (.int p4), .val (.int p5), .val (.int p6), .val (.int (4 : Int32)), .val (.int (2 : Int32)), .val (.ref a183), .val (.ref a200), .val (.int p3), .unset] rfl (hb hby at_125) rfl ?_
      refine own_aload (pc' := 129) X239 hx rfl rfl (hb hby at_127) rfl ?_
      refine own_iload (pc' := 131) X239 hx rfl (hb hby at_129) rfl ?_
      refine own_iconst (pc' := 132) X239 hx (1 : Int32) (by decide) (hb hby at_131) rfl ?_
      refine own_isub (pc' := 133) X239 hx (z := (3 : Int32)) (by decide) (hb hby at_132) rfl ?_
      obtain ⟨cq240, kq240, q240a, q240b, q240c⟩ := isOf hZ e239 Ec220_a1
      obtain ⟨_, _, ⟨T240, L240, k240, n240⟩, -, X240, ⟨Lc240, hQ240, l240, y240, z240⟩, st240⟩ := X239.virtualBack hx (y := (⟨"com/example/libpundit/libpundit/core/IntList", "get", "(I)I"⟩ : MethodName)) (z := (⟨"com/example/libpundit/libpundit/core/IntList", "get", "(I)I"⟩ : MethodName)) hown (mvT hZ (hw _ (List.mem_of_getElem? (i := 20) rfl))) (mvT hZ (hw _ (List.mem_of_getElem? (i := 21) rfl))) (notFace_of_selects (args := #[]) (mvT hZ (hw _ (List.mem_of_getElem? (i := 23) rfl)))) (mvT hZ (hw _ (List.mem_of_getElem? (i := 23) rfl))) (mvT hZ (hw _ (List.mem_of_getElem? (i := 22) rfl))) (by decide) (backOf (W := 0) (rmg3_4 l Z a0 hw [] a200 ar_206 kc_206 p1 p2 p3 p4 T220.heap n0 Z222 Fc220_0 Fc220_1 Ac220_ar) hZ (hw _ (List.mem_of_getElem? (i := 24) rfl)) (hw _ (List.mem_of_getElem? (i := 4) rfl)) (by decide) (by decide)) q240a q240c (g := (mkF m 133 #[.val (.int p1), .val (.int p2), .val (.int p3), .val (.int p4), .val (.int p5), .val (.int p6), .val (.int (4 : Int32)), .val (.int (2 : Int32)), .val (.ref a183), .val (.ref a200), .val (.int p3), .unset] [(.int (3 : Int32)), (.ref a200)])) rfl (by rw [hml]; rfl) (Steps.refl _) (argsL := [(.int (3 : Int32))]) (rest := []) (lenOf pd_5 rfl) rfl (by show 2 * 0 + _ ≤ _; exact Nat.le_of_eq rfl) (hb hby at_133) (fun _ _ => ⟨rfl, e239, (by decide : 3 + 0 ≤ _), (by decide : 11 + 0 ≤ _)⟩)
      dsimp only [Pt.U, Pt.locs, Pt.cells, Pt.slots] at X240 l240 y240 z240 st240 hQ240
      subst l240 y240 z240
      obtain ⟨rfl, pp240, N240, e240⟩ := hQ240
      have N240a := Fr.app N239a N240
      refine own_via st240 ?_
      show own_Go p e below (Q0 Z p1 p2 p3 p4 p5 p6 h0 n0) (own_Fr s room_1.cells room_1.slots) (T240.setTop (mkF m 136 #[.val (.int p1), .val (.int p2), .val (.int p3), .val (.int p4), .val (.int p5), .val (.int p6), .val (.int (4 : Int32)), .val (.int (2 : Int32)), .val (.ref a183), .val (.ref a200), .val (.int p3), .unset] [(.int p4)]))
      refine own_istore (pc' := 138) X240 hx #[.val (.int p1), .val (.int p2), .val (.int p3), .val (.int p4), .val (.int p5), .val (.int p6), .val (.int (4 : Int32)), .val (.int (2 : Int32)), .val (.ref a183), .val (.ref a200), .val (.int p3), .val (.int p4)] rfl (hb hby at_136) rfl ?_
      refine own_iload (pc' := 140) X240 hx rfl (hb hby at_138) rfl ?_
      refine own_aload (pc' := 142) X240 hx rfl rfl (hb hby at_140) rfl ?_
      refine own_iload (pc' := 144) X240 hx rfl (hb hby at_142) rfl ?_
      obtain ⟨c241, B241, q241, s241, u241, H241, G241⟩ := id A221
      have i241 := inb_of s241 (j := (2 : Int32)) (by decide)
      refine own_by (X240.iaload hx (j := (2 : Int32)) (v := (.int p3)) (by rw [e240]; exact B241.1) (State.isArrayOf_alike hZ.alike B241.2.1) B241.2.2 i241 (H241.at i241 rfl) (g := (mkF m 144 #[.val (.int p1), .val (.int p2), .val (.int p3), .val (.int p4), .val (.int p5), .val (.int p6), .val (.int (4 : Int32)), .val (.int (2 : Int32)), .val (.ref a183), .val (.ref a200), .val (.int p3), .val (.int p4)] [(.int (2 : Int32)), (.ref a183), (.int p3)])) rfl rfl (hb hby at_144)) ?_
      show own_Go p e below (Q0 Z p1 p2 p3 p4 p5 p6 h0 n0) (own_Fr s room_1.cells room_1.slots) (T240.setTop (mkF m 145 #[.val (.int p1), .val (.int p2), .val (.int p3), .val (.int p4), .val (.int p5), .val (.int p6), .val (.int (4 : Int32)), .val (.int (2 : Int32)), .val (.ref a183), .val (.ref a200), .val (.int p3), .val (.int p4)] [(.int p3), (.int p3)]))
      have b242 : p3.toInt = p3.toInt := by omega
      refine own_icmpNo (pc' := 148) X240 hx (own_no_ne rfl rfl b242) (hb hby at_145) rfl ?_
      refine own_iload (pc' := 150) X240 hx rfl (hb hby at_148) rfl ?_
      refine own_aload (pc' := 152) X240 hx rfl rfl (hb hby at_150) rfl ?_
      refine own_iload (pc' := 154) X240 hx rfl (hb hby at_152) rfl ?_
      refine own_iconst (pc' := 155) X240 hx (1 : Int32) (by decide) (hb hby at_154) rfl ?_
      refine own_isub (pc' := 156) X240 hx (z := (3 : Int32)) (by decide) (hb hby at_155) rfl ?_
      obtain ⟨c243, B243, q243, s243, u243, H243, G243⟩ := id A221
      have i243 := inb_of s243 (j := (3 : Int32)) (by decide)
      refine own_by (X240.iaload hx (j := (3 : Int32)) (v := (.int p4)) (by rw [e240]; exact B243.1) (State.isArrayOf_alike hZ.alike B243.2.1) B243.2.2 i243 (H243.at i243 rfl) (g := (mkF m 156 #[.val (.int p1), .val (.int p2), .val (.int p3), .val (.int p4), .val (.int p5), .val (.int p6), .val (.int (4 : Int32)), .val (.int (2 : Int32)), .val (.ref a183), .val (.ref a200), .val (.int p3), .val (.int p4)] [(.int (3 : Int32)), (.ref a183), (.int p4)])) rfl rfl (hb hby at_156)) ?_
      show own_Go p e below (Q0 Z p1 p2 p3 p4 p5 p6 h0 n0) (own_Fr s room_1.cells room_1.slots) (T240.setTop (mkF m 157 #[.val (.int p1), .val (.int p2), .val (.int p3), .val (.int p4), .val (.int p5), .val (.int p6), .val (.int (4 : Int32)), .val (.int (2 : Int32)), .val (.ref a183), .val (.ref a200), .val (.int p3), .val (.int p4)] [(.int p4), (.int p4)]))
      have b244 : p4.toInt = p4.toInt := by omega
      refine own_icmpNo (pc' := 160) X240 hx (own_no_ne rfl rfl b244) (hb hby at_157) rfl ?_
      refine own_iconst (pc' := 161) X240 hx (1 : Int32) (by decide) (hb hby at_160) rfl ?_
      refine own_goto (pc' := 165) X240 hx (hb hby at_161) (by decide) (by decide) ?_
      refine own_ret X240 hx Bd.returns Bd.notSynchronized (Or.inl ⟨rfl, by simp, _, rfl⟩) (hb hby at_165) rfl (by decide) (by decide) ?_
      show Q0 Z p1 p2 p3 p4 p5 p6 h0 n0 _ T240.heap _
      rw [e240]
      exact ⟨rfl, N240a⟩
    · obtain rfl : v181 = (3 : Int32) := Int32.toInt_inj.mp b223
      have kz245 : (3 : Int32).toInt = 3 := by decide
      refine own_aload (pc' := 120) X220 hx rfl rfl (hb hby at_118) rfl ?_
      refine own_iload (pc' := 122) X220 hx rfl (hb hby at_120) rfl ?_
      obtain ⟨cq246, kq246, q246a, q246b, q246c⟩ := isOf hZ rfl Ec220_a1
      obtain ⟨_, _, ⟨T246, L246, k246, n246⟩, -, X246, ⟨Lc246, hQ246, l246, y246, z246⟩, st246⟩ := X220.virtualBack hx (y := (⟨"com/example/libpundit/libpundit/core/IntList", "get", "(I)I"⟩ : MethodName)) (z := (⟨"com/example/libpundit/libpundit/core/IntList", "get", "(I)I"⟩ : MethodName)) hown (mvT hZ (hw _ (List.mem_of_getElem? (i := 20) rfl))) (mvT hZ (hw _ (List.mem_of_getElem? (i := 21) rfl))) (notFace_of_selects (args := #[]) (mvT hZ (hw _ (List.mem_of_getElem? (i := 23) rfl)))) (mvT hZ (hw _ (List.mem_of_getElem? (i := 23) rfl))) (mvT hZ (hw _ (List.mem_of_getElem? (i := 22) rfl))) (by decide) (backOf (W := 0) (rmg3_4 l Z a0 hw [] a200 ar_206 kc_206 p1 p2 p3 p4 T220.heap n0 Z222 Fc220_0 Fc220_1 Ac220_ar) hZ (hw _ (List.mem_of_getElem? (i := 24) rfl)) (hw _ (List.mem_of_getElem? (i := 4) rfl)) (by decide) (by decide)) q246a q246c (g := (mkF m 122 #[.val (.int p1), .val (.int p2), .val (.int p3), .val (.int p4), .val (.int p5), .val (.int p6), .val (.int (4 : Int32)), .val (.int (3 : Int32)), .val (.ref a183), .val (.ref a200), .unset, .unset] [(.int (3 : Int32)), (.ref a200)])) rfl (by rw [hml]; rfl) (Steps.refl _) (argsL := [(.int (3 : Int32))]) (rest := []) (lenOf pd_5 rfl) rfl (by show 2 * 0 + _ ≤ _; exact Nat.le_of_eq rfl) (hb hby at_122) (fun _ _ => ⟨rfl, rfl, (by decide : 3 + 0 ≤ _), (by decide : 11 + 0 ≤ _)⟩)
      dsimp only [Pt.U, Pt.locs, Pt.cells, Pt.slots] at X246 l246 y246 z246 st246 hQ246
      subst l246 y246 z246
      obtain ⟨rfl, pp246, N246, e246⟩ := hQ246
      have N246a := Fr.app N220a N246
      refine own_via st246 ?_
      show own_Go p e below (Q0 Z p1 p2 p3 p4 p5 p6 h0 n0) (own_Fr s room_1.cells room_1.slots) (T246.setTop (mkF m 125 #[.val (.int p1), .val (.int p2), .val (.int p3), .val (.int p4), .val (.int p5), .val (.int p6), .val (.int (4 : Int32)), .val (.int (3 : Int32)), .val (.ref a183), .val (.ref a200), .unset, .unset] [(.int p4)]))
      refine own_istore (pc' := 127) X246 hx #[.val (.int p1), .val (.int p2), .val (.int p3), .val (.int p4), .val (.int p5), .val (.int p6), .val (.int (4 : Int32)), .val (.int (3 : Int32)), .val (.ref a183), .val (.ref a200), .val (.int p4), .unset] rfl (hb hby at_125) rfl ?_
      refine own_aload (pc' := 129) X246 hx rfl rfl (hb hby at_127) rfl ?_
      refine own_iload (pc' := 131) X246 hx rfl (hb hby at_129) rfl ?_
      refine own_iconst (pc' := 132) X246 hx (1 : Int32) (by decide) (hb hby at_131) rfl ?_
      refine own_isub (pc' := 133) X246 hx (z := (3 : Int32)) (by decide) (hb hby at_132) rfl ?_
      obtain ⟨cq247, kq247, q247a, q247b, q247c⟩ := isOf hZ e246 Ec220_a1
      obtain ⟨_, _, ⟨T247, L247, k247, n247⟩, -, X247, ⟨Lc247, hQ247, l247, y247, z247⟩, st247⟩ := X246.virtualBack hx (y := (⟨"com/example/libpundit/libpundit/core/IntList", "get", "(I)I"⟩ : MethodName)) (z := (⟨"com/example/libpundit/libpundit/core/IntList", "get", "(I)I"⟩ : MethodName)) hown (mvT hZ (hw _ (List.mem_of_getElem? (i := 20) rfl))) (mvT hZ (hw _ (List.mem_of_getElem? (i := 21) rfl))) (notFace_of_selects (args := #[]) (mvT hZ (hw _ (List.mem_of_getElem? (i := 23) rfl)))) (mvT hZ (hw _ (List.mem_of_getElem? (i := 23) rfl))) (mvT hZ (hw _ (List.mem_of_getElem? (i := 22) rfl))) (by decide) (backOf (W := 0) (rmg3_4 l Z a0 hw [] a200 ar_206 kc_206 p1 p2 p3 p4 T220.heap n0 Z222 Fc220_0 Fc220_1 Ac220_ar) hZ (hw _ (List.mem_of_getElem? (i := 24) rfl)) (hw _ (List.mem_of_getElem? (i := 4) rfl)) (by decide) (by decide)) q247a q247c (g := (mkF m 133 #[.val (.int p1), .val (.int p2), .val (.int p3), .val (.int p4), .val (.int p5), .val (.int p6), .val (.int (4 : Int32)), .val (.int (3 : Int32)), .val (.ref a183), .val (.ref a200), .val (.int p4), .unset] [(.int (3 : Int32)), (.ref a200)])) rfl (by rw [hml]; rfl) (Steps.refl _) (argsL := [(.int (3 : Int32))]) (rest := []) (lenOf pd_5 rfl) rfl (by show 2 * 0 + _ ≤ _; exact Nat.le_of_eq rfl) (hb hby at_133) (fun _ _ => ⟨rfl, e246, (by decide : 3 + 0 ≤ _), (by decide : 11 + 0 ≤ _)⟩)
      dsimp only [Pt.U, Pt.locs, Pt.cells, Pt.slots] at X247 l247 y247 z247 st247 hQ247
      subst l247 y247 z247
      obtain ⟨rfl, pp247, N247, e247⟩ := hQ247
      have N247a := Fr.app N246a N247
      refine own_via st247 ?_
      show own_Go p e below (Q0 Z p1 p2 p3 p4 p5 p6 h0 n0) (own_Fr s room_1.cells room_1.slots) (T247.setTop (mkF m 136 #[.val (.int p1), .val (.int p2), .val (.int p3), .val (.int p4), .val (.int p5), .val (.int p6), .val (.int (4 : Int32)), .val (.int (3 : Int32)), .val (.ref a183), .val (.ref a200), .val (.int p4), .unset] [(.int p4)]))
      refine own_istore (pc' := 138) X247 hx #[.val (.int p1), .val (.int p2), .val (.int p3), .val (.int p4), .val (.int p5), .val (.int p6), .val (.int (4 : Int32)), .val (.int (3 : Int32)), .val (.ref a183), .val (.ref a200), .val (.int p4), .val (.int p4)] rfl (hb hby at_136) rfl ?_
      refine own_iload (pc' := 140) X247 hx rfl (hb hby at_138) rfl ?_
      refine own_aload (pc' := 142) X247 hx rfl rfl (hb hby at_140) rfl ?_
      refine own_iload (pc' := 144) X247 hx rfl (hb hby at_142) rfl ?_
      obtain ⟨c248, B248, q248, s248, u248, H248, G248⟩ := id A221
      have i248 := inb_of s248 (j := (3 : Int32)) (by decide)
      refine own_by (X247.iaload hx (j := (3 : Int32)) (v := (.int p4)) (by rw [e247]; exact B248.1) (State.isArrayOf_alike hZ.alike B248.2.1) B248.2.2 i248 (H248.at i248 rfl) (g := (mkF m 144 #[.val (.int p1), .val (.int p2), .val (.int p3), .val (.int p4), .val (.int p5), .val (.int p6), .val (.int (4 : Int32)), .val (.int (3 : Int32)), .val (.ref a183), .val (.ref a200), .val (.int p4), .val (.int p4)] [(.int (3 : Int32)), (.ref a183), (.int p4)])) rfl rfl (hb hby at_144)) ?_
      show own_Go p e below (Q0 Z p1 p2 p3 p4 p5 p6 h0 n0) (own_Fr s room_1.cells room_1.slots) (T247.setTop (mkF m 145 #[.val (.int p1), .val (.int p2), .val (.int p3), .val (.int p4), .val (.int p5), .val (.int p6), .val (.int (4 : Int32)), .val (.int (3 : Int32)), .val (.ref a183), .val (.ref a200), .val (.int p4), .val (.int p4)] [(.int p4), (.int p4)]))
      have b249 : p4.toInt = p4.toInt := by omega
      refine own_icmpNo (pc' := 148) X247 hx (own_no_ne rfl rfl b249) (hb hby at_145) rfl ?_
      refine own_iload (pc' := 150) X247 hx rfl (hb hby at_148) rfl ?_
      refine own_aload (pc' := 152) X247 hx rfl rfl (hb hby at_150) rfl ?_
      refine own_iload (pc' := 154) X247 hx rfl (hb hby at_152) rfl ?_
      refine own_iconst (pc' := 155) X247 hx (1 : Int32) (by decide) (hb hby at_154) rfl ?_
      refine own_isub (pc' := 156) X247 hx (z := (3 : Int32)) (by decide) (hb hby at_155) rfl ?_
      obtain ⟨c250, B250, q250, s250, u250, H250, G250⟩ := id A221
      have i250 := inb_of s250 (j := (3 : Int32)) (by decide)
      refine own_by (X247.iaload hx (j := (3 : Int32)) (v := (.int p4)) (by rw [e247]; exact B250.1) (State.isArrayOf_alike hZ.alike B250.2.1) B250.2.2 i250 (H250.at i250 rfl) (g := (mkF m 156 #[.val (.int p1), .val (.int p2), .val (.int p3), .val (.int p4), .val (.int p5), .val (.int p6), .val (.int (4 : Int32)), .val (.int (3 : Int32)), .val (.ref a183), .val (.ref a200), .val (.int p4), .val (.int p4)] [(.int (3 : Int32)), (.ref a183), (.int p4)])) rfl rfl (hb hby at_156)) ?_
      show own_Go p e below (Q0 Z p1 p2 p3 p4 p5 p6 h0 n0) (own_Fr s room_1.cells room_1.slots) (T247.setTop (mkF m 157 #[.val (.int p1), .val (.int p2), .val (.int p3), .val (.int p4), .val (.int p5), .val (.int p6), .val (.int (4 : Int32)), .val (.int (3 : Int32)), .val (.ref a183), .val (.ref a200), .val (.int p4), .val (.int p4)] [(.int p4), (.int p4)]))
      have b251 : p4.toInt = p4.toInt := by omega
      refine own_icmpNo (pc' := 160) X247 hx (own_no_ne rfl rfl b251) (hb hby at_157) rfl ?_
      refine own_iconst (pc' := 161) X247 hx (1 : Int32) (by decide) (hb hby at_160) rfl ?_
      refine own_goto (pc' := 165) X247 hx (hb hby at_161) (by decide) (by decide) ?_
      refine own_ret X247 hx Bd.returns Bd.notSynchronized (Or.inl ⟨rfl, by simp, _, rfl⟩) (hb hby at_165) rfl (by decide) (by decide) ?_
      show Q0 Z p1 p2 p3 p4 p5 p6 h0 n0 _ T247.heap _
      rw [e247]
      exact ⟨rfl, N247a⟩
  · obtain rfl : v5 = (5 : Int32) := Int32.toInt_inj.mp b7
    have kz252 : (5 : Int32).toInt = 5 := by decide
    refine own_iload (pc' := 13) X0 hx rfl (hb hby at_11) rfl ?_
    refine own_iconst (pc' := 14) X0 hx (3 : Int32) (by decide) (hb hby at_13) rfl ?_
    obtain ⟨v253, hv253⟩ : ∃ z, (p6.toUInt32 >>> ((3 : Int32) &&& 31).toUInt32).toInt32 = z := ⟨_, rfl⟩
    have f254 : v253.toInt = (p6.toInt % 4294967296) / 8 := by rw [← hv253]; exact c_iushr p6 (3 : Int32) 3 (by decide) (by decide)
    refine own_iushr (pc' := 15) X0 hx (z := v253) hv253 (hb hby at_14) rfl ?_
    refine own_ldcInt (pc' := 17) X0 hx hZ hown (hw _ (List.mem_of_getElem? (i := 0) rfl)) (hb hby at_15) rfl ?_
    obtain ⟨v255, hv255⟩ : ∃ z, v253 &&& (2147483647 : Int32) = z := ⟨_, rfl⟩
    have f256 : v255.toInt = v253.toInt % 2147483648 := by rw [← hv255]; exact c_mask v253 (2147483647 : Int32) 31 (by decide) (by decide)
    refine own_iand (pc' := 18) X0 hx (z := v255) hv255 (hb hby at_17) rfl ?_
    refine own_iload (pc' := 20) X0 hx rfl (hb hby at_18) rfl ?_
    obtain ⟨v257, hv257⟩ : ∃ z, v255 % (5 : Int32) = z := ⟨_, rfl⟩
    have f258 : v257.toInt = v255.toInt % 5 := by rw [← hv257]; exact (c_irem v255 (5 : Int32) 5 (by decide)).1 (by omega)
    refine own_irem (pc' := 21) X0 hx (z := v257) (by decide) hv257 (hb hby at_20) rfl ?_
    refine own_istore (pc' := 23) X0 hx #[.val (.int p1), .val (.int p2), .val (.int p3), .val (.int p4), .val (.int p5), .val (.int p6), .val (.int (5 : Int32)), .val (.int v257), .unset, .unset, .unset, .unset] rfl (hb hby at_21) rfl ?_
    refine own_iconst (pc' := 24) X0 hx (5 : Int32) (by decide) (hb hby at_23) rfl ?_
    obtain ⟨T259, h259, cA259, X259, e259, E259, Ar259, st259⟩ := newP X0 hx hZ (hw _ (List.mem_of_getElem? (i := 1) rfl)) e0 (g := (mkF m 24 #[.val (.int p1), .val (.int p2), .val (.int p3), .val (.int p4), .val (.int p5), .val (.int p6), .val (.int (5 : Int32)), .val (.int v257), .unset, .unset, .unset, .unset] [(.int (5 : Int32))])) rfl (hb hby at_24) (n := (5 : Int32)) rfl (by decide) (cap := 5) (by decide) (by decide) (by decide) (by decide)
    obtain ⟨a259, ga259⟩ : ∃ z, z = h0.size := ⟨_, rfl⟩
    rw [← ga259] at Ar259 st259
    have fr259 : n0 ≤ a259 := Nat.le_trans Z0 (Nat.le_of_eq ga259.symm)
    have Z260 : n0 ≤ h259.size := Nat.le_trans Z0 E259.1
    have A259 : Arv Z h259 a259 cA259 .int (5 : Int32) [(.int (0 : Int32)), (.int (0 : Int32)), (.int (0 : Int32)), (.int (0 : Int32)), (.int (0 : Int32))] (.int (0 : Int32)) := (Arv.new Ar259 (by decide)).pad (fun i => pad_rep [] (.int (0 : Int32)) 5 i)
    refine own_by st259 ?_
    show own_Go p e below (Q0 Z p1 p2 p3 p4 p5 p6 h0 n0) (own_Fr s room_1.cells room_1.slots) (T259.setTop (mkF m 26 #[.val (.int p1), .val (.int p2), .val (.int p3), .val (.int p4), .val (.int p5), .val (.int p6), .val (.int (5 : Int32)), .val (.int v257), .unset, .unset, .unset, .unset] [(.ref a259)]))
    refine own_astore (pc' := 28) X259 hx #[.val (.int p1), .val (.int p2), .val (.int p3), .val (.int p4), .val (.int p5), .val (.int p6), .val (.int (5 : Int32)), .val (.int v257), .val (.ref a259), .unset, .unset, .unset] rfl rfl (hb hby at_26) rfl ?_
    refine own_aload (pc' := 30) X259 hx rfl rfl (hb hby at_28) rfl ?_
    refine own_iconst (pc' := 31) X259 hx (0 : Int32) (by decide) (hb hby at_30) rfl ?_
    refine own_iloadN (pc' := 32) X259 hx rfl (hb hby at_31) rfl ?_
    obtain ⟨c261, B261, q261, s261, u261, H261, G261⟩ := id A259
    obtain ⟨T261, h261, X261, e261, W261, st261⟩ := stI X259 hx hZ e259 B261 (j := (0 : Int32)) (x := p1) (inb_of s261 (by decide)) (g := (mkF m 32 #[.val (.int p1), .val (.int p2), .val (.int p3), .val (.int p4), .val (.int p5), .val (.int p6), .val (.int (5 : Int32)), .val (.int v257), .val (.ref a259), .unset, .unset, .unset] [(.int p1), (.int (0 : Int32)), (.ref a259)])) rfl rfl (hb hby at_32)
    have A261 : Arv Z h261 a259 cA259 .int (5 : Int32) [(.int p1), (.int (0 : Int32)), (.int (0 : Int32)), (.int (0 : Int32)), (.int (0 : Int32))] (.int (0 : Int32)) := Arv.set B261 q261 s261 u261 H261 G261 rfl W261 0 (by decide) (by simp)
    have Z262 : n0 ≤ h261.size := Nat.le_trans Z260 (Nat.le_of_eq W261.size.symm)
    have N263 := Fr.snoc X261 N0 fr259
    refine own_by st261 ?_
    show own_Go p e below (Q0 Z p1 p2 p3 p4 p5 p6 h0 n0) (own_Fr s room_1.cells room_1.slots) (T261.setTop (mkF m 33 #[.val (.int p1), .val (.int p2), .val (.int p3), .val (.int p4), .val (.int p5), .val (.int p6), .val (.int (5 : Int32)), .val (.int v257), .val (.ref a259), .unset, .unset, .unset] []))
    refine own_aload (pc' := 35) X261 hx rfl rfl (hb hby at_33) rfl ?_
    refine own_iconst (pc' := 36) X261 hx (1 : Int32) (by decide) (hb hby at_35) rfl ?_
    refine own_iloadN (pc' := 37) X261 hx rfl (hb hby at_36) rfl ?_
    obtain ⟨c264, B264, q264, s264, u264, H264, G264⟩ := id A261
    obtain ⟨T264, h264, X264, e264, W264, st264⟩ := stI X261 hx hZ e261 B264 (j := (1 : Int32)) (x := p2) (inb_of s264 (by decide)) (g := (mkF m 37 #[.val (.int p1), .val (.int p2), .val (.int p3), .val (.int p4), .val (.int p5), .val (.int p6), .val (.int (5 : Int32)), .val (.int v257), .val (.ref a259), .unset, .unset, .unset] [(.int p2), (.int (1 : Int32)), (.ref a259)])) rfl rfl (hb hby at_37)
    have A264 : Arv Z h264 a259 cA259 .int (5 : Int32) [(.int p1), (.int p2), (.int (0 : Int32)), (.int (0 : Int32)), (.int (0 : Int32))] (.int (0 : Int32)) := Arv.set B264 q264 s264 u264 H264 G264 rfl W264 1 (by decide) (by simp)
    have Z265 : n0 ≤ h264.size := Nat.le_trans Z262 (Nat.le_of_eq W264.size.symm)
    have N266 := Fr.snoc X264 N263 fr259
    refine own_by st264 ?_
    show own_Go p e below (Q0 Z p1 p2 p3 p4 p5 p6 h0 n0) (own_Fr s room_1.cells room_1.slots) (T264.setTop (mkF m 38 #[.val (.int p1), .val (.int p2), .val (.int p3), .val (.int p4), .val (.int p5), .val (.int p6), .val (.int (5 : Int32)), .val (.int v257), .val (.ref a259), .unset, .unset, .unset] []))
    refine own_aload (pc' := 40) X264 hx rfl rfl (hb hby at_38) rfl ?_
    refine own_iconst (pc' := 41) X264 hx (2 : Int32) (by decide) (hb hby at_40) rfl ?_
    refine own_iloadN (pc' := 42) X264 hx rfl (hb hby at_41) rfl ?_
    obtain ⟨c267, B267, q267, s267, u267, H267, G267⟩ := id A264
    obtain ⟨T267, h267, X267, e267, W267, st267⟩ := stI X264 hx hZ e264 B267 (j := (2 : Int32)) (x := p3) (inb_of s267 (by decide)) (g := (mkF m 42 #[.val (.int p1), .val (.int p2), .val (.int p3), .val (.int p4), .val (.int p5), .val (.int p6), .val (.int (5 : Int32)), .val (.int v257), .val (.ref a259), .unset, .unset, .unset] [(.int p3), (.int (2 : Int32)), (.ref a259)])) rfl rfl (hb hby at_42)
    have A267 : Arv Z h267 a259 cA259 .int (5 : Int32) [(.int p1), (.int p2), (.int p3), (.int (0 : Int32)), (.int (0 : Int32))] (.int (0 : Int32)) := Arv.set B267 q267 s267 u267 H267 G267 rfl W267 2 (by decide) (by simp)
    have Z268 : n0 ≤ h267.size := Nat.le_trans Z265 (Nat.le_of_eq W267.size.symm)
    have N269 := Fr.snoc X267 N266 fr259
    refine own_by st267 ?_
    show own_Go p e below (Q0 Z p1 p2 p3 p4 p5 p6 h0 n0) (own_Fr s room_1.cells room_1.slots) (T267.setTop (mkF m 43 #[.val (.int p1), .val (.int p2), .val (.int p3), .val (.int p4), .val (.int p5), .val (.int p6), .val (.int (5 : Int32)), .val (.int v257), .val (.ref a259), .unset, .unset, .unset] []))
    refine own_aload (pc' := 45) X267 hx rfl rfl (hb hby at_43) rfl ?_
    refine own_iconst (pc' := 46) X267 hx (3 : Int32) (by decide) (hb hby at_45) rfl ?_
    refine own_iloadN (pc' := 47) X267 hx rfl (hb hby at_46) rfl ?_
    obtain ⟨c270, B270, q270, s270, u270, H270, G270⟩ := id A267
    obtain ⟨T270, h270, X270, e270, W270, st270⟩ := stI X267 hx hZ e267 B270 (j := (3 : Int32)) (x := p4) (inb_of s270 (by decide)) (g := (mkF m 47 #[.val (.int p1), .val (.int p2), .val (.int p3), .val (.int p4), .val (.int p5), .val (.int p6), .val (.int (5 : Int32)), .val (.int v257), .val (.ref a259), .unset, .unset, .unset] [(.int p4), (.int (3 : Int32)), (.ref a259)])) rfl rfl (hb hby at_47)
    have A270 : Arv Z h270 a259 cA259 .int (5 : Int32) [(.int p1), (.int p2), (.int p3), (.int p4), (.int (0 : Int32))] (.int (0 : Int32)) := Arv.set B270 q270 s270 u270 H270 G270 rfl W270 3 (by decide) (by simp)
    have Z271 : n0 ≤ h270.size := Nat.le_trans Z268 (Nat.le_of_eq W270.size.symm)
    have N272 := Fr.snoc X270 N269 fr259
    refine own_by st270 ?_
    show own_Go p e below (Q0 Z p1 p2 p3 p4 p5 p6 h0 n0) (own_Fr s room_1.cells room_1.slots) (T270.setTop (mkF m 48 #[.val (.int p1), .val (.int p2), .val (.int p3), .val (.int p4), .val (.int p5), .val (.int p6), .val (.int (5 : Int32)), .val (.int v257), .val (.ref a259), .unset, .unset, .unset] []))
    refine own_aload (pc' := 50) X270 hx rfl rfl (hb hby at_48) rfl ?_
    refine own_iconst (pc' := 51) X270 hx (4 : Int32) (by decide) (hb hby at_50) rfl ?_
    refine own_iload (pc' := 53) X270 hx rfl (hb hby at_51) rfl ?_
    obtain ⟨c273, B273, q273, s273, u273, H273, G273⟩ := id A270
    obtain ⟨T273, h273, X273, e273, W273, st273⟩ := stI X270 hx hZ e270 B273 (j := (4 : Int32)) (x := p5) (inb_of s273 (by decide)) (g := (mkF m 53 #[.val (.int p1), .val (.int p2), .val (.int p3), .val (.int p4), .val (.int p5), .val (.int p6), .val (.int (5 : Int32)), .val (.int v257), .val (.ref a259), .unset, .unset, .unset] [(.int p5), (.int (4 : Int32)), (.ref a259)])) rfl rfl (hb hby at_53)
    have A273 : Arv Z h273 a259 cA259 .int (5 : Int32) [(.int p1), (.int p2), (.int p3), (.int p4), (.int p5)] (.int (0 : Int32)) := Arv.set B273 q273 s273 u273 H273 G273 rfl W273 4 (by decide) (by simp)
    have Z274 : n0 ≤ h273.size := Nat.le_trans Z271 (Nat.le_of_eq W273.size.symm)
    have N275 := Fr.snoc X273 N272 fr259
    refine own_by st273 ?_
    show own_Go p e below (Q0 Z p1 p2 p3 p4 p5 p6 h0 n0) (own_Fr s room_1.cells room_1.slots) (T273.setTop (mkF m 54 #[.val (.int p1), .val (.int p2), .val (.int p3), .val (.int p4), .val (.int p5), .val (.int p6), .val (.int (5 : Int32)), .val (.int v257), .val (.ref a259), .unset, .unset, .unset] []))
    obtain ⟨T276, h276, X276, e276, E276, A276, D276, -, st276⟩ := newO X273 hx hZ hown (hw _ (List.mem_of_getElem? (i := 2) rfl)) (hw _ (List.mem_of_getElem? (i := 3) rfl)) (hw _ (List.mem_of_getElem? (i := 4) rfl)) e273 (g := (mkF m 54 #[.val (.int p1), .val (.int p2), .val (.int p3), .val (.int p4), .val (.int p5), .val (.int p6), .val (.int (5 : Int32)), .val (.int v257), .val (.ref a259), .unset, .unset, .unset] [])) rfl (hb hby at_54) (by decide) (by decide)
    obtain ⟨a276, ga276⟩ : ∃ z, z = h273.size := ⟨_, rfl⟩
    rw [← ga276] at A276 D276 st276
    have n277 : a259 ≠ a276 := Nat.ne_of_lt (ga276.symm ▸ A273.lt)
    have A278 : Arv Z h276 a259 cA259 .int (5 : Int32) [(.int p1), (.int p2), (.int p3), (.int p4), (.int p5)] (.int (0 : Int32)) := A273.ext E276
    have fr276 : n0 ≤ a276 := Nat.le_trans Z274 (Nat.le_of_eq ga276.symm)
    have Z279 : n0 ≤ h276.size := Nat.le_trans Z274 E276.1
    have F280 : Fld Z h276 a276 "com/example/libpundit/libpundit/core/IntList" "values" "[I" .null := D276 (Or.inl (hw _ (List.mem_of_getElem? (i := 12) rfl))) (ty := (.array .int)) (by decide)
    have F281 : Fld Z h276 a276 "com/example/libpundit/libpundit/core/IntList" "size" "I" (.int (0 : Int32)) := D276 (Or.inl (hw _ (List.mem_of_getElem? (i := 19) rfl))) (ty := .int) (by decide)
    refine own_by st276 ?_
    show own_Go p e below (Q0 Z p1 p2 p3 p4 p5 p6 h0 n0) (own_Fr s room_1.cells room_1.slots) (T276.setTop (mkF m 57 #[.val (.int p1), .val (.int p2), .val (.int p3), .val (.int p4), .val (.int p5), .val (.int p6), .val (.int (5 : Int32)), .val (.int v257), .val (.ref a259), .unset, .unset, .unset] [(.ref a276)]))
    refine own_dup (pc' := 58) X276 hx rfl (hb hby at_57) rfl ?_
    obtain ⟨_, _, ⟨T282, L282, k282, n282⟩, -, X282, ⟨Lc282, hQ282, l282, y282, z282⟩, st282⟩ := X276.specialBack hx (y := (⟨"com/example/libpundit/libpundit/core/IntList", "<init>", "()V"⟩ : MethodName)) rfl hown (mvT hZ (hw _ (List.mem_of_getElem? (i := 5) rfl))) (mvT hZ (hw _ (List.mem_of_getElem? (i := 6) rfl))) (mvT hZ (hw _ (List.mem_of_getElem? (i := 7) rfl))) (by decide) (backOf (W := 1) (rmi l Z a0 hw [] a276 h276 n0 Z279 A276 F280 F281 fr276) hZ (hw _ (List.mem_of_getElem? (i := 7) rfl)) (hw _ (List.mem_of_getElem? (i := 4) rfl)) (by decide) (by decide)) (g := (mkF m 58 #[.val (.int p1), .val (.int p2), .val (.int p3), .val (.int p4), .val (.int p5), .val (.int p6), .val (.int (5 : Int32)), .val (.int v257), .val (.ref a259), .unset, .unset, .unset] [(.ref a276), (.ref a276)])) rfl (by rw [hml]; rfl) (Steps.refl _) (a := a276) (argsL := []) (rest := [(.ref a276)]) (lenOf pd_2 rfl) rfl (by show 2 * 0 + _ ≤ _; exact Nat.le_of_eq rfl) (hb hby at_58) (fun _ _ => ⟨rfl, e276, (by decide : 2 + 1 ≤ _), (by decide : 7 + 4 ≤ _)⟩)
    dsimp only [Pt.U, Pt.locs, Pt.cells, Pt.slots] at X282 l282 y282 z282 st282 hQ282
    subst l282 y282 z282
    obtain ⟨ar_282, kc_282, rfl, pp282, N282, Kc282, gc282_ar, Ec282_a1, Ec282_ar, Fc282_0, Fc282_1, Ac282_ar⟩ := hQ282
    have n283 : a276 ≠ ar_282 := Nat.ne_of_lt (Nat.lt_of_lt_of_le A276.lt gc282_ar)
    have n284 : a259 ≠ ar_282 := Nat.ne_of_lt (Nat.lt_of_lt_of_le A278.lt gc282_ar)
    have frar_282 : n0 ≤ ar_282 := Nat.le_trans Z279 gc282_ar
    have A285 : Arv Z T282.heap a259 cA259 .int (5 : Int32) [(.int p1), (.int p2), (.int p3), (.int p4), (.int p5)] (.int (0 : Int32)) := A278.keep Kc282 (ninS n277 nin0)
    have Z286 : n0 ≤ T282.heap.size := Nat.le_trans Z279 Kc282.1
    have N282a := Fr.app N275 N282
    refine own_via st282 ?_
    show own_Go p e below (Q0 Z p1 p2 p3 p4 p5 p6 h0 n0) (own_Fr s room_1.cells room_1.slots) (T282.setTop (mkF m 61 #[.val (.int p1), .val (.int p2), .val (.int p3), .val (.int p4), .val (.int p5), .val (.int p6), .val (.int (5 : Int32)), .val (.int v257), .val (.ref a259), .unset, .unset, .unset] [(.ref a276)]))
    refine own_astore (pc' := 63) X282 hx #[.val (.int p1), .val (.int p2), .val (.int p3), .val (.int p4), .val (.int p5), .val (.int p6), .val (.int (5 : Int32)), .val (.int v257), .val (.ref a259), .val (.ref a276), .unset, .unset] rfl rfl (hb hby at_61) rfl ?_
    refine own_aload (pc' := 65) X282 hx rfl rfl (hb hby at_63) rfl ?_
    refine own_iloadN (pc' := 66) X282 hx rfl (hb hby at_65) rfl ?_
    obtain ⟨cq287, kq287, q287a, q287b, q287c⟩ := isOf hZ rfl Ec282_a1
    obtain ⟨_, _, ⟨T287, L287, k287, n287⟩, -, X287, ⟨Lc287, hQ287, l287, y287, z287⟩, st287⟩ := X282.virtualBack hx (y := (⟨"com/example/libpundit/libpundit/core/IntList", "add", "(I)V"⟩ : MethodName)) (z := (⟨"com/example/libpundit/libpundit/core/IntList", "add", "(I)V"⟩ : MethodName)) hown (mvT hZ (hw _ (List.mem_of_getElem? (i := 13) rfl))) (mvT hZ (hw _ (List.mem_of_getElem? (i := 14) rfl))) (notFace_of_selects (args := #[]) (mvT hZ (hw _ (List.mem_of_getElem? (i := 16) rfl)))) (mvT hZ (hw _ (List.mem_of_getElem? (i := 16) rfl))) (mvT hZ (hw _ (List.mem_of_getElem? (i := 15) rfl))) (by decide) (backOf (W := 0) (rma0 l Z a0 hw [] a276 p1 ar_282 kc_282 T282.heap n0 Z286 Ec282_a1 Ec282_ar Fc282_0 Fc282_1 Ac282_ar fr276 frar_282 n283) hZ (hw _ (List.mem_of_getElem? (i := 17) rfl)) (hw _ (List.mem_of_getElem? (i := 4) rfl)) (by decide) (by decide)) q287a q287c (g := (mkF m 66 #[.val (.int p1), .val (.int p2), .val (.int p3), .val (.int p4), .val (.int p5), .val (.int p6), .val (.int (5 : Int32)), .val (.int v257), .val (.ref a259), .val (.ref a276), .unset, .unset] [(.int p1), (.ref a276)])) rfl (by rw [hml]; rfl) (Steps.refl _) (argsL := [(.int p1)]) (rest := []) (lenOf pd_3 rfl) rfl (by show 2 * 0 + _ ≤ _; exact Nat.le_of_eq rfl) (hb hby at_66) (fun _ _ => ⟨rfl, rfl, (by decide : 3 + 0 ≤ _), (by decide : 11 + 0 ≤ _)⟩)
    dsimp only [Pt.U, Pt.locs, Pt.cells, Pt.slots] at X287 l287 y287 z287 st287 hQ287
    subst l287 y287 z287
    obtain ⟨rfl, pp287, N287, Kc287, Ec287_a1, Ec287_ar, Fc287_0, Fc287_1, Ac287_ar⟩ := hQ287
    have A288 : Arv Z T287.heap a259 cA259 .int (5 : Int32) [(.int p1), (.int p2), (.int p3), (.int p4), (.int p5)] (.int (0 : Int32)) := A285.keep Kc287 (ninS n277 (ninS n284 nin0))
    have Z289 : n0 ≤ T287.heap.size := Nat.le_trans Z286 Kc287.1
    have N287a := Fr.app N282a N287
    refine own_via st287 ?_
    show own_Go p e below (Q0 Z p1 p2 p3 p4 p5 p6 h0 n0) (own_Fr s room_1.cells room_1.slots) (T287.setTop (mkF m 69 #[.val (.int p1), .val (.int p2), .val (.int p3), .val (.int p4), .val (.int p5), .val (.int p6), .val (.int (5 : Int32)), .val (.int v257), .val (.ref a259), .val (.ref a276), .unset, .unset] []))
    refine own_iload (pc' := 71) X287 hx rfl (hb hby at_69) rfl ?_
    refine own_iconst (pc' := 72) X287 hx (1 : Int32) (by decide) (hb hby at_71) rfl ?_
    refine own_icmpNo (pc' := 75) X287 hx (by decide) (hb hby at_72) rfl ?_
    refine own_aload (pc' := 77) X287 hx rfl rfl (hb hby at_75) rfl ?_
    refine own_iloadN (pc' := 78) X287 hx rfl (hb hby at_77) rfl ?_
    obtain ⟨cq290, kq290, q290a, q290b, q290c⟩ := isOf hZ rfl Ec287_a1
    obtain ⟨_, _, ⟨T290, L290, k290, n290⟩, -, X290, ⟨Lc290, hQ290, l290, y290, z290⟩, st290⟩ := X287.virtualBack hx (y := (⟨"com/example/libpundit/libpundit/core/IntList", "add", "(I)V"⟩ : MethodName)) (z := (⟨"com/example/libpundit/libpundit/core/IntList", "add", "(I)V"⟩ : MethodName)) hown (mvT hZ (hw _ (List.mem_of_getElem? (i := 13) rfl))) (mvT hZ (hw _ (List.mem_of_getElem? (i := 14) rfl))) (notFace_of_selects (args := #[]) (mvT hZ (hw _ (List.mem_of_getElem? (i := 16) rfl)))) (mvT hZ (hw _ (List.mem_of_getElem? (i := 16) rfl))) (mvT hZ (hw _ (List.mem_of_getElem? (i := 15) rfl))) (by decide) (backOf (W := 0) (rma1 l Z a0 hw [] a276 p2 ar_282 kc_282 p1 T287.heap n0 Z289 Ec287_a1 Ec287_ar Fc287_0 Fc287_1 Ac287_ar fr276 frar_282 n283) hZ (hw _ (List.mem_of_getElem? (i := 17) rfl)) (hw _ (List.mem_of_getElem? (i := 4) rfl)) (by decide) (by decide)) q290a q290c (g := (mkF m 78 #[.val (.int p1), .val (.int p2), .val (.int p3), .val (.int p4), .val (.int p5), .val (.int p6), .val (.int (5 : Int32)), .val (.int v257), .val (.ref a259), .val (.ref a276), .unset, .unset] [(.int p2), (.ref a276)])) rfl (by rw [hml]; rfl) (Steps.refl _) (argsL := [(.int p2)]) (rest := []) (lenOf pd_3 rfl) rfl (by show 2 * 0 + _ ≤ _; exact Nat.le_of_eq rfl) (hb hby at_78) (fun _ _ => ⟨rfl, rfl, (by decide : 3 + 0 ≤ _), (by decide : 11 + 0 ≤ _)⟩)
    dsimp only [Pt.U, Pt.locs, Pt.cells, Pt.slots] at X290 l290 y290 z290 st290 hQ290
    subst l290 y290 z290
    obtain ⟨rfl, pp290, N290, Kc290, Ec290_a1, Ec290_ar, Fc290_0, Fc290_1, Ac290_ar⟩ := hQ290
    have A291 : Arv Z T290.heap a259 cA259 .int (5 : Int32) [(.int p1), (.int p2), (.int p3), (.int p4), (.int p5)] (.int (0 : Int32)) := A288.keep Kc290 (ninS n277 (ninS n284 nin0))
    have Z292 : n0 ≤ T290.heap.size := Nat.le_trans Z289 Kc290.1
    have N290a := Fr.app N287a N290
    refine own_via st290 ?_
    show own_Go p e below (Q0 Z p1 p2 p3 p4 p5 p6 h0 n0) (own_Fr s room_1.cells room_1.slots) (T290.setTop (mkF m 81 #[.val (.int p1), .val (.int p2), .val (.int p3), .val (.int p4), .val (.int p5), .val (.int p6), .val (.int (5 : Int32)), .val (.int v257), .val (.ref a259), .val (.ref a276), .unset, .unset] []))
    refine own_iload (pc' := 83) X290 hx rfl (hb hby at_81) rfl ?_
    refine own_iconst (pc' := 84) X290 hx (2 : Int32) (by decide) (hb hby at_83) rfl ?_
    refine own_icmpNo (pc' := 87) X290 hx (by decide) (hb hby at_84) rfl ?_
    refine own_aload (pc' := 89) X290 hx rfl rfl (hb hby at_87) rfl ?_
    refine own_iloadN (pc' := 90) X290 hx rfl (hb hby at_89) rfl ?_
    obtain ⟨cq293, kq293, q293a, q293b, q293c⟩ := isOf hZ rfl Ec290_a1
    obtain ⟨_, _, ⟨T293, L293, k293, n293⟩, -, X293, ⟨Lc293, hQ293, l293, y293, z293⟩, st293⟩ := X290.virtualBack hx (y := (⟨"com/example/libpundit/libpundit/core/IntList", "add", "(I)V"⟩ : MethodName)) (z := (⟨"com/example/libpundit/libpundit/core/IntList", "add", "(I)V"⟩ : MethodName)) hown (mvT hZ (hw _ (List.mem_of_getElem? (i := 13) rfl))) (mvT hZ (hw _ (List.mem_of_getElem? (i := 14) rfl))) (notFace_of_selects (args := #[]) (mvT hZ (hw _ (List.mem_of_getElem? (i := 16) rfl)))) (mvT hZ (hw _ (List.mem_of_getElem? (i := 16) rfl))) (mvT hZ (hw _ (List.mem_of_getElem? (i := 15) rfl))) (by decide) (backOf (W := 0) (rma2 l Z a0 hw [] a276 p3 ar_282 kc_282 p1 p2 T290.heap n0 Z292 Ec290_a1 Ec290_ar Fc290_0 Fc290_1 Ac290_ar fr276 frar_282 n283) hZ (hw _ (List.mem_of_getElem? (i := 17) rfl)) (hw _ (List.mem_of_getElem? (i := 4) rfl)) (by decide) (by decide)) q293a q293c (g := (mkF m 90 #[.val (.int p1), .val (.int p2), .val (.int p3), .val (.int p4), .val (.int p5), .val (.int p6), .val (.int (5 : Int32)), .val (.int v257), .val (.ref a259), .val (.ref a276), .unset, .unset] [(.int p3), (.ref a276)])) rfl (by rw [hml]; rfl) (Steps.refl _) (argsL := [(.int p3)]) (rest := []) (lenOf pd_3 rfl) rfl (by show 2 * 0 + _ ≤ _; exact Nat.le_of_eq rfl) (hb hby at_90) (fun _ _ => ⟨rfl, rfl, (by decide : 3 + 0 ≤ _), (by decide : 11 + 0 ≤ _)⟩)
    dsimp only [Pt.U, Pt.locs, Pt.cells, Pt.slots] at X293 l293 y293 z293 st293 hQ293
    subst l293 y293 z293
    obtain ⟨rfl, pp293, N293, Kc293, Ec293_a1, Ec293_ar, Fc293_0, Fc293_1, Ac293_ar⟩ := hQ293
    have A294 : Arv Z T293.heap a259 cA259 .int (5 : Int32) [(.int p1), (.int p2), (.int p3), (.int p4), (.int p5)] (.int (0 : Int32)) := A291.keep Kc293 (ninS n277 (ninS n284 nin0))
    have Z295 : n0 ≤ T293.heap.size := Nat.le_trans Z292 Kc293.1
    have N293a := Fr.app N290a N293
    refine own_via st293 ?_
    show own_Go p e below (Q0 Z p1 p2 p3 p4 p5 p6 h0 n0) (own_Fr s room_1.cells room_1.slots) (T293.setTop (mkF m 93 #[.val (.int p1), .val (.int p2), .val (.int p3), .val (.int p4), .val (.int p5), .val (.int p6), .val (.int (5 : Int32)), .val (.int v257), .val (.ref a259), .val (.ref a276), .unset, .unset] []))
    refine own_iload (pc' := 95) X293 hx rfl (hb hby at_93) rfl ?_
    refine own_iconst (pc' := 96) X293 hx (3 : Int32) (by decide) (hb hby at_95) rfl ?_
    refine own_icmpNo (pc' := 99) X293 hx (by decide) (hb hby at_96) rfl ?_
    refine own_aload (pc' := 101) X293 hx rfl rfl (hb hby at_99) rfl ?_
    refine own_iloadN (pc' := 102) X293 hx rfl (hb hby at_101) rfl ?_
    obtain ⟨cq296, kq296, q296a, q296b, q296c⟩ := isOf hZ rfl Ec293_a1
    obtain ⟨_, _, ⟨T296, L296, k296, n296⟩, -, X296, ⟨Lc296, hQ296, l296, y296, z296⟩, st296⟩ := X293.virtualBack hx (y := (⟨"com/example/libpundit/libpundit/core/IntList", "add", "(I)V"⟩ : MethodName)) (z := (⟨"com/example/libpundit/libpundit/core/IntList", "add", "(I)V"⟩ : MethodName)) hown (mvT hZ (hw _ (List.mem_of_getElem? (i := 13) rfl))) (mvT hZ (hw _ (List.mem_of_getElem? (i := 14) rfl))) (notFace_of_selects (args := #[]) (mvT hZ (hw _ (List.mem_of_getElem? (i := 16) rfl)))) (mvT hZ (hw _ (List.mem_of_getElem? (i := 16) rfl))) (mvT hZ (hw _ (List.mem_of_getElem? (i := 15) rfl))) (by decide) (backOf (W := 0) (rma3 l Z a0 hw [] a276 p4 ar_282 kc_282 p1 p2 p3 T293.heap n0 Z295 Ec293_a1 Ec293_ar Fc293_0 Fc293_1 Ac293_ar fr276 frar_282 n283) hZ (hw _ (List.mem_of_getElem? (i := 17) rfl)) (hw _ (List.mem_of_getElem? (i := 4) rfl)) (by decide) (by decide)) q296a q296c (g := (mkF m 102 #[.val (.int p1), .val (.int p2), .val (.int p3), .val (.int p4), .val (.int p5), .val (.int p6), .val (.int (5 : Int32)), .val (.int v257), .val (.ref a259), .val (.ref a276), .unset, .unset] [(.int p4), (.ref a276)])) rfl (by rw [hml]; rfl) (Steps.refl _) (argsL := [(.int p4)]) (rest := []) (lenOf pd_3 rfl) rfl (by show 2 * 0 + _ ≤ _; exact Nat.le_of_eq rfl) (hb hby at_102) (fun _ _ => ⟨rfl, rfl, (by decide : 3 + 0 ≤ _), (by decide : 11 + 0 ≤ _)⟩)
    dsimp only [Pt.U, Pt.locs, Pt.cells, Pt.slots] at X296 l296 y296 z296 st296 hQ296
    subst l296 y296 z296
    obtain ⟨rfl, pp296, N296, Kc296, Ec296_a1, Ec296_ar, Fc296_0, Fc296_1, Ac296_ar⟩ := hQ296
    have A297 : Arv Z T296.heap a259 cA259 .int (5 : Int32) [(.int p1), (.int p2), (.int p3), (.int p4), (.int p5)] (.int (0 : Int32)) := A294.keep Kc296 (ninS n277 (ninS n284 nin0))
    have Z298 : n0 ≤ T296.heap.size := Nat.le_trans Z295 Kc296.1
    have N296a := Fr.app N293a N296
    refine own_via st296 ?_
    show own_Go p e below (Q0 Z p1 p2 p3 p4 p5 p6 h0 n0) (own_Fr s room_1.cells room_1.slots) (T296.setTop (mkF m 105 #[.val (.int p1), .val (.int p2), .val (.int p3), .val (.int p4), .val (.int p5), .val (.int p6), .val (.int (5 : Int32)), .val (.int v257), .val (.ref a259), .val (.ref a276), .unset, .unset] []))
    refine own_iload (pc' := 107) X296 hx rfl (hb hby at_105) rfl ?_
    refine own_iconst (pc' := 108) X296 hx (4 : Int32) (by decide) (hb hby at_107) rfl ?_
    refine own_icmpNo (pc' := 111) X296 hx (by decide) (hb hby at_108) rfl ?_
    refine own_aload (pc' := 113) X296 hx rfl rfl (hb hby at_111) rfl ?_
    refine own_iload (pc' := 115) X296 hx rfl (hb hby at_113) rfl ?_
    obtain ⟨cq299, kq299, q299a, q299b, q299c⟩ := isOf hZ rfl Ec296_a1
    obtain ⟨_, _, ⟨T299, L299, k299, n299⟩, -, X299, ⟨Lc299, hQ299, l299, y299, z299⟩, st299⟩ := X296.virtualBack hx (y := (⟨"com/example/libpundit/libpundit/core/IntList", "add", "(I)V"⟩ : MethodName)) (z := (⟨"com/example/libpundit/libpundit/core/IntList", "add", "(I)V"⟩ : MethodName)) hown (mvT hZ (hw _ (List.mem_of_getElem? (i := 13) rfl))) (mvT hZ (hw _ (List.mem_of_getElem? (i := 14) rfl))) (notFace_of_selects (args := #[]) (mvT hZ (hw _ (List.mem_of_getElem? (i := 16) rfl)))) (mvT hZ (hw _ (List.mem_of_getElem? (i := 16) rfl))) (mvT hZ (hw _ (List.mem_of_getElem? (i := 15) rfl))) (by decide) (backOf (W := 0) (rma4 l Z a0 hw [] a276 p5 ar_282 kc_282 p1 p2 p3 p4 T296.heap n0 Z298 Ec296_a1 Ec296_ar Fc296_0 Fc296_1 Ac296_ar fr276 n283) hZ (hw _ (List.mem_of_getElem? (i := 17) rfl)) (hw _ (List.mem_of_getElem? (i := 4) rfl)) (by decide) (by decide)) q299a q299c (g := (mkF m 115 #[.val (.int p1), .val (.int p2), .val (.int p3), .val (.int p4), .val (.int p5), .val (.int p6), .val (.int (5 : Int32)), .val (.int v257), .val (.ref a259), .val (.ref a276), .unset, .unset] [(.int p5), (.ref a276)])) rfl (by rw [hml]; rfl) (Steps.refl _) (argsL := [(.int p5)]) (rest := []) (lenOf pd_3 rfl) rfl (by show 2 * 0 + _ ≤ _; exact Nat.le_of_eq rfl) (hb hby at_115) (fun _ _ => ⟨rfl, rfl, (by decide : 3 + 1 ≤ _), (by decide : 11 + 8 ≤ _)⟩)
    dsimp only [Pt.U, Pt.locs, Pt.cells, Pt.slots] at X299 l299 y299 z299 st299 hQ299
    subst l299 y299 z299
    obtain ⟨q_299, kd_299, rfl, pp299, N299, Kc299, gc299_q, Ec299_a1, Ec299_q, Fc299_0, Fc299_1, Ac299_q⟩ := hQ299
    have n300 : a276 ≠ q_299 := Nat.ne_of_lt (Nat.lt_of_lt_of_le Ec296_a1.lt gc299_q)
    have n301 : ar_282 ≠ q_299 := Nat.ne_of_lt (Nat.lt_of_lt_of_le Ec296_ar.lt gc299_q)
    have n302 : a259 ≠ q_299 := Nat.ne_of_lt (Nat.lt_of_lt_of_le A297.lt gc299_q)
    have frq_299 : n0 ≤ q_299 := Nat.le_trans Z298 gc299_q
    have E303 : Exa Z T299.heap ar_282 "[I" := Ec296_ar.keep Kc299
    have A304 : Arv Z T299.heap a259 cA259 .int (5 : Int32) [(.int p1), (.int p2), (.int p3), (.int p4), (.int p5)] (.int (0 : Int32)) := A297.keep Kc299 (ninS n277 nin0)
    have A305 : Arv Z T299.heap ar_282 kc_282 .int (4 : Int32) [(.int p1), (.int p2), (.int p3), (.int p4)] (.int (0 : Int32)) := Ac296_ar.keep Kc299 (ninS (Ne.symm n283) nin0)
    have Z306 : n0 ≤ T299.heap.size := Nat.le_trans Z298 Kc299.1
    have N299a := Fr.app N296a N299
    refine own_via st299 ?_
    show own_Go p e below (Q0 Z p1 p2 p3 p4 p5 p6 h0 n0) (own_Fr s room_1.cells room_1.slots) (T299.setTop (mkF m 118 #[.val (.int p1), .val (.int p2), .val (.int p3), .val (.int p4), .val (.int p5), .val (.int p6), .val (.int (5 : Int32)), .val (.int v257), .val (.ref a259), .val (.ref a276), .unset, .unset] []))
    have b307 : v257.toInt = 0 ∨ v257.toInt = 1 ∨ v257.toInt = 2 ∨ v257.toInt = 3 ∨ v257.toInt = 4 := by omega
    rcases b307 with b307 | b307 | b307 | b307 | b307
    · obtain rfl : v257 = (0 : Int32) := Int32.toInt_inj.mp b307
      have kz308 : (0 : Int32).toInt = 0 := by decide
      refine own_aload (pc' := 120) X299 hx rfl rfl (hb hby at_118) rfl ?_
      refine own_iload (pc' := 122) X299 hx rfl (hb hby at_120) rfl ?_
      obtain ⟨cq309, kq309, q309a, q309b, q309c⟩ := isOf hZ rfl Ec299_a1
      obtain ⟨_, _, ⟨T309, L309, k309, n309⟩, -, X309, ⟨Lc309, hQ309, l309, y309, z309⟩, st309⟩ := X299.virtualBack hx (y := (⟨"com/example/libpundit/libpundit/core/IntList", "get", "(I)I"⟩ : MethodName)) (z := (⟨"com/example/libpundit/libpundit/core/IntList", "get", "(I)I"⟩ : MethodName)) hown (mvT hZ (hw _ (List.mem_of_getElem? (i := 20) rfl))) (mvT hZ (hw _ (List.mem_of_getElem? (i := 21) rfl))) (notFace_of_selects (args := #[]) (mvT hZ (hw _ (List.mem_of_getElem? (i := 23) rfl)))) (mvT hZ (hw _ (List.mem_of_getElem? (i := 23) rfl))) (mvT hZ (hw _ (List.mem_of_getElem? (i := 22) rfl))) (by decide) (backOf (W := 0) (rmg0_5 l Z a0 hw [] a276 q_299 kd_299 p1 p2 p3 p4 p5 T299.heap n0 Z306 Fc299_0 Fc299_1 Ac299_q) hZ (hw _ (List.mem_of_getElem? (i := 24) rfl)) (hw _ (List.mem_of_getElem? (i := 4) rfl)) (by decide) (by decide)) q309a q309c (g := (mkF m 122 #[.val (.int p1), .val (.int p2), .val (.int p3), .val (.int p4), .val (.int p5), .val (.int p6), .val (.int (5 : Int32)), .val (.int (0 : Int32)), .val (.ref a259), .val (.ref a276), .unset, .unset] [(.int (0 : Int32)), (.ref a276)])) rfl (by rw [hml]; rfl) (Steps.refl _) (argsL := [(.int (0 : Int32))]) (rest := []) (lenOf pd_5 rfl) rfl (by show 2 * 0 + _ ≤ _; exact Nat.le_of_eq rfl) (hb hby at_122) (fun _ _ => ⟨rfl, rfl, (by decide : 4 + 0 ≤ _), (by decide : 19 + 0 ≤ _)⟩)
      dsimp only [Pt.U, Pt.locs, Pt.cells, Pt.slots] at X309 l309 y309 z309 st309 hQ309
      subst l309 y309 z309
      obtain ⟨rfl, pp309, N309, e309⟩ := hQ309
      have N309a := Fr.app N299a N309
      refine own_via st309 ?_
      show own_Go p e below (Q0 Z p1 p2 p3 p4 p5 p6 h0 n0) (own_Fr s room_1.cells room_1.slots) (T309.setTop (mkF m 125 #[.val (.int p1), .val (.int p2), .val (.int p3), .val (.int p4), .val (.int p5), .val (.int p6), .val (.int (5 : Int32)), .val (.int (0 : Int32)), .val (.ref a259), .val (.ref a276), .unset, .unset] [(.int p1)]))
      refine own_istore (pc' := 127) X309 hx #[.val (.int p1), .val (.int p2), .val (.int p3), .val (.int p4), .val (.int p5), .val (.int p6), .val (.int (5 : Int32)), .val (.int (0 : Int32)), .val (.ref a259), .val (.ref a276), .val (.int p1), .unset] rfl (hb hby at_125) rfl ?_
      refine own_aload (pc' := 129) X309 hx rfl rfl (hb hby at_127) rfl ?_
      refine own_iload (pc' := 131) X309 hx rfl (hb hby at_129) rfl ?_
      refine own_iconst (pc' := 132) X309 hx (1 : Int32) (by decide) (hb hby at_131) rfl ?_
      refine own_isub (pc' := 133) X309 hx (z := (4 : Int32)) (by decide) (hb hby at_132) rfl ?_
      obtain ⟨cq310, kq310, q310a, q310b, q310c⟩ := isOf hZ e309 Ec299_a1
      obtain ⟨_, _, ⟨T310, L310, k310, n310⟩, -, X310, ⟨Lc310, hQ310, l310, y310, z310⟩, st310⟩ := X309.virtualBack hx (y := (⟨"com/example/libpundit/libpundit/core/IntList", "get", "(I)I"⟩ : MethodName)) (z := (⟨"com/example/libpundit/libpundit/core/IntList", "get", "(I)I"⟩ : MethodName)) hown (mvT hZ (hw _ (List.mem_of_getElem? (i := 20) rfl))) (mvT hZ (hw _ (List.mem_of_getElem? (i := 21) rfl))) (notFace_of_selects (args := #[]) (mvT hZ (hw _ (List.mem_of_getElem? (i := 23) rfl)))) (mvT hZ (hw _ (List.mem_of_getElem? (i := 23) rfl))) (mvT hZ (hw _ (List.mem_of_getElem? (i := 22) rfl))) (by decide) (backOf (W := 0) (rmg4_5 l Z a0 hw [] a276 q_299 kd_299 p1 p2 p3 p4 p5 T299.heap n0 Z306 Fc299_0 Fc299_1 Ac299_q) hZ (hw _ (List.mem_of_getElem? (i := 24) rfl)) (hw _ (List.mem_of_getElem? (i := 4) rfl)) (by decide) (by decide)) q310a q310c (g := (mkF m 133 #[.val (.int p1), .val (.int p2), .val (.int p3), .val (.int p4), .val (.int p5), .val (.int p6), .val (.int (5 : Int32)), .val (.int (0 : Int32)), .val (.ref a259), .val (.ref a276), .val (.int p1), .unset] [(.int (4 : Int32)), (.ref a276)])) rfl (by rw [hml]; rfl) (Steps.refl _) (argsL := [(.int (4 : Int32))]) (rest := []) (lenOf pd_5 rfl) rfl (by show 2 * 0 + _ ≤ _; exact Nat.le_of_eq rfl) (hb hby at_133) (fun _ _ => ⟨rfl, e309, (by decide : 4 + 0 ≤ _), (by decide : 19 + 0 ≤ _)⟩)
      dsimp only [Pt.U, Pt.locs, Pt.cells, Pt.slots] at X310 l310 y310 z310 st310 hQ310
      subst l310 y310 z310
      obtain ⟨rfl, pp310, N310, e310⟩ := hQ310
      have N310a := Fr.app N309a N310
      refine own_via st310 ?_
      show own_Go p e below (Q0 Z p1 p2 p3 p4 p5 p6 h0 n0) (own_Fr s room_1.cells room_1.slots) (T310.setTop (mkF m 136 #[.val (.int p1), .val (.int p2), .val (.int p3), .val (.int p4), .val (.int p5), .val (.int p6), .val (.int (5 : Int32)), .val (.int (0 : Int32)), .val (.ref a259), .val (.ref a276), .val (.int p1), .unset] [(.int p5)]))
      refine own_istore (pc' := 138) X310 hx #[.val (.int p1), .val (.int p2), .val (.int p3), .val (.int p4), .val (.int p5), .val (.int p6), .val (.int (5 : Int32)), .val (.int (0 : Int32)), .val (.ref a259), .val (.ref a276), .val (.int p1), .val (.int p5)] rfl (hb hby at_136) rfl ?_
      refine own_iload (pc' := 140) X310 hx rfl (hb hby at_138) rfl ?_
      refine own_aload (pc' := 142) X310 hx rfl rfl (hb hby at_140) rfl ?_
      refine own_iload (pc' := 144) X310 hx rfl (hb hby at_142) rfl ?_
      obtain ⟨c311, B311, q311, s311, u311, H311, G311⟩ := id A304
      have i311 := inb_of s311 (j := (0 : Int32)) (by decide)
      refine own_by (X310.iaload hx (j := (0 : Int32)) (v := (.int p1)) (by rw [e310]; exact B311.1) (State.isArrayOf_alike hZ.alike B311.2.1) B311.2.2 i311 (H311.at i311 rfl) (g := (mkF m 144 #[.val (.int p1), .val (.int p2), .val (.int p3), .val (.int p4), .val (.int p5), .val (.int p6), .val (.int (5 : Int32)), .val (.int (0 : Int32)), .val (.ref a259), .val (.ref a276), .val (.int p1), .val (.int p5)] [(.int (0 : Int32)), (.ref a259), (.int p1)])) rfl rfl (hb hby at_144)) ?_
      show own_Go p e below (Q0 Z p1 p2 p3 p4 p5 p6 h0 n0) (own_Fr s room_1.cells room_1.slots) (T310.setTop (mkF m 145 #[.val (.int p1), .val (.int p2), .val (.int p3), .val (.int p4), .val (.int p5), .val (.int p6), .val (.int (5 : Int32)), .val (.int (0 : Int32)), .val (.ref a259), .val (.ref a276), .val (.int p1), .val (.int p5)] [(.int p1), (.int p1)]))
      have b312 : p1.toInt = p1.toInt := by omega
      refine own_icmpNo (pc' := 148) X310 hx (own_no_ne rfl rfl b312) (hb hby at_145) rfl ?_
      refine own_iload (pc' := 150) X310 hx rfl (hb hby at_148) rfl ?_
      refine own_aload (pc' := 152) X310 hx rfl rfl (hb hby at_150) rfl ?_
      refine own_iload (pc' := 154) X310 hx rfl (hb hby at_152) rfl ?_
      refine own_iconst (pc' := 155) X310 hx (1 : Int32) (by decide) (hb hby at_154) rfl ?_
      refine own_isub (pc' := 156) X310 hx (z := (4 : Int32)) (by decide) (hb hby at_155) rfl ?_
      obtain ⟨c313, B313, q313, s313, u313, H313, G313⟩ := id A304
      have i313 := inb_of s313 (j := (4 : Int32)) (by decide)
      refine own_by (X310.iaload hx (j := (4 : Int32)) (v := (.int p5)) (by rw [e310]; exact B313.1) (State.isArrayOf_alike hZ.alike B313.2.1) B313.2.2 i313 (H313.at i313 rfl) (g := (mkF m 156 #[.val (.int p1), .val (.int p2), .val (.int p3), .val (.int p4), .val (.int p5), .val (.int p6), .val (.int (5 : Int32)), .val (.int (0 : Int32)), .val (.ref a259), .val (.ref a276), .val (.int p1), .val (.int p5)] [(.int (4 : Int32)), (.ref a259), (.int p5)])) rfl rfl (hb hby at_156)) ?_
      show own_Go p e below (Q0 Z p1 p2 p3 p4 p5 p6 h0 n0) (own_Fr s room_1.cells room_1.slots) (T310.setTop (mkF m 157 #[.val (.int p1), .val (.int p2), .val (.int p3), .val (.int p4), .val (.int p5), .val (.int p6), .val (.int (5 : Int32)), .val (.int (0 : Int32)), .val (.ref a259), .val (.ref a276), .val (.int p1), .val (.int p5)] [(.int p5), (.int p5)]))
      have b314 : p5.toInt = p5.toInt := by omega
      refine own_icmpNo (pc' := 160) X310 hx (own_no_ne rfl rfl b314) (hb hby at_157) rfl ?_
      refine own_iconst (pc' := 161) X310 hx (1 : Int32) (by decide) (hb hby at_160) rfl ?_
      refine own_goto (pc' := 165) X310 hx (hb hby at_161) (by decide) (by decide) ?_
      refine own_ret X310 hx Bd.returns Bd.notSynchronized (Or.inl ⟨rfl, by simp, _, rfl⟩) (hb hby at_165) rfl (by decide) (by decide) ?_
      show Q0 Z p1 p2 p3 p4 p5 p6 h0 n0 _ T310.heap _
      rw [e310]
      exact ⟨rfl, N310a⟩
    · obtain rfl : v257 = (1 : Int32) := Int32.toInt_inj.mp b307
      have kz315 : (1 : Int32).toInt = 1 := by decide
      refine own_aload (pc' := 120) X299 hx rfl rfl (hb hby at_118) rfl ?_
      refine own_iload (pc' := 122) X299 hx rfl (hb hby at_120) rfl ?_
      obtain ⟨cq316, kq316, q316a, q316b, q316c⟩ := isOf hZ rfl Ec299_a1
      obtain ⟨_, _, ⟨T316, L316, k316, n316⟩, -, X316, ⟨Lc316, hQ316, l316, y316, z316⟩, st316⟩ := X299.virtualBack hx (y := (⟨"com/example/libpundit/libpundit/core/IntList", "get", "(I)I"⟩ : MethodName)) (z := (⟨"com/example/libpundit/libpundit/core/IntList", "get", "(I)I"⟩ : MethodName)) hown (mvT hZ (hw _ (List.mem_of_getElem? (i := 20) rfl))) (mvT hZ (hw _ (List.mem_of_getElem? (i := 21) rfl))) (notFace_of_selects (args := #[]) (mvT hZ (hw _ (List.mem_of_getElem? (i := 23) rfl)))) (mvT hZ (hw _ (List.mem_of_getElem? (i := 23) rfl))) (mvT hZ (hw _ (List.mem_of_getElem? (i := 22) rfl))) (by decide) (backOf (W := 0) (rmg1_5 l Z a0 hw [] a276 q_299 kd_299 p1 p2 p3 p4 p5 T299.heap n0 Z306 Fc299_0 Fc299_1 Ac299_q) hZ (hw _ (List.mem_of_getElem? (i := 24) rfl)) (hw _ (List.mem_of_getElem? (i := 4) rfl)) (by decide) (by decide)) q316a q316c (g := (mkF m 122 #[.val (.int p1), .val (.int p2), .val (.int p3), .val (.int p4), .val (.int p5), .val (.int p6), .val (.int (5 : Int32)), .val (.int (1 : Int32)), .val (.ref a259), .val (.ref a276), .unset, .unset] [(.int (1 : Int32)), (.ref a276)])) rfl (by rw [hml]; rfl) (Steps.refl _) (argsL := [(.int (1 : Int32))]) (rest := []) (lenOf pd_5 rfl) rfl (by show 2 * 0 + _ ≤ _; exact Nat.le_of_eq rfl) (hb hby at_122) (fun _ _ => ⟨rfl, rfl, (by decide : 4 + 0 ≤ _), (by decide : 19 + 0 ≤ _)⟩)
      dsimp only [Pt.U, Pt.locs, Pt.cells, Pt.slots] at X316 l316 y316 z316 st316 hQ316
      subst l316 y316 z316
      obtain ⟨rfl, pp316, N316, e316⟩ := hQ316
      have N316a := Fr.app N299a N316
      refine own_via st316 ?_
      show own_Go p e below (Q0 Z p1 p2 p3 p4 p5 p6 h0 n0) (own_Fr s room_1.cells room_1.slots) (T316.setTop (mkF m 125 #[.val (.int p1), .val (.int p2), .val (.int p3), .val (.int p4), .val (.int p5), .val (.int p6), .val (.int (5 : Int32)), .val (.int (1 : Int32)), .val (.ref a259), .val (.ref a276), .unset, .unset] [(.int p2)]))
      refine own_istore (pc' := 127) X316 hx #[.val (.int p1), .val (.int p2), .val (.int p3), .val (.int p4), .val (.int p5), .val (.int p6), .val (.int (5 : Int32)), .val (.int (1 : Int32)), .val (.ref a259), .val (.ref a276), .val (.int p2), .unset] rfl (hb hby at_125) rfl ?_
      refine own_aload (pc' := 129) X316 hx rfl rfl (hb hby at_127) rfl ?_
      refine own_iload (pc' := 131) X316 hx rfl (hb hby at_129) rfl ?_
      refine own_iconst (pc' := 132) X316 hx (1 : Int32) (by decide) (hb hby at_131) rfl ?_
      refine own_isub (pc' := 133) X316 hx (z := (4 : Int32)) (by decide) (hb hby at_132) rfl ?_
      obtain ⟨cq317, kq317, q317a, q317b, q317c⟩ := isOf hZ e316 Ec299_a1
      obtain ⟨_, _, ⟨T317, L317, k317, n317⟩, -, X317, ⟨Lc317, hQ317, l317, y317, z317⟩, st317⟩ := X316.virtualBack hx (y := (⟨"com/example/libpundit/libpundit/core/IntList", "get", "(I)I"⟩ : MethodName)) (z := (⟨"com/example/libpundit/libpundit/core/IntList", "get", "(I)I"⟩ : MethodName)) hown (mvT hZ (hw _ (List.mem_of_getElem? (i := 20) rfl))) (mvT hZ (hw _ (List.mem_of_getElem? (i := 21) rfl))) (notFace_of_selects (args := #[]) (mvT hZ (hw _ (List.mem_of_getElem? (i := 23) rfl)))) (mvT hZ (hw _ (List.mem_of_getElem? (i := 23) rfl))) (mvT hZ (hw _ (List.mem_of_getElem? (i := 22) rfl))) (by decide) (backOf (W := 0) (rmg4_5 l Z a0 hw [] a276 q_299 kd_299 p1 p2 p3 p4 p5 T299.heap n0 Z306 Fc299_0 Fc299_1 Ac299_q) hZ (hw _ (List.mem_of_getElem? (i := 24) rfl)) (hw _ (List.mem_of_getElem? (i := 4) rfl)) (by decide) (by decide)) q317a q317c (g := (mkF m 133 #[.val (.int p1), .val (.int p2), .val (.int p3), .val (.int p4), .val (.int p5), .val (.int p6), .val (.int (5 : Int32)), .val (.int (1 : Int32)), .val (.ref a259), .val (.ref a276), .val (.int p2), .unset] [(.int (4 : Int32)), (.ref a276)])) rfl (by rw [hml]; rfl) (Steps.refl _) (argsL := [(.int (4 : Int32))]) (rest := []) (lenOf pd_5 rfl) rfl (by show 2 * 0 + _ ≤ _; exact Nat.le_of_eq rfl) (hb hby at_133) (fun _ _ => ⟨rfl, e316, (by decide : 4 + 0 ≤ _), (by decide : 19 + 0 ≤ _)⟩)
      dsimp only [Pt.U, Pt.locs, Pt.cells, Pt.slots] at X317 l317 y317 z317 st317 hQ317
      subst l317 y317 z317
      obtain ⟨rfl, pp317, N317, e317⟩ := hQ317
      have N317a := Fr.app N316a N317
      refine own_via st317 ?_
      show own_Go p e below (Q0 Z p1 p2 p3 p4 p5 p6 h0 n0) (own_Fr s room_1.cells room_1.slots) (T317.setTop (mkF m 136 #[.val (.int p1), .val (.int p2), .val (.int p3), .val (.int p4), .val (.int p5), .val (.int p6), .val (.int (5 : Int32)), .val (.int (1 : Int32)), .val (.ref a259), .val (.ref a276), .val (.int p2), .unset] [(.int p5)]))
      refine own_istore (pc' := 138) X317 hx #[.val (.int p1), .val (.int p2), .val (.int p3), .val (.int p4), .val (.int p5), .val (.int p6), .val (.int (5 : Int32)), .val (.int (1 : Int32)), .val (.ref a259), .val (.ref a276), .val (.int p2), .val (.int p5)] rfl (hb hby at_136) rfl ?_
      refine own_iload (pc' := 140) X317 hx rfl (hb hby at_138) rfl ?_
      refine own_aload (pc' := 142) X317 hx rfl rfl (hb hby at_140) rfl ?_
      refine own_iload (pc' := 144) X317 hx rfl (hb hby at_142) rfl ?_
      obtain ⟨c318, B318, q318, s318, u318, H318, G318⟩ := id A304
      have i318 := inb_of s318 (j := (1 : Int32)) (by decide)
      refine own_by (X317.iaload hx (j := (1 : Int32)) (v := (.int p2)) (by rw [e317]; exact B318.1) (State.isArrayOf_alike hZ.alike B318.2.1) B318.2.2 i318 (H318.at i318 rfl) (g := (mkF m 144 #[.val (.int p1), .val (.int p2), .val (.int p3), .val (.int p4), .val (.int p5), .val (.int p6), .val (.int (5 : Int32)), .val (.int (1 : Int32)), .val (.ref a259), .val (.ref a276), .val (.int p2), .val (.int p5)] [(.int (1 : Int32)), (.ref a259), (.int p2)])) rfl rfl (hb hby at_144)) ?_
      show own_Go p e below (Q0 Z p1 p2 p3 p4 p5 p6 h0 n0) (own_Fr s room_1.cells room_1.slots) (T317.setTop (mkF m 145 #[.val (.int p1), .val (.int p2), .val (.int p3), .val (.int p4), .val (.int p5), .val (.int p6), .val (.int (5 : Int32)), .val (.int (1 : Int32)), .val (.ref a259), .val (.ref a276), .val (.int p2), .val (.int p5)] [(.int p2), (.int p2)]))
      have b319 : p2.toInt = p2.toInt := by omega
      refine own_icmpNo (pc' := 148) X317 hx (own_no_ne rfl rfl b319) (hb hby at_145) rfl ?_
      refine own_iload (pc' := 150) X317 hx rfl (hb hby at_148) rfl ?_
      refine own_aload (pc' := 152) X317 hx rfl rfl (hb hby at_150) rfl ?_
      refine own_iload (pc' := 154) X317 hx rfl (hb hby at_152) rfl ?_
      refine own_iconst (pc' := 155) X317 hx (1 : Int32) (by decide) (hb hby at_154) rfl ?_
      refine own_isub (pc' := 156) X317 hx (z := (4 : Int32)) (by decide) (hb hby at_155) rfl ?_
      obtain ⟨c320, B320, q320, s320, u320, H320, G320⟩ := id A304
      have i320 := inb_of s320 (j := (4 : Int32)) (by decide)
      refine own_by (X317.iaload hx (j := (4 : Int32)) (v := (.int p5)) (by rw [e317]; exact B320.1) (State.isArrayOf_alike hZ.alike B320.2.1) B320.2.2 i320 (H320.at i320 rfl) (g := (mkF m 156 #[.val (.int p1), .val (.int p2), .val (.int p3), .val (.int p4), .val (.int p5), .val (.int p6), .val (.int (5 : Int32)), .val (.int (1 : Int32)), .val (.ref a259), .val (.ref a276), .val (.int p2), .val (.int p5)] [(.int (4 : Int32)), (.ref a259), (.int p5)])) rfl rfl (hb hby at_156)) ?_
      show own_Go p e below (Q0 Z p1 p2 p3 p4 p5 p6 h0 n0) (own_Fr s room_1.cells room_1.slots) (T317.setTop (mkF m 157 #[.val (.int p1), .val (.int p2), .val (.int p3), .val (.int p4), .val (.int p5), .val (.int p6), .val (.int (5 : Int32)), .val (.int (1 : Int32)), .val (.ref a259), .val (.ref a276), .val (.int p2), .val (.int p5)] [(.int p5), (.int p5)]))
      have b321 : p5.toInt = p5.toInt := by omega
      refine own_icmpNo (pc' := 160) X317 hx (own_no_ne rfl rfl b321) (hb hby at_157) rfl ?_
      refine own_iconst (pc' := 161) X317 hx (1 : Int32) (by decide) (hb hby at_160) rfl ?_
      refine own_goto (pc' := 165) X317 hx (hb hby at_161) (by decide) (by decide) ?_
      refine own_ret X317 hx Bd.returns Bd.notSynchronized (Or.inl ⟨rfl, by simp, _, rfl⟩) (hb hby at_165) rfl (by decide) (by decide) ?_
      show Q0 Z p1 p2 p3 p4 p5 p6 h0 n0 _ T317.heap _
      rw [e317]
      exact ⟨rfl, N317a⟩
    · obtain rfl : v257 = (2 : Int32) := Int32.toInt_inj.mp b307
      have kz322 : (2 : Int32).toInt = 2 := by decide
      refine own_aload (pc' := 120) X299 hx rfl rfl (hb hby at_118) rfl ?_
      refine own_iload (pc' := 122) X299 hx rfl (hb hby at_120) rfl ?_
      obtain ⟨cq323, kq323, q323a, q323b, q323c⟩ := isOf hZ rfl Ec299_a1
      obtain ⟨_, _, ⟨T323, L323, k323, n323⟩, -, X323, ⟨Lc323, hQ323, l323, y323, z323⟩, st323⟩ := X299.virtualBack hx (y := (⟨"com/example/libpundit/libpundit/core/IntList", "get", "(I)I"⟩ : MethodName)) (z := (⟨"com/example/libpundit/libpundit/core/IntList", "get", "(I)I"⟩ : MethodName)) hown (mvT hZ (hw _ (List.mem_of_getElem? (i := 20) rfl))) (mvT hZ (hw _ (List.mem_of_getElem? (i := 21) rfl))) (notFace_of_selects (args := #[]) (mvT hZ (hw _ (List.mem_of_getElem? (i := 23) rfl)))) (mvT hZ (hw _ (List.mem_of_getElem? (i := 23) rfl))) (mvT hZ (hw _ (List.mem_of_getElem? (i := 22) rfl))) (by decide) (backOf (W := 0) (rmg2_5 l Z a0 hw [] a276 q_299 kd_299 p1 p2 p3 p4 p5 T299.heap n0 Z306 Fc299_0 Fc299_1 Ac299_q) hZ (hw _ (List.mem_of_getElem? (i := 24) rfl)) (hw _ (List.mem_of_getElem? (i := 4) rfl)) (by decide) (by decide)) q323a q323c (g := (mkF m 122 #[.val (.int p1), .val (.int p2), .val (.int p3), .val (.int p4), .val (.int p5), .val (.int p6), .val (.int (5 : Int32)), .val (.int (2 : Int32)), .val (.ref a259), .val (.ref a276), .unset, .unset] [(.int (2 : Int32)), (.ref a276)])) rfl (by rw [hml]; rfl) (Steps.refl _) (argsL := [(.int (2 : Int32))]) (rest := []) (lenOf pd_5 rfl) rfl (by show 2 * 0 + _ ≤ _; exact Nat.le_of_eq rfl) (hb hby at_122) (fun _ _ => ⟨rfl, rfl, (by decide : 4 + 0 ≤ _), (by decide : 19 + 0 ≤ _)⟩)
      dsimp only [Pt.U, Pt.locs, Pt.cells, Pt.slots] at X323 l323 y323 z323 st323 hQ323
      subst l323 y323 z323
      obtain ⟨rfl, pp323, N323, e323⟩ := hQ323
      have N323a := Fr.app N299a N323
      refine own_via st323 ?_
      show own_Go p e below (Q0 Z p1 p2 p3 p4 p5 p6 h0 n0) (own_Fr s room_1.cells room_1.slots) (T323.setTop (mkF m 125 #[.val (.int p1), .val (.int p2), .val (.int p3), .val (.int p4), .val (.int p5), .val (.int p6), .val (.int (5 : Int32)), .val (.int (2 : Int32)), .val (.ref a259), .val (.ref a276), .unset, .unset] [(.int p3)]))
      refine own_istore (pc' := 127) X323 hx #[.val (.int p1), .val (.int p2), .val (.int p3), .val (.int p4), .val (.int p5), .val (.int p6), .val (.int (5 : Int32)), .val (.int (2 : Int32)), .val (.ref a259), .val (.ref a276), .val (.int p3), .unset] rfl (hb hby at_125) rfl ?_
      refine own_aload (pc' := 129) X323 hx rfl rfl (hb hby at_127) rfl ?_
      refine own_iload (pc' := 131) X323 hx rfl (hb hby at_129) rfl ?_
      refine own_iconst (pc' := 132) X323 hx (1 : Int32) (by decide) (hb hby at_131) rfl ?_
      refine own_isub (pc' := 133) X323 hx (z := (4 : Int32)) (by decide) (hb hby at_132) rfl ?_
      obtain ⟨cq324, kq324, q324a, q324b, q324c⟩ := isOf hZ e323 Ec299_a1
      obtain ⟨_, _, ⟨T324, L324, k324, n324⟩, -, X324, ⟨Lc324, hQ324, l324, y324, z324⟩, st324⟩ := X323.virtualBack hx (y := (⟨"com/example/libpundit/libpundit/core/IntList", "get", "(I)I"⟩ : MethodName)) (z := (⟨"com/example/libpundit/libpundit/core/IntList", "get", "(I)I"⟩ : MethodName)) hown (mvT hZ (hw _ (List.mem_of_getElem? (i := 20) rfl))) (mvT hZ (hw _ (List.mem_of_getElem? (i := 21) rfl))) (notFace_of_selects (args := #[]) (mvT hZ (hw _ (List.mem_of_getElem? (i := 23) rfl)))) (mvT hZ (hw _ (List.mem_of_getElem? (i := 23) rfl))) (mvT hZ (hw _ (List.mem_of_getElem? (i := 22) rfl))) (by decide) (backOf (W := 0) (rmg4_5 l Z a0 hw [] a276 q_299 kd_299 p1 p2 p3 p4 p5 T299.heap n0 Z306 Fc299_0 Fc299_1 Ac299_q) hZ (hw _ (List.mem_of_getElem? (i := 24) rfl)) (hw _ (List.mem_of_getElem? (i := 4) rfl)) (by decide) (by decide)) q324a q324c (g := (mkF m 133 #[.val (.int p1), .val (.int p2), .val (.int p3), .val (.int p4), .val (.int p5), .val (.int p6), .val (.int (5 : Int32)), .val (.int (2 : Int32)), .val (.ref a259), .val (.ref a276), .val (.int p3), .unset] [(.int (4 : Int32)), (.ref a276)])) rfl (by rw [hml]; rfl) (Steps.refl _) (argsL := [(.int (4 : Int32))]) (rest := []) (lenOf pd_5 rfl) rfl (by show 2 * 0 + _ ≤ _; exact Nat.le_of_eq rfl) (hb hby at_133) (fun _ _ => ⟨rfl, e323, (by decide : 4 + 0 ≤ _), (by decide : 19 + 0 ≤ _)⟩)
      dsimp only [Pt.U, Pt.locs, Pt.cells, Pt.slots] at X324 l324 y324 z324 st324 hQ324
      subst l324 y324 z324
      obtain ⟨rfl, pp324, N324, e324⟩ := hQ324
      have N324a := Fr.app N323a N324
      refine own_via st324 ?_
      show own_Go p e below (Q0 Z p1 p2 p3 p4 p5 p6 h0 n0) (own_Fr s room_1.cells room_1.slots) (T324.setTop (mkF m 136 #[.val (.int p1), .val (.int p2), .val (.int p3), .val (.int p4), .val (.int p5), .val (.int p6), .val (.int (5 : Int32)), .val (.int (2 : Int32)), .val (.ref a259), .val (.ref a276), .val (.int p3), .unset] [(.int p5)]))
      refine own_istore (pc' := 138) X324 hx #[.val (.int p1), .val (.int p2), .val (.int p3), .val (.int p4), .val (.int p5), .val (.int p6), .val (.int (5 : Int32)), .val (.int (2 : Int32)), .val (.ref a259), .val (.ref a276), .val (.int p3), .val (.int p5)] rfl (hb hby at_136) rfl ?_
      refine own_iload (pc' := 140) X324 hx rfl (hb hby at_138) rfl ?_
      refine own_aload (pc' := 142) X324 hx rfl rfl (hb hby at_140) rfl ?_
      refine own_iload (pc' := 144) X324 hx rfl (hb hby at_142) rfl ?_
      obtain ⟨c325, B325, q325, s325, u325, H325, G325⟩ := id A304
      have i325 := inb_of s325 (j := (2 : Int32)) (by decide)
      refine own_by (X324.iaload hx (j := (2 : Int32)) (v := (.int p3)) (by rw [e324]; exact B325.1) (State.isArrayOf_alike hZ.alike B325.2.1) B325.2.2 i325 (H325.at i325 rfl) (g := (mkF m 144 #[.val (.int p1), .val (.int p2), .val (.int p3), .val (.int p4), .val (.int p5), .val (.int p6), .val (.int (5 : Int32)), .val (.int (2 : Int32)), .val (.ref a259), .val (.ref a276), .val (.int p3), .val (.int p5)] [(.int (2 : Int32)), (.ref a259), (.int p3)])) rfl rfl (hb hby at_144)) ?_
      show own_Go p e below (Q0 Z p1 p2 p3 p4 p5 p6 h0 n0) (own_Fr s room_1.cells room_1.slots) (T324.setTop (mkF m 145 #[.val (.int p1), .val (.int p2), .val (.int p3), .val (.int p4), .val (.int p5), .val (.int p6), .val (.int (5 : Int32)), .val (.int (2 : Int32)), .val (.ref a259), .val (.ref a276), .val (.int p3), .val (.int p5)] [(.int p3), (.int p3)]))
      have b326 : p3.toInt = p3.toInt := by omega
      refine own_icmpNo (pc' := 148) X324 hx (own_no_ne rfl rfl b326) (hb hby at_145) rfl ?_
      refine own_iload (pc' := 150) X324 hx rfl (hb hby at_148) rfl ?_
      refine own_aload (pc' := 152) X324 hx rfl rfl (hb hby at_150) rfl ?_
      refine own_iload (pc' := 154) X324 hx rfl (hb hby at_152) rfl ?_
      refine own_iconst (pc' := 155) X324 hx (1 : Int32) (by decide) (hb hby at_154) rfl ?_
      refine own_isub (pc' := 156) X324 hx (z := (4 : Int32)) (by decide) (hb hby at_155) rfl ?_
      obtain ⟨c327, B327, q327, s327, u327, H327, G327⟩ := id A304
      have i327 := inb_of s327 (j := (4 : Int32)) (by decide)
      refine own_by (X324.iaload hx (j := (4 : Int32)) (v := (.int p5)) (by rw [e324]; exact B327.1) (State.isArrayOf_alike hZ.alike B327.2.1) B327.2.2 i327 (H327.at i327 rfl) (g := (mkF m 156 #[.val (.int p1), .val (.int p2), .val (.int p3), .val (.int p4), .val (.int p5), .val (.int p6), .val (.int (5 : Int32)), .val (.int (2 : Int32)), .val (.ref a259), .val (.ref a276), .val (.int p3), .val (.int p5)] [(.int (4 : Int32)), (.ref a259), (.int p5)])) rfl rfl (hb hby at_156)) ?_
      show own_Go p e below (Q0 Z p1 p2 p3 p4 p5 p6 h0 n0) (own_Fr s room_1.cells room_1.slots) (T324.setTop (mkF m 157 #[.val (.int p1), .val (.int p2), .val (.int p3), .val (.int p4), .val (.int p5), .val (.int p6), .val (.int (5 : Int32)), .val (.int (2 : Int32)), .val (.ref a259), .val (.ref a276), .val (.int p3), .val (.int p5)] [(.int p5), (.int p5)]))
      have b328 : p5.toInt = p5.toInt := by omega
      refine own_icmpNo (pc' := 160) X324 hx (own_no_ne rfl rfl b328) (hb hby at_157) rfl ?_
      refine own_iconst (pc' := 161) X324 hx (1 : Int32) (by decide) (hb hby at_160) rfl ?_
      refine own_goto (pc' := 165) X324 hx (hb hby at_161) (by decide) (by decide) ?_
      refine own_ret X324 hx Bd.returns Bd.notSynchronized (Or.inl ⟨rfl, by simp, _, rfl⟩) (hb hby at_165) rfl (by decide) (by decide) ?_
      show Q0 Z p1 p2 p3 p4 p5 p6 h0 n0 _ T324.heap _
      rw [e324]
      exact ⟨rfl, N324a⟩
    · obtain rfl : v257 = (3 : Int32) := Int32.toInt_inj.mp b307
      have kz329 : (3 : Int32).toInt = 3 := by decide
      refine own_aload (pc' := 120) X299 hx rfl rfl (hb hby at_118) rfl ?_
      refine own_iload (pc' := 122) X299 hx rfl (hb hby at_120) rfl ?_
      obtain ⟨cq330, kq330, q330a, q330b, q330c⟩ := isOf hZ rfl Ec299_a1
      obtain ⟨_, _, ⟨T330, L330, k330, n330⟩, -, X330, ⟨Lc330, hQ330, l330, y330, z330⟩, st330⟩ := X299.virtualBack hx (y := (⟨"com/example/libpundit/libpundit/core/IntList", "get", "(I)I"⟩ : MethodName)) (z := (⟨"com/example/libpundit/libpundit/core/IntList", "get", "(I)I"⟩ : MethodName)) hown (mvT hZ (hw _ (List.mem_of_getElem? (i := 20) rfl))) (mvT hZ (hw _ (List.mem_of_getElem? (i := 21) rfl))) (notFace_of_selects (args := #[]) (mvT hZ (hw _ (List.mem_of_getElem? (i := 23) rfl)))) (mvT hZ (hw _ (List.mem_of_getElem? (i := 23) rfl))) (mvT hZ (hw _ (List.mem_of_getElem? (i := 22) rfl))) (by decide) (backOf (W := 0) (rmg3_5 l Z a0 hw [] a276 q_299 kd_299 p1 p2 p3 p4 p5 T299.heap n0 Z306 Fc299_0 Fc299_1 Ac299_q) hZ (hw _ (List.mem_of_getElem? (i := 24) rfl)) (hw _ (List.mem_of_getElem? (i := 4) rfl)) (by decide) (by decide)) q330a q330c (g := (mkF m 122 #[.val (.int p1), .val (.int p2), .val (.int p3), .val (.int p4), .val (.int p5), .val (.int p6), .val (.int (5 : Int32)), .val (.int (3 : Int32)), .val (.ref a259), .val (.ref a276), .unset, .unset] [(.int (3 : Int32)), (.ref a276)])) rfl (by rw [hml]; rfl) (Steps.refl _) (argsL := [(.int (3 : Int32))]) (rest := []) (lenOf pd_5 rfl) rfl (by show 2 * 0 + _ ≤ _; exact Nat.le_of_eq rfl) (hb hby at_122) (fun _ _ => ⟨rfl, rfl, (by decide : 4 + 0 ≤ _), (by decide : 19 + 0 ≤ _)⟩)
      dsimp only [Pt.U, Pt.locs, Pt.cells, Pt.slots] at X330 l330 y330 z330 st330 hQ330
      subst l330 y330 z330
      obtain ⟨rfl, pp330, N330, e330⟩ := hQ330
      have N330a := Fr.app N299a N330
      refine own_via st330 ?_
      show own_Go p e below (Q0 Z p1 p2 p3 p4 p5 p6 h0 n0) (own_Fr s room_1.cells room_1.slots) (T330.setTop (mkF m 125 #[.val (.int p1), .val (.int p2), .val (.int p3), .val (.int p4), .val (.int p5), .val (.int p6), .val (.int (5 : Int32)), .val (.int (3 : Int32)), .val (.ref a259), .val (.ref a276), .unset, .unset] [(.int p4)]))
      refine own_istore (pc' := 127) X330 hx #[.val (.int p1), .val (.int p2), .val (.int p3), .val (.int p4), .val (.int p5), .val (.int p6), .val (.int (5 : Int32)), .val (.int (3 : Int32)), .val (.ref a259), .val (.ref a276), .val (.int p4), .unset] rfl (hb hby at_125) rfl ?_
      refine own_aload (pc' := 129) X330 hx rfl rfl (hb hby at_127) rfl ?_
      refine own_iload (pc' := 131) X330 hx rfl (hb hby at_129) rfl ?_
      refine own_iconst (pc' := 132) X330 hx (1 : Int32) (by decide) (hb hby at_131) rfl ?_
      refine own_isub (pc' := 133) X330 hx (z := (4 : Int32)) (by decide) (hb hby at_132) rfl ?_
      obtain ⟨cq331, kq331, q331a, q331b, q331c⟩ := isOf hZ e330 Ec299_a1
      obtain ⟨_, _, ⟨T331, L331, k331, n331⟩, -, X331, ⟨Lc331, hQ331, l331, y331, z331⟩, st331⟩ := X330.virtualBack hx (y := (⟨"com/example/libpundit/libpundit/core/IntList", "get", "(I)I"⟩ : MethodName)) (z := (⟨"com/example/libpundit/libpundit/core/IntList", "get", "(I)I"⟩ : MethodName)) hown (mvT hZ (hw _ (List.mem_of_getElem? (i := 20) rfl))) (mvT hZ (hw _ (List.mem_of_getElem? (i := 21) rfl))) (notFace_of_selects (args := #[]) (mvT hZ (hw _ (List.mem_of_getElem? (i := 23) rfl)))) (mvT hZ (hw _ (List.mem_of_getElem? (i := 23) rfl))) (mvT hZ (hw _ (List.mem_of_getElem? (i := 22) rfl))) (by decide) (backOf (W := 0) (rmg4_5 l Z a0 hw [] a276 q_299 kd_299 p1 p2 p3 p4 p5 T299.heap n0 Z306 Fc299_0 Fc299_1 Ac299_q) hZ (hw _ (List.mem_of_getElem? (i := 24) rfl)) (hw _ (List.mem_of_getElem? (i := 4) rfl)) (by decide) (by decide)) q331a q331c (g := (mkF m 133 #[.val (.int p1), .val (.int p2), .val (.int p3), .val (.int p4), .val (.int p5), .val (.int p6), .val (.int (5 : Int32)), .val (.int (3 : Int32)), .val (.ref a259), .val (.ref a276), .val (.int p4), .unset] [(.int (4 : Int32)), (.ref a276)])) rfl (by rw [hml]; rfl) (Steps.refl _) (argsL := [(.int (4 : Int32))]) (rest := []) (lenOf pd_5 rfl) rfl (by show 2 * 0 + _ ≤ _; exact Nat.le_of_eq rfl) (hb hby at_133) (fun _ _ => ⟨rfl, e330, (by decide : 4 + 0 ≤ _), (by decide : 19 + 0 ≤ _)⟩)
      dsimp only [Pt.U, Pt.locs, Pt.cells, Pt.slots] at X331 l331 y331 z331 st331 hQ331
      subst l331 y331 z331
      obtain ⟨rfl, pp331, N331, e331⟩ := hQ331
      have N331a := Fr.app N330a N331
      refine own_via st331 ?_
      show own_Go p e below (Q0 Z p1 p2 p3 p4 p5 p6 h0 n0) (own_Fr s room_1.cells room_1.slots) (T331.setTop (mkF m 136 #[.val (.int p1), .val (.int p2), .val (.int p3), .val (.int p4), .val (.int p5), .val (.int p6), .val (.int (5 : Int32)), .val (.int (3 : Int32)), .val (.ref a259), .val (.ref a276), .val (.int p4), .unset] [(.int p5)]))
      refine own_istore (pc' := 138) X331 hx #[.val (.int p1), .val (.int p2), .val (.int p3), .val (.int p4), .val (.int p5), .val (.int p6), .val (.int (5 : Int32)), .val (.int (3 : Int32)), .val (.ref a259), .val (.ref a276), .val (.int p4), .val (.int p5)] rfl (hb hby at_136) rfl ?_
      refine own_iload (pc' := 140) X331 hx rfl (hb hby at_138) rfl ?_
      refine own_aload (pc' := 142) X331 hx rfl rfl (hb hby at_140) rfl ?_
      refine own_iload (pc' := 144) X331 hx rfl (hb hby at_142) rfl ?_
      obtain ⟨c332, B332, q332, s332, u332, H332, G332⟩ := id A304
      have i332 := inb_of s332 (j := (3 : Int32)) (by decide)
      refine own_by (X331.iaload hx (j := (3 : Int32)) (v := (.int p4)) (by rw [e331]; exact B332.1) (State.isArrayOf_alike hZ.alike B332.2.1) B332.2.2 i332 (H332.at i332 rfl) (g := (mkF m 144 #[.val (.int p1), .val (.int p2), .val (.int p3), .val (.int p4), .val (.int p5), .val (.int p6), .val (.int (5 : Int32)), .val (.int (3 : Int32)), .val (.ref a259), .val (.ref a276), .val (.int p4), .val (.int p5)] [(.int (3 : Int32)), (.ref a259), (.int p4)])) rfl rfl (hb hby at_144)) ?_
      show own_Go p e below (Q0 Z p1 p2 p3 p4 p5 p6 h0 n0) (own_Fr s room_1.cells room_1.slots) (T331.setTop (mkF m 145 #[.val (.int p1), .val (.int p2), .val (.int p3), .val (.int p4), .val (.int p5), .val (.int p6), .val (.int (5 : Int32)), .val (.int (3 : Int32)), .val (.ref a259), .val (.ref a276), .val (.int p4), .val (.int p5)] [(.int p4), (.int p4)]))
      have b333 : p4.toInt = p4.toInt := by omega
      refine own_icmpNo (pc' := 148) X331 hx (own_no_ne rfl rfl b333) (hb hby at_145) rfl ?_
      refine own_iload (pc' := 150) X331 hx rfl (hb hby at_148) rfl ?_
      refine own_aload (pc' := 152) X331 hx rfl rfl (hb hby at_150) rfl ?_
      refine own_iload (pc' := 154) X331 hx rfl (hb hby at_152) rfl ?_
      refine own_iconst (pc' := 155) X331 hx (1 : Int32) (by decide) (hb hby at_154) rfl ?_
      refine own_isub (pc' := 156) X331 hx (z := (4 : Int32)) (by decide) (hb hby at_155) rfl ?_
      obtain ⟨c334, B334, q334, s334, u334, H334, G334⟩ := id A304
      have i334 := inb_of s334 (j := (4 : Int32)) (by decide)
      refine own_by (X331.iaload hx (j := (4 : Int32)) (v := (.int p5)) (by rw [e331]; exact B334.1) (State.isArrayOf_alike hZ.alike B334.2.1) B334.2.2 i334 (H334.at i334 rfl) (g := (mkF m 156 #[.val (.int p1), .val (.int p2), .val (.int p3), .val (.int p4), .val (.int p5), .val (.int p6), .val (.int (5 : Int32)), .val (.int (3 : Int32)), .val (.ref a259), .val (.ref a276), .val (.int p4), .val (.int p5)] [(.int (4 : Int32)), (.ref a259), (.int p5)])) rfl rfl (hb hby at_156)) ?_
      show own_Go p e below (Q0 Z p1 p2 p3 p4 p5 p6 h0 n0) (own_Fr s room_1.cells room_1.slots) (T331.setTop (mkF m 157 #[.val (.int p1), .val (.int p2), .val (.int p3), .val (.int p4), .val (.int p5), .val (.int p6), .val (.int (5 : Int32)), .val (.int (3 : Int32)), .val (.ref a259), .val (.ref a276), .val (.int p4), .val (.int p5)] [(.int p5), (.int p5)]))
      have b335 : p5.toInt = p5.toInt := by omega
      refine own_icmpNo (pc' := 160) X331 hx (own_no_ne rfl rfl b335) (hb hby at_157) rfl ?_
      refine own_iconst (pc' := 161) X331 hx (1 : Int32) (by decide) (hb hby at_160) rfl ?_
      refine own_goto (pc' := 165) X331 hx (hb hby at_161) (by decide) (by decide) ?_
      refine own_ret X331 hx Bd.returns Bd.notSynchronized (Or.inl ⟨rfl, by simp, _, rfl⟩) (hb hby at_165) rfl (by decide) (by decide) ?_
      show Q0 Z p1 p2 p3 p4 p5 p6 h0 n0 _ T331.heap _
      rw [e331]
      exact ⟨rfl, N331a⟩
    · obtain rfl : v257 = (4 : Int32) := Int32.toInt_inj.mp b307
      have kz336 : (4 : Int32).toInt = 4 := by decide
      refine own_aload (pc' := 120) X299 hx rfl rfl (hb hby at_118) rfl ?_
      refine own_iload (pc' := 122) X299 hx rfl (hb hby at_120) rfl ?_
      obtain ⟨cq337, kq337, q337a, q337b, q337c⟩ := isOf hZ rfl Ec299_a1
      obtain ⟨_, _, ⟨T337, L337, k337, n337⟩, -, X337, ⟨Lc337, hQ337, l337, y337, z337⟩, st337⟩ := X299.virtualBack hx (y := (⟨"com/example/libpundit/libpundit/core/IntList", "get", "(I)I"⟩ : MethodName)) (z := (⟨"com/example/libpundit/libpundit/core/IntList", "get", "(I)I"⟩ : MethodName)) hown (mvT hZ (hw _ (List.mem_of_getElem? (i := 20) rfl))) (mvT hZ (hw _ (List.mem_of_getElem? (i := 21) rfl))) (notFace_of_selects (args := #[]) (mvT hZ (hw _ (List.mem_of_getElem? (i := 23) rfl)))) (mvT hZ (hw _ (List.mem_of_getElem? (i := 23) rfl))) (mvT hZ (hw _ (List.mem_of_getElem? (i := 22) rfl))) (by decide) (backOf (W := 0) (rmg4_5 l Z a0 hw [] a276 q_299 kd_299 p1 p2 p3 p4 p5 T299.heap n0 Z306 Fc299_0 Fc299_1 Ac299_q) hZ (hw _ (List.mem_of_getElem? (i := 24) rfl)) (hw _ (List.mem_of_getElem? (i := 4) rfl)) (by decide) (by decide)) q337a q337c (g := (mkF m 122 #[.val (.int p1), .val (.int p2), .val (.int p3), .val (.int p4), .val (.int p5), .val (.int p6), .val (.int (5 : Int32)), .val (.int (4 : Int32)), .val (.ref a259), .val (.ref a276), .unset, .unset] [(.int (4 : Int32)), (.ref a276)])) rfl (by rw [hml]; rfl) (Steps.refl _) (argsL := [(.int (4 : Int32))]) (rest := []) (lenOf pd_5 rfl) rfl (by show 2 * 0 + _ ≤ _; exact Nat.le_of_eq rfl) (hb hby at_122) (fun _ _ => ⟨rfl, rfl, (by decide : 4 + 0 ≤ _), (by decide : 19 + 0 ≤ _)⟩)
      dsimp only [Pt.U, Pt.locs, Pt.cells, Pt.slots] at X337 l337 y337 z337 st337 hQ337
      subst l337 y337 z337
      obtain ⟨rfl, pp337, N337, e337⟩ := hQ337
      have N337a := Fr.app N299a N337
      refine own_via st337 ?_
      show own_Go p e below (Q0 Z p1 p2 p3 p4 p5 p6 h0 n0) (own_Fr s room_1.cells room_1.slots) (T337.setTop (mkF m 125 #[.val (.int p1), .val (.int p2), .val (.int p3), .val (.int p4), .val (.int p5), .val (.int p6), .val (.int (5 : Int32)), .val (.int (4 : Int32)), .val (.ref a259), .val (.ref a276), .unset, .unset] [(.int p5)]))
      refine own_istore (pc' := 127) X337 hx #[.val (.int p1), .val (.int p2), .val (.int p3), .val (.int p4), .val (.int p5), .val (.int p6), .val (.int (5 : Int32)), .val (.int (4 : Int32)), .val (.ref a259), .val (.ref a276), .val (.int p5), .unset] rfl (hb hby at_125) rfl ?_
      refine own_aload (pc' := 129) X337 hx rfl rfl (hb hby at_127) rfl ?_
      refine own_iload (pc' := 131) X337 hx rfl (hb hby at_129) rfl ?_
      refine own_iconst (pc' := 132) X337 hx (1 : Int32) (by decide) (hb hby at_131) rfl ?_
      refine own_isub (pc' := 133) X337 hx (z := (4 : Int32)) (by decide) (hb hby at_132) rfl ?_
      obtain ⟨cq338, kq338, q338a, q338b, q338c⟩ := isOf hZ e337 Ec299_a1
      obtain ⟨_, _, ⟨T338, L338, k338, n338⟩, -, X338, ⟨Lc338, hQ338, l338, y338, z338⟩, st338⟩ := X337.virtualBack hx (y := (⟨"com/example/libpundit/libpundit/core/IntList", "get", "(I)I"⟩ : MethodName)) (z := (⟨"com/example/libpundit/libpundit/core/IntList", "get", "(I)I"⟩ : MethodName)) hown (mvT hZ (hw _ (List.mem_of_getElem? (i := 20) rfl))) (mvT hZ (hw _ (List.mem_of_getElem? (i := 21) rfl))) (notFace_of_selects (args := #[]) (mvT hZ (hw _ (List.mem_of_getElem? (i := 23) rfl)))) (mvT hZ (hw _ (List.mem_of_getElem? (i := 23) rfl))) (mvT hZ (hw _ (List.mem_of_getElem? (i := 22) rfl))) (by decide) (backOf (W := 0) (rmg4_5 l Z a0 hw [] a276 q_299 kd_299 p1 p2 p3 p4 p5 T299.heap n0 Z306 Fc299_0 Fc299_1 Ac299_q) hZ (hw _ (List.mem_of_getElem? (i := 24) rfl)) (hw _ (List.mem_of_getElem? (i := 4) rfl)) (by decide) (by decide)) q338a q338c (g := (mkF m 133 #[.val (.int p1), .val (.int p2), .val (.int p3), .val (.int p4), .val (.int p5), .val (.int p6), .val (.int (5 : Int32)), .val (.int (4 : Int32)), .val (.ref a259), .val (.ref a276), .val (.int p5), .unset] [(.int (4 : Int32)), (.ref a276)])) rfl (by rw [hml]; rfl) (Steps.refl _) (argsL := [(.int (4 : Int32))]) (rest := []) (lenOf pd_5 rfl) rfl (by show 2 * 0 + _ ≤ _; exact Nat.le_of_eq rfl) (hb hby at_133) (fun _ _ => ⟨rfl, e337, (by decide : 4 + 0 ≤ _), (by decide : 19 + 0 ≤ _)⟩)
      dsimp only [Pt.U, Pt.locs, Pt.cells, Pt.slots] at X338 l338 y338 z338 st338 hQ338
      subst l338 y338 z338
      obtain ⟨rfl, pp338, N338, e338⟩ := hQ338
      have N338a := Fr.app N337a N338
      refine own_via st338 ?_
      show own_Go p e below (Q0 Z p1 p2 p3 p4 p5 p6 h0 n0) (own_Fr s room_1.cells room_1.slots) (T338.setTop (mkF m 136 #[.val (.int p1), .val (.int p2), .val (.int p3), .val (.int p4), .val (.int p5), .val (.int p6), .val (.int (5 : Int32)), .val (.int (4 : Int32)), .val (.ref a259), .val (.ref a276), .val (.int p5), .unset] [(.int p5)]))
      refine own_istore (pc' := 138) X338 hx #[.val (.int p1), .val (.int p2), .val (.int p3), .val (.int p4), .val (.int p5), .val (.int p6), .val (.int (5 : Int32)), .val (.int (4 : Int32)), .val (.ref a259), .val (.ref a276), .val (.int p5), .val (.int p5)] rfl (hb hby at_136) rfl ?_
      refine own_iload (pc' := 140) X338 hx rfl (hb hby at_138) rfl ?_
      refine own_aload (pc' := 142) X338 hx rfl rfl (hb hby at_140) rfl ?_
      refine own_iload (pc' := 144) X338 hx rfl (hb hby at_142) rfl ?_
      obtain ⟨c339, B339, q339, s339, u339, H339, G339⟩ := id A304
      have i339 := inb_of s339 (j := (4 : Int32)) (by decide)
      refine own_by (X338.iaload hx (j := (4 : Int32)) (v := (.int p5)) (by rw [e338]; exact B339.1) (State.isArrayOf_alike hZ.alike B339.2.1) B339.2.2 i339 (H339.at i339 rfl) (g := (mkF m 144 #[.val (.int p1), .val (.int p2), .val (.int p3), .val (.int p4), .val (.int p5), .val (.int p6), .val (.int (5 : Int32)), .val (.int (4 : Int32)), .val (.ref a259), .val (.ref a276), .val (.int p5), .val (.int p5)] [(.int (4 : Int32)), (.ref a259), (.int p5)])) rfl rfl (hb hby at_144)) ?_
      show own_Go p e below (Q0 Z p1 p2 p3 p4 p5 p6 h0 n0) (own_Fr s room_1.cells room_1.slots) (T338.setTop (mkF m 145 #[.val (.int p1), .val (.int p2), .val (.int p3), .val (.int p4), .val (.int p5), .val (.int p6), .val (.int (5 : Int32)), .val (.int (4 : Int32)), .val (.ref a259), .val (.ref a276), .val (.int p5), .val (.int p5)] [(.int p5), (.int p5)]))
      have b340 : p5.toInt = p5.toInt := by omega
      refine own_icmpNo (pc' := 148) X338 hx (own_no_ne rfl rfl b340) (hb hby at_145) rfl ?_
      refine own_iload (pc' := 150) X338 hx rfl (hb hby at_148) rfl ?_
      refine own_aload (pc' := 152) X338 hx rfl rfl (hb hby at_150) rfl ?_
      refine own_iload (pc' := 154) X338 hx rfl (hb hby at_152) rfl ?_
      refine own_iconst (pc' := 155) X338 hx (1 : Int32) (by decide) (hb hby at_154) rfl ?_
      refine own_isub (pc' := 156) X338 hx (z := (4 : Int32)) (by decide) (hb hby at_155) rfl ?_
      obtain ⟨c341, B341, q341, s341, u341, H341, G341⟩ := id A304
      have i341 := inb_of s341 (j := (4 : Int32)) (by decide)
      refine own_by (X338.iaload hx (j := (4 : Int32)) (v := (.int p5)) (by rw [e338]; exact B341.1) (State.isArrayOf_alike hZ.alike B341.2.1) B341.2.2 i341 (H341.at i341 rfl) (g := (mkF m 156 #[.val (.int p1), .val (.int p2), .val (.int p3), .val (.int p4), .val (.int p5), .val (.int p6), .val (.int (5 : Int32)), .val (.int (4 : Int32)), .val (.ref a259), .val (.ref a276), .val (.int p5), .val (.int p5)] [(.int (4 : Int32)), (.ref a259), (.int p5)])) rfl rfl (hb hby at_156)) ?_
      show own_Go p e below (Q0 Z p1 p2 p3 p4 p5 p6 h0 n0) (own_Fr s room_1.cells room_1.slots) (T338.setTop (mkF m 157 #[.val (.int p1), .val (.int p2), .val (.int p3), .val (.int p4), .val (.int p5), .val (.int p6), .val (.int (5 : Int32)), .val (.int (4 : Int32)), .val (.ref a259), .val (.ref a276), .val (.int p5), .val (.int p5)] [(.int p5), (.int p5)]))
      have b342 : p5.toInt = p5.toInt := by omega
      refine own_icmpNo (pc' := 160) X338 hx (own_no_ne rfl rfl b342) (hb hby at_157) rfl ?_
      refine own_iconst (pc' := 161) X338 hx (1 : Int32) (by decide) (hb hby at_160) rfl ?_
      refine own_goto (pc' := 165) X338 hx (hb hby at_161) (by decide) (by decide) ?_
      refine own_ret X338 hx Bd.returns Bd.notSynchronized (Or.inl ⟨rfl, by simp, _, rfl⟩) (hb hby at_165) rfl (by decide) (by decide) ?_
      show Q0 Z p1 p2 p3 p4 p5 p6 h0 n0 _ T338.heap _
      rw [e338]
      exact ⟨rfl, N338a⟩
set_option maxRecDepth 65536 in
set_option maxHeartbeats 40000000 in
theorem comes_1 {Post : Tables → Env → Array Value → State → Outcome → State → Prop} (hpost : ∀ tb e args s v u, (limb_1_1.after args s (.returned v) u = true ∧ limb_1_2.after args s (.returned v) u = true ∧ True) → FrameEnd s (.returned v) u (Jvm.fieldLocs frame_1_writes args s ++ Jvm.arrayLocs frame_1_arrays args s ++ Jvm.staticLocs frame_1_statics s) 16 128 → Post tb e args s (.returned v) u) :
    ArmFor flags0 classFile x code maxLocals ret World_1 tables_1 room_1 Calls_1 rest_1 Pre_1 Post := by
  intro l hfl _ _ p e ha hc hk s m args below hf hA hF happ hP
  obtain ⟨hcalls, hrest, hpre⟩ := hP
  obtain ⟨-, -, -, hnamed, -, -, -, hat⟩ := (Spec.applies_iff hf).mp happ
  obtain ⟨hg, hn⟩ := and_e (Cond.before_iff.mp (show (Jvm.Cond.and given_1 narrow_1).before args s = true from hpre))
  obtain ⟨g0, gr0⟩ := and_e hg
  obtain ⟨g1, gr1⟩ := and_e gr0
  obtain ⟨g2, gr2⟩ := and_e gr1
  obtain ⟨g3, gr3⟩ := and_e gr2
  obtain ⟨g4, gr4⟩ := and_e gr3
  obtain ⟨g5, gr5⟩ := and_e gr4
  obtain ⟨w0, w1, w2, w3, w4, w5, rfl⟩ : ∃ w0 w1 w2 w3 w4 w5 : Value, args = #[w0, w1, w2, w3, w4, w5] := by
    have hs : args.size = 6 := by simpa [Cond.value, given_1] using g0
    obtain ⟨L⟩ := args
    match L, hs with
    | [w0, w1, w2, w3, w4, w5], _ => exact ⟨w0, w1, w2, w3, w4, w5, rfl⟩
  have hw := fun d (hd : d ∈ tables_1) => atoms_spec (ws := Jvm.Cond.code x code maxLocals ret :: tables_1) hat d (List.mem_cons_of_mem _ hd)
  obtain ⟨i0, ev0⟩ := is_v g1
  obtain rfl : w0 = (.int i0) := Option.some.inj ev0
  obtain ⟨i1, ev1⟩ := is_v g2
  obtain rfl : w1 = (.int i1) := Option.some.inj ev1
  obtain ⟨i2, ev2⟩ := is_v g3
  obtain rfl : w2 = (.int i2) := Option.some.inj ev2
  obtain ⟨i3, ev3⟩ := is_v g4
  obtain rfl : w3 = (.int i3) := Option.some.inj ev3
  obtain ⟨i4, ev4⟩ := is_v g5
  obtain rfl : w4 = (.int i4) := Option.some.inj ev4
  obtain ⟨i5, ev5⟩ := is_v gr5
  obtain rfl : w5 = (.int i5) := Option.some.inj ev5
  obtain ⟨n, o, h1, h2, h3, _, L, rfl, ⟨rfl, N⟩, hq⟩ := rm0 l s _ hw tables_1 i0 i1 i2 i3 i4 i5  s.heap s.heap.size (Nat.le_refl _)  p e ha hc hk s m _ below hf ((Spec.applies_iff_loose hf).mp happ).1 ⟨rfl, State.Warmed39.refl s, rfl⟩ trivial
  refine ⟨n, _, h1, h2, h3, hpost _ _ _ _ _ _ ⟨Cond.after_iff.mpr rfl, Cond.after_iff.mpr (eq_i res_at (Term.int_eval (1)) rfl), trivial⟩ ⟨hq.1, hq.2.1, (hq.2.2.sift fun y hy => Or.inr (N y hy)).mono (by decide) (by decide)⟩⟩
theorem main_1_1 : Claimed_1_1 := comes_1 fun _ _ _ _ _ _ h hF => ⟨h.1, hF⟩
theorem main_1_2 : Claimed_1_2 := comes_1 fun _ _ _ _ _ _ h hF => ⟨h.2.1, hF⟩
end Jvm.Pilot.@@N@@
namespace Jvm.Pilot.@@N@@
open Jvm Jvm.ClassFile Sem Op Lib Jvm.Free Jvm.Stand Jvm.Pilot.@@N@@.Jvm.D
/-! MADE BY PROGRAM (witnessworld.py) out of the Statement's table words and the real class files: 14 classes; the members and pool entries that the words name. The judged class is class 1, her method 1. -/
namespace start1
open Jvm.ClassFile
def u (s : String) : CpInfo := .utf8 (stringToUtf16 s)
/-- a pool by its gaps: so many unusable entries, then the entry; so many at the end -/
def gap : Nat → List CpInfo → List CpInfo
  | 0, r => r
  | n + 1, r => .unusable :: gap n r
def poolList (es : List (Nat × CpInfo)) (last : Nat) : List CpInfo := es.foldr (fun e r => gap e.1 (e.2 :: r)) (gap last [])
def pool (es : List (Nat × CpInfo)) (last : Nat) : Array CpInfo := ⟨poolList es last⟩
def fileOf (pool : Array CpInfo) (this : Nat) (attrs : Array Attribute := #[]) (ms : Array MethodInfo := #[]) (fl : Nat := 33) (sup : Nat := 0) (ifs : Array Nat := #[]) (fds : Array FieldInfo := #[]) : ClassFile where
  minorVersion := 0
  majorVersion := 65
  constantPool := pool
  accessFlags := fl
  thisClass := this
  superClass := sup
  interfaces := ifs
  fields := fds
  methods := ms
  attributes := attrs
def plain (name : String) (sup : Option ClassId) : Class where
  name := name
  kind := .ordinary
  loader := none
  accessFlags := 33
  super := sup
  interfaces := #[]
  cf := none
  fields := #[]
  methods := #[]
  instanceTypes := #[]
  staticTypes := #[]
  resolved := #[]
  callSites := []
  init := .initialized
  statics := none
  mirror := none

def pool0 : Array CpInfo := pool [(5, u "<init>"), (0, u "()V"), (1, .class_ 10), (1, u "java/lang/Object")] 113

def k0c0 : Code := { maxStack := 0, maxLocals := 1, code := object_method_1_code, exceptionTable := #[], attributes := #[] }
def k0m0 : Method := { name := "<init>", desc := "()V", sig := { parameters := [], returnType := none }, accessFlags := 1, code := some k0c0 }
/-- java/lang/Object -/
def k0 : Class := { plain "java/lang/Object" none with
  accessFlags := 33
  interfaces := #[]
  cf := some (fileOf pool0 8 #[] #[{ accessFlags := 1, nameIndex := 5, descriptorIndex := 6, attributes := #[] }] 33 0 #[] #[])
  fields := #[]
  methods := #[k0m0]
  instanceTypes := #[]
  staticTypes := #[]
  resolved := Array.replicate 124 none
  statics := none }

def pool1 : Array CpInfo := pool [(2, .class_ 4), (0, .nameAndType 5 6), (0, u "java/lang/Object"), (0, u "<init>"), (0, u "()V"), (0, .integer 2147483647), (0, .class_ 9), (0, u "com/example/libpundit/libpundit/core/IntList"), (0, .methodref 8 3), (0, .methodref 8 12), (0, .nameAndType 13 14), (0, u "add"), (0, u "(I)V"), (0, .methodref 8 16), (0, .nameAndType 17 18), (0, u "get"), (0, u "(I)I"), (0, .class_ 20), (0, u "com/example/libpundit/libpundit/core/IntListGetPinLaw"), (2, u "law"), (0, u "(IIIIII)Z")] 5

def k1m0 : Method := { name := "<init>", desc := "()V", sig := { parameters := [], returnType := none }, accessFlags := 2, code := none }
def k1c1 : Code := { maxStack := 4, maxLocals := 12, code := code, exceptionTable := #[], attributes := #[] }
def k1m1 : Method := { name := "law", desc := "(IIIIII)Z", sig := { parameters := [.int, .int, .int, .int, .int, .int], returnType := some .boolean }, accessFlags := 9, code := some k1c1 }
/-- com/example/libpundit/libpundit/core/IntListGetPinLaw -/
def k1 : Class := { plain "com/example/libpundit/libpundit/core/IntListGetPinLaw" (some 0) with
  accessFlags := 49
  interfaces := #[]
  cf := some (fileOf pool1 19 #[] #[{ accessFlags := 2, nameIndex := 5, descriptorIndex := 6, attributes := #[] }, { accessFlags := 9, nameIndex := 23, descriptorIndex := 24, attributes := #[] }] 49 2 #[] #[])
  fields := #[]
  methods := #[k1m0, k1m1]
  instanceTypes := #[]
  staticTypes := #[]
  resolved := Array.replicate 30 none
  statics := none }

def pool2 : Array CpInfo := pool [(1, .methodref 2 3), (0, .class_ 4), (0, .nameAndType 5 6), (0, u "java/lang/Object"), (0, u "<init>"), (0, u "()V"), (0, .fieldref 8 9), (0, .class_ 10), (0, .nameAndType 11 12), (0, u "com/example/libpundit/libpundit/core/IntList"), (0, u "values"), (0, u "[I"), (0, .fieldref 8 14), (0, .nameAndType 15 16), (0, u "size"), (0, u "I"), (0, .methodref 18 19), (0, .class_ 20), (0, .nameAndType 21 22), (0, u "java/util/Arrays"), (0, u "copyOf"), (0, u "([II)[I"), (0, .methodref 24 25), (0, .class_ 26), (0, .nameAndType 27 28), (0, u "java/util/Objects"), (0, u "checkIndex"), (0, u "(II)I"), (2, u "add"), (0, u "(I)V"), (2, u "get"), (0, u "(I)I")] 4

def k2c0 : Code := { maxStack := 2, maxLocals := 1, code := prog_21_method_1_code, exceptionTable := #[], attributes := #[] }
def k2m0 : Method := { name := "<init>", desc := "()V", sig := { parameters := [], returnType := none }, accessFlags := 0, code := some k2c0 }
def k2c1 : Code := { maxStack := 5, maxLocals := 2, code := prog_21_method_2_code, exceptionTable := #[], attributes := #[] }
def k2m1 : Method := { name := "add", desc := "(I)V", sig := { parameters := [.int], returnType := none }, accessFlags := 0, code := some k2c1 }
def k2c2 : Code := { maxStack := 2, maxLocals := 2, code := prog_21_method_4_code, exceptionTable := #[], attributes := #[] }
def k2m2 : Method := { name := "get", desc := "(I)I", sig := { parameters := [.int], returnType := some .int }, accessFlags := 0, code := some k2c2 }
/-- com/example/libpundit/libpundit/core/IntList -/
def k2 : Class := { plain "com/example/libpundit/libpundit/core/IntList" (some 0) with
  accessFlags := 48
  interfaces := #[]
  cf := some (fileOf pool2 8 #[] #[{ accessFlags := 0, nameIndex := 5, descriptorIndex := 6, attributes := #[] }, { accessFlags := 0, nameIndex := 31, descriptorIndex := 32, attributes := #[] }, { accessFlags := 0, nameIndex := 35, descriptorIndex := 36, attributes := #[] }] 48 2 #[] #[{ accessFlags := 2, nameIndex := 11, descriptorIndex := 12, attributes := #[] }, { accessFlags := 2, nameIndex := 15, descriptorIndex := 16, attributes := #[] }])
  fields := #[{ name := "values", type := (.array .int), accessFlags := 2, slot := 0, constantValue := 0 }, { name := "size", type := .int, accessFlags := 2, slot := 1, constantValue := 0 }]
  methods := #[k2m0, k2m1, k2m2]
  instanceTypes := #[(.array .int), .int]
  staticTypes := #[]
  resolved := Array.replicate 41 none
  statics := none }

def pool3 : Array CpInfo := pool [(2, .class_ 4), (1, u "java/lang/Object"), (0, u "<init>"), (0, u "()V"), (35, .class_ 44), (1, u "java/util/Objects"), (60, .methodref 106 107), (0, .class_ 108), (0, .nameAndType 109 110), (0, u "jdk/internal/util/Preconditions"), (0, u "checkIndex"), (0, u "(IILjava/util/function/BiFunction;)I"), (60, u "(II)I")] 12

def k3m0 : Method := { name := "<init>", desc := "()V", sig := { parameters := [], returnType := none }, accessFlags := 2, code := none }
def k3c1 : Code := { maxStack := 3, maxLocals := 2, code := jdk_31_method_17_code, exceptionTable := #[], attributes := #[] }
def k3m1 : Method := { name := "checkIndex", desc := "(II)I", sig := { parameters := [.int, .int], returnType := some .int }, accessFlags := 9, code := some k3c1 }
/-- java/util/Objects -/
def k3 : Class := { plain "java/util/Objects" (some 0) with
  accessFlags := 49
  interfaces := #[]
  cf := some (fileOf pool3 42 #[] #[{ accessFlags := 2, nameIndex := 5, descriptorIndex := 6, attributes := #[] }, { accessFlags := 9, nameIndex := 109, descriptorIndex := 171, attributes := #[] }] 49 2 #[] #[])
  fields := #[]
  methods := #[k3m0, k3m1]
  instanceTypes := #[]
  staticTypes := #[]
  resolved := Array.replicate 184 none
  statics := none }

def pool4 : Array CpInfo := pool [(2, .class_ 4), (1, u "java/lang/Object"), (0, u "<init>"), (0, u "()V"), (17, .class_ 26), (1, u "jdk/internal/util/Preconditions"), (6, u "checkIndex"), (21, .class_ 56), (0, u "jdk/internal/util/Preconditions$4"), (57, .class_ 115), (0, u "jdk/internal/util/Preconditions$1"), (7, u "SIOOBE_FORMATTER"), (0, u "Ljava/util/function/BiFunction;"), (0, .class_ 126), (0, u "jdk/internal/util/Preconditions$2"), (3, u "AIOOBE_FORMATTER"), (0, .class_ 132), (0, u "jdk/internal/util/Preconditions$3"), (3, u "IOOBE_FORMATTER"), (41, u "(IILjava/util/function/BiFunction;)I")] 15

def k4m0 : Method := { name := "<init>", desc := "()V", sig := { parameters := [], returnType := none }, accessFlags := 1, code := none }
def k4c1 : Code := { maxStack := 3, maxLocals := 3, code := jdk_41_method_11_code, exceptionTable := #[], attributes := #[] }
def k4m1 : Method := { name := "checkIndex", desc := "(IILjava/util/function/BiFunction;)I", sig := { parameters := [.int, .int, (.object "java/util/function/BiFunction")], returnType := some .int }, accessFlags := 9, code := some k4c1 }
/-- jdk/internal/util/Preconditions -/
def k4 : Class := { plain "jdk/internal/util/Preconditions" (some 0) with
  accessFlags := 33
  interfaces := #[]
  cf := some (fileOf pool4 24 #[.nestMembers #[55, 131, 125, 114]] #[{ accessFlags := 1, nameIndex := 5, descriptorIndex := 6, attributes := #[] }, { accessFlags := 9, nameIndex := 33, descriptorIndex := 178, attributes := #[] }] 33 2 #[] #[{ accessFlags := 25, nameIndex := 123, descriptorIndex := 124, attributes := #[] }, { accessFlags := 25, nameIndex := 130, descriptorIndex := 124, attributes := #[] }, { accessFlags := 25, nameIndex := 136, descriptorIndex := 124, attributes := #[] }])
  fields := #[{ name := "SIOOBE_FORMATTER", type := (.object "java/util/function/BiFunction"), accessFlags := 25, slot := 0, constantValue := 0 }, { name := "AIOOBE_FORMATTER", type := (.object "java/util/function/BiFunction"), accessFlags := 25, slot := 1, constantValue := 0 }, { name := "IOOBE_FORMATTER", type := (.object "java/util/function/BiFunction"), accessFlags := 25, slot := 2, constantValue := 0 }]
  methods := #[k4m0, k4m1]
  instanceTypes := #[]
  staticTypes := #[(.object "java/util/function/BiFunction"), (.object "java/util/function/BiFunction"), (.object "java/util/function/BiFunction")]
  resolved := Array.replicate 194 none
  statics := none }

def pool5 : Array CpInfo := pool [(2, .class_ 4), (1, u "java/lang/Object"), (0, u "<init>"), (0, u "()V"), (7, .class_ 16), (1, u "java/util/Arrays"), (57, .class_ 76), (1, u "java/util/Arrays$NaturalOrder"), (36, .class_ 115), (1, u "java/util/Arrays$LegacyMergeSort"), (1, u "Z"), (32, .methodref 151 152), (0, .class_ 153), (0, .nameAndType 154 155), (0, u "java/lang/System"), (0, u "arraycopy"), (0, u "(Ljava/lang/Object;ILjava/lang/Object;II)V"), (146, u "copyOf"), (1, .methodref 305 306), (0, .class_ 307), (0, .nameAndType 308 309), (0, u "java/lang/Math"), (0, u "min"), (0, u "(II)I"), (65, .class_ 376), (0, u "java/util/Arrays$ArrayList"), (68, u "$assertionsDisabled"), (269, u "MIN_ARRAY_SORT_GRAN"), (0, u "I"), (2, u "INSERTIONSORT_THRESHOLD"), (151, u "([II)[I"), (103, .class_ 976), (0, u "java/util/Arrays$ArrayItr")] 52

def k5m0 : Method := { name := "<init>", desc := "()V", sig := { parameters := [], returnType := none }, accessFlags := 2, code := none }
def k5c1 : Code := { maxStack := 6, maxLocals := 3, code := jdk_65_method_123_code, exceptionTable := #[], attributes := #[] }
def k5m1 : Method := { name := "copyOf", desc := "([II)[I", sig := { parameters := [(.array .int), .int], returnType := some (.array .int) }, accessFlags := 9, code := some k5c1 }
/-- java/util/Arrays -/
def k5 : Class := { plain "java/util/Arrays" (some 0) with
  accessFlags := 49
  interfaces := #[]
  cf := some (fileOf pool5 14 #[.nestMembers #[975, 375, 113, 74]] #[{ accessFlags := 2, nameIndex := 5, descriptorIndex := 6, attributes := #[] }, { accessFlags := 9, nameIndex := 302, descriptorIndex := 871, attributes := #[] }] 49 2 #[] #[{ accessFlags := 26, nameIndex := 715, descriptorIndex := 716, attributes := #[] }, { accessFlags := 26, nameIndex := 719, descriptorIndex := 716, attributes := #[] }, { accessFlags := 4120, nameIndex := 445, descriptorIndex := 117, attributes := #[] }])
  fields := #[{ name := "MIN_ARRAY_SORT_GRAN", type := .int, accessFlags := 26, slot := 0, constantValue := 0 }, { name := "INSERTIONSORT_THRESHOLD", type := .int, accessFlags := 26, slot := 1, constantValue := 0 }, { name := "$assertionsDisabled", type := .boolean, accessFlags := 4120, slot := 2, constantValue := 0 }]
  methods := #[k5m0, k5m1]
  instanceTypes := #[]
  staticTypes := #[.int, .int, .boolean]
  resolved := Array.replicate 1029 none
  statics := none }

def pool6 : Array CpInfo := pool [(1, .class_ 2), (0, u "java/lang/Math"), (1, .class_ 6), (1, u "java/lang/Object"), (0, u "<init>"), (0, u "()V"), (89, .class_ 100), (1, u "java/lang/Math$RandomNumberGeneratorHolder"), (71, u "negativeZeroFloatBits"), (0, u "J"), (2, u "negativeZeroDoubleBits"), (24, u "min"), (43, u "$assertionsDisabled"), (0, u "Z"), (88, u "(II)I"), (2, u "twoToTheDoubleScaleDown"), (0, u "D"), (4, u "twoToTheDoubleScaleUp"), (9, u "E"), (3, u "PI"), (2, u "TAU"), (2, u "DEGREES_TO_RADIANS"), (0, u "RADIANS_TO_DEGREES")] 94

def k6m0 : Method := { name := "<init>", desc := "()V", sig := { parameters := [], returnType := none }, accessFlags := 2, code := none }
def k6c1 : Code := { maxStack := 2, maxLocals := 2, code := jdk_29_method_69_code, exceptionTable := #[], attributes := #[] }
def k6m1 : Method := { name := "min", desc := "(II)I", sig := { parameters := [.int, .int], returnType := some .int }, accessFlags := 9, code := some k6c1 }
/-- java/lang/Math -/
def k6 : Class := { plain "java/lang/Math" (some 0) with
  accessFlags := 49
  interfaces := #[]
  cf := some (fileOf pool6 1 #[.nestMembers #[98]] #[{ accessFlags := 2, nameIndex := 7, descriptorIndex := 8, attributes := #[] }, { accessFlags := 9, nameIndex := 201, descriptorIndex := 335, attributes := #[] }] 49 4 #[] #[{ accessFlags := 25, nameIndex := 354, descriptorIndex := 339, attributes := #[] }, { accessFlags := 25, nameIndex := 358, descriptorIndex := 339, attributes := #[] }, { accessFlags := 25, nameIndex := 361, descriptorIndex := 339, attributes := #[] }, { accessFlags := 26, nameIndex := 364, descriptorIndex := 339, attributes := #[] }, { accessFlags := 26, nameIndex := 365, descriptorIndex := 339, attributes := #[] }, { accessFlags := 26, nameIndex := 172, descriptorIndex := 173, attributes := #[] }, { accessFlags := 26, nameIndex := 176, descriptorIndex := 173, attributes := #[] }, { accessFlags := 8, nameIndex := 344, descriptorIndex := 339, attributes := #[] }, { accessFlags := 8, nameIndex := 338, descriptorIndex := 339, attributes := #[] }, { accessFlags := 4120, nameIndex := 245, descriptorIndex := 246, attributes := #[] }])
  fields := #[{ name := "E", type := .double, accessFlags := 25, slot := 0, constantValue := 0 }, { name := "PI", type := .double, accessFlags := 25, slot := 1, constantValue := 0 }, { name := "TAU", type := .double, accessFlags := 25, slot := 2, constantValue := 0 }, { name := "DEGREES_TO_RADIANS", type := .double, accessFlags := 26, slot := 3, constantValue := 0 }, { name := "RADIANS_TO_DEGREES", type := .double, accessFlags := 26, slot := 4, constantValue := 0 }, { name := "negativeZeroFloatBits", type := .long, accessFlags := 26, slot := 5, constantValue := 0 }, { name := "negativeZeroDoubleBits", type := .long, accessFlags := 26, slot := 6, constantValue := 0 }, { name := "twoToTheDoubleScaleUp", type := .double, accessFlags := 8, slot := 7, constantValue := 0 }, { name := "twoToTheDoubleScaleDown", type := .double, accessFlags := 8, slot := 8, constantValue := 0 }, { name := "$assertionsDisabled", type := .boolean, accessFlags := 4120, slot := 9, constantValue := 0 }]
  methods := #[k6m0, k6m1]
  instanceTypes := #[]
  staticTypes := #[.double, .double, .double, .double, .double, .long, .long, .double, .double, .boolean]
  resolved := Array.replicate 460 none
  statics := none }

def pool7 : Array CpInfo := pool [(2, .class_ 4), (1, u "java/lang/Object"), (0, u "<init>"), (0, u "()V"), (1, .class_ 10), (1, u "java/lang/System"), (0, u "allowSecurityManager"), (0, u "I"), (16, u "cons"), (0, u "Ljava/io/Console;"), (77, .class_ 110), (1, u "java/lang/System$CallersHolder"), (43, u "initialErrStream"), (0, u "Ljava/io/PrintStream;"), (19, u "security"), (0, u "Ljava/lang/SecurityManager;"), (31, .class_ 209), (0, u "java/lang/System$1"), (7, u "props"), (0, u "Ljava/util/Properties;"), (2, u "lineSeparator"), (0, u "Ljava/lang/String;"), (96, .class_ 321), (1, u "java/lang/System$LoggerFinder"), (5, .class_ 328), (0, u "java/lang/System$Logger"), (67, u "err"), (2, u "out"), (91, u "notSupportedJnuEncoding"), (15, u "in"), (17, u "initialIn"), (0, u "Ljava/io/InputStream;"), (35, u "bootLayer"), (0, u "Ljava/lang/ModuleLayer;"), (99, .class_ 664), (0, u "java/lang/System$2"), (9, u "NEVER"), (2, u "MAYBE"), (49, u "arraycopy"), (0, u "(Ljava/lang/Object;ILjava/lang/Object;II)V"), (72, .class_ 802), (0, u "java/lang/System$Logger$Level")] 31

def k7m0 : Method := { name := "<init>", desc := "()V", sig := { parameters := [], returnType := none }, accessFlags := 2, code := none }
def k7m1 : Method := { name := "arraycopy", desc := "(Ljava/lang/Object;ILjava/lang/Object;II)V", sig := { parameters := [(.object "java/lang/Object"), .int, (.object "java/lang/Object"), .int, .int], returnType := none }, accessFlags := 265, code := none }
/-- java/lang/System -/
def k7 : Class := { plain "java/lang/System" (some 0) with
  accessFlags := 49
  interfaces := #[]
  cf := some (fileOf pool7 8 #[.nestMembers #[319, 327, 801, 108, 663, 208]] #[{ accessFlags := 2, nameIndex := 5, descriptorIndex := 6, attributes := #[] }, { accessFlags := 265, nameIndex := 727, descriptorIndex := 728, attributes := #[] }] 49 2 #[] #[{ accessFlags := 25, nameIndex := 507, descriptorIndex := 526, attributes := #[] }, { accessFlags := 25, nameIndex := 399, descriptorIndex := 155, attributes := #[] }, { accessFlags := 25, nameIndex := 396, descriptorIndex := 155, attributes := #[] }, { accessFlags := 10, nameIndex := 525, descriptorIndex := 526, attributes := #[] }, { accessFlags := 26, nameIndex := 674, descriptorIndex := 12, attributes := #[] }, { accessFlags := 26, nameIndex := 677, descriptorIndex := 12, attributes := #[] }, { accessFlags := 10, nameIndex := 11, descriptorIndex := 12, attributes := #[] }, { accessFlags := 74, nameIndex := 175, descriptorIndex := 176, attributes := #[] }, { accessFlags := 10, nameIndex := 491, descriptorIndex := 222, attributes := #[] }, { accessFlags := 74, nameIndex := 29, descriptorIndex := 30, attributes := #[] }, { accessFlags := 74, nameIndex := 154, descriptorIndex := 155, attributes := #[] }, { accessFlags := 10, nameIndex := 217, descriptorIndex := 218, attributes := #[] }, { accessFlags := 10, nameIndex := 221, descriptorIndex := 222, attributes := #[] }, { accessFlags := 8, nameIndex := 562, descriptorIndex := 563, attributes := #[] }])
  fields := #[{ name := "in", type := (.object "java/io/InputStream"), accessFlags := 25, slot := 0, constantValue := 0 }, { name := "out", type := (.object "java/io/PrintStream"), accessFlags := 25, slot := 1, constantValue := 0 }, { name := "err", type := (.object "java/io/PrintStream"), accessFlags := 25, slot := 2, constantValue := 0 }, { name := "initialIn", type := (.object "java/io/InputStream"), accessFlags := 10, slot := 3, constantValue := 0 }, { name := "NEVER", type := .int, accessFlags := 26, slot := 4, constantValue := 0 }, { name := "MAYBE", type := .int, accessFlags := 26, slot := 5, constantValue := 0 }, { name := "allowSecurityManager", type := .int, accessFlags := 10, slot := 6, constantValue := 0 }, { name := "security", type := (.object "java/lang/SecurityManager"), accessFlags := 74, slot := 7, constantValue := 0 }, { name := "notSupportedJnuEncoding", type := (.object "java/lang/String"), accessFlags := 10, slot := 8, constantValue := 0 }, { name := "cons", type := (.object "java/io/Console"), accessFlags := 74, slot := 9, constantValue := 0 }, { name := "initialErrStream", type := (.object "java/io/PrintStream"), accessFlags := 74, slot := 10, constantValue := 0 }, { name := "props", type := (.object "java/util/Properties"), accessFlags := 10, slot := 11, constantValue := 0 }, { name := "lineSeparator", type := (.object "java/lang/String"), accessFlags := 10, slot := 12, constantValue := 0 }, { name := "bootLayer", type := (.object "java/lang/ModuleLayer"), accessFlags := 8, slot := 13, constantValue := 0 }]
  methods := #[k7m0, k7m1]
  instanceTypes := #[]
  staticTypes := #[(.object "java/io/InputStream"), (.object "java/io/PrintStream"), (.object "java/io/PrintStream"), (.object "java/io/InputStream"), .int, .int, .int, (.object "java/lang/SecurityManager"), (.object "java/lang/String"), (.object "java/io/Console"), (.object "java/io/PrintStream"), (.object "java/util/Properties"), (.object "java/lang/String"), (.object "java/lang/ModuleLayer")]
  resolved := Array.replicate 834 none
  statics := none }

def pool8 : Array CpInfo := pool [(1, u "java/lang/Cloneable"), (0, .class_ 1), (0, u "java/lang/Object"), (0, .class_ 3)] 3

/-- java/lang/Cloneable -/
def k8 : Class := { plain "java/lang/Cloneable" (some 0) with
  accessFlags := 1537
  interfaces := #[]
  cf := some (fileOf pool8 2 #[] #[] 1537 4 #[] #[])
  fields := #[]
  methods := #[]
  instanceTypes := #[]
  staticTypes := #[]
  resolved := Array.replicate 8 none
  statics := none }

def pool9 : Array CpInfo := pool [(1, u "java/io/Serializable"), (0, .class_ 1), (0, u "java/lang/Object"), (0, .class_ 3)] 3

/-- java/io/Serializable -/
def k9 : Class := { plain "java/io/Serializable" (some 0) with
  accessFlags := 1537
  interfaces := #[]
  cf := some (fileOf pool9 2 #[] #[] 1537 4 #[] #[])
  fields := #[]
  methods := #[]
  instanceTypes := #[]
  staticTypes := #[]
  resolved := Array.replicate 8 none
  statics := none }

/-- the primitive byte -/
def k10 : Class := { plain "byte" none with kind := .primitive 'B', accessFlags := 0x411 }
/-- [B -/
def k11 : Class := { plain "[B" (some 0) with kind := .array 10 .byte, interfaces := #[8, 9], accessFlags := 1041 }

/-- the primitive int -/
def k12 : Class := { plain "int" none with kind := .primitive 'I', accessFlags := 0x411 }
/-- [I -/
def k13 : Class := { plain "[I" (some 0) with kind := .array 12 .int, interfaces := #[8, 9], accessFlags := 1041 }

def heap : Heap := #[]
def classes : Array Class := #[k0, k1, k2, k3, k4, k5, k6, k7, k8, k9, k10, k11, k12, k13]
def interned : List (Array UInt16 × Addr) := []
def slotsUsed : Nat := 0
def theMethod : MethodId := ⟨1, 1⟩
def args0 : Array Value := #[.int 5, .int 3, .int 7, .int 1, .int 2, .int 4]
def aboutOver (below : List Frame) : State where
  vm := { classes := classes, interned := interned.toArray }
  heap := heap
  slotsUsed := slotsUsed
  threads := #[{ frames := .invoking theMethod args0 :: below }]
def below0 : List Frame := [.native { method := ⟨0, 0⟩, args := #[] }]
def about1 : State := aboutOver below0
def p0 : Program := .bare "" "" ""
def e0 : Env := launch0.env 0 0 0
theorem w_frames : about1.frames = Frame.invoking theMethod args0 :: below0 := rfl
set_option maxRecDepth 65536 in
theorem w_args : argsFit about1.vm theMethod args0 = true := by decide +kernel
set_option maxRecDepth 65536 in
theorem w_heap : heapFits about1 = true := by decide +kernel
set_option maxRecDepth 65536 in
theorem w_runnable : about1.curStatus? = some .runnable := by decide +kernel
set_option maxRecDepth 65536 in
theorem w_alone : about1.alone = true := by decide +kernel
set_option maxRecDepth 65536 in
theorem w_named : about1.methodNamed? x = some theMethod := by decide +kernel
set_option maxRecDepth 65536 in
theorem w_hears : about1.hears theMethod below0 = true := by decide +kernel
set_option maxRecDepth 65536 in
theorem w_ripe : about1.ripe theMethod args0 below0 = true := by decide +kernel
theorem w_running : about1.status = .running := rfl
set_option maxRecDepth 65536 in
theorem w_room : about1.hasRoom e0.platform room_1 = true :=
  launch0.hasRoom_least _ room_1 (by decide +kernel) (by decide +kernel) (by decide +kernel) (by decide +kernel) (by decide +kernel) (by decide +kernel)
theorem allAtoms_all (ts : List Jvm.Cond) (a : Array Jvm.Value) (st : Jvm.State) : (allAtoms ts).before a st = ts.all (fun c => c.before a st) := by
  induction ts with
  | nil => rfl
  | cons c t ih =>
    show (Jvm.Cond.and c (allAtoms t)).before a st = _
    rw [Jvm.Cond.before_and, ih, List.all_cons]
def words1 : List Jvm.Cond := Jvm.Cond.code x code maxLocals ret :: tables_1
/-- a 'code' word, met by the world's own term for the bytes: nothing is compared byte by byte -/
theorem code_word {y : MethodName} {bytes : ByteArray} {mx : Nat} {rt : Option FieldType} {a : Array Value} {s : State} {m : MethodId} {meth : Method} {c : Code} (h1 : s.methodNamed? y = some m) (h2 : s.vm.method? m = some meth) (h3 : meth.code = some c) (h4 : c.code = bytes)
    (h5 : (c.maxLocals == mx && c.exceptionTable.isEmpty && decide (c.maxStack ≤ mostOperands) && decide (meth.sig.returnType = rt) && !meth.locks && decide (parseMethodDescriptor y.desc = some meth.sig)) = true) : (Jvm.Cond.code y bytes mx rt).before a s = true := by
  simp only [Bool.and_eq_true, beq_iff_eq, Bool.not_eq_true', decide_eq_true_eq] at h5
  obtain ⟨⟨⟨⟨⟨g1, g2⟩, g3⟩, g4⟩, g5⟩, g6⟩ := h5
  simp [Cond.before, Cond.holds, Cond.value, h1, h2, h3, h4, g1, g2, g3, g4, g5, g6]
def isCode : Jvm.Cond → Bool
  | .code _ _ _ _ => true
  | _ => false
theorem all_split {L : List Jvm.Cond} {P : Jvm.Cond → Bool} (h1 : L.all (fun c => isCode c || P c) = true) (h2 : ∀ c ∈ L.filter isCode, P c = true) : L.all P = true := by
  refine List.all_eq_true.mpr fun c hc => ?_
  have h := List.all_eq_true.mp h1 c hc
  rcases Bool.eq_false_or_eq_true (isCode c) with hi | hi
  · exact h2 c (List.mem_filter.mpr ⟨hc, hi⟩)
  · simpa [hi] using h
set_option maxRecDepth 65536 in
theorem w_c0 : (Jvm.Cond.code x code maxLocals ret).before args0 about1 = true := code_word (m := ⟨1, 1⟩) (meth := k1m1) (c := k1c1) (by decide +kernel) rfl rfl rfl (by decide +kernel)
set_option maxRecDepth 65536 in
theorem w_c1 : (Jvm.Cond.code ({ cls := "com/example/libpundit/libpundit/core/IntList", name := "<init>", desc := "()V" } : Jvm.MethodName) prog_21_method_1_code (1 : Nat) (Option.none : Option Jvm.ClassFile.FieldType)).before args0 about1 = true := code_word (m := ⟨2, 0⟩) (meth := k2m0) (c := k2c0) (by decide +kernel) rfl rfl rfl (by decide +kernel)
set_option maxRecDepth 65536 in
theorem w_c2 : (Jvm.Cond.code ({ cls := "java/lang/Object", name := "<init>", desc := "()V" } : Jvm.MethodName) object_method_1_code (1 : Nat) (Option.none : Option Jvm.ClassFile.FieldType)).before args0 about1 = true := code_word (m := ⟨0, 0⟩) (meth := k0m0) (c := k0c0) (by decide +kernel) rfl rfl rfl (by decide +kernel)
set_option maxRecDepth 65536 in
theorem w_c3 : (Jvm.Cond.code ({ cls := "com/example/libpundit/libpundit/core/IntList", name := "add", desc := "(I)V" } : Jvm.MethodName) prog_21_method_2_code (2 : Nat) (Option.none : Option Jvm.ClassFile.FieldType)).before args0 about1 = true := code_word (m := ⟨2, 1⟩) (meth := k2m1) (c := k2c1) (by decide +kernel) rfl rfl rfl (by decide +kernel)
set_option maxRecDepth 65536 in
theorem w_c4 : (Jvm.Cond.code ({ cls := "com/example/libpundit/libpundit/core/IntList", name := "get", desc := "(I)I" } : Jvm.MethodName) prog_21_method_4_code (2 : Nat) (Option.some Jvm.ClassFile.FieldType.int)).before args0 about1 = true := code_word (m := ⟨2, 2⟩) (meth := k2m2) (c := k2c2) (by decide +kernel) rfl rfl rfl (by decide +kernel)
set_option maxRecDepth 65536 in
theorem w_c5 : (Jvm.Cond.code ({ cls := "java/util/Objects", name := "checkIndex", desc := "(II)I" } : Jvm.MethodName) jdk_31_method_17_code (2 : Nat) (Option.some Jvm.ClassFile.FieldType.int)).before args0 about1 = true := code_word (m := ⟨3, 1⟩) (meth := k3m1) (c := k3c1) (by decide +kernel) rfl rfl rfl (by decide +kernel)
set_option maxRecDepth 65536 in
theorem w_c6 : (Jvm.Cond.code ({ cls := "jdk/internal/util/Preconditions", name := "checkIndex", desc := "(IILjava/util/function/BiFunction;)I" } : Jvm.MethodName) jdk_41_method_11_code (3 : Nat) (Option.some Jvm.ClassFile.FieldType.int)).before args0 about1 = true := code_word (m := ⟨4, 1⟩) (meth := k4m1) (c := k4c1) (by decide +kernel) rfl rfl rfl (by decide +kernel)
set_option maxRecDepth 65536 in
theorem w_c7 : (Jvm.Cond.code ({ cls := "java/util/Arrays", name := "copyOf", desc := "([II)[I" } : Jvm.MethodName) jdk_65_method_123_code (3 : Nat) (Option.some (Jvm.ClassFile.FieldType.array Jvm.ClassFile.FieldType.int))).before args0 about1 = true := code_word (m := ⟨5, 1⟩) (meth := k5m1) (c := k5c1) (by decide +kernel) rfl rfl rfl (by decide +kernel)
set_option maxRecDepth 65536 in
theorem w_c8 : (Jvm.Cond.code ({ cls := "java/lang/Math", name := "min", desc := "(II)I" } : Jvm.MethodName) jdk_29_method_69_code (2 : Nat) (Option.some Jvm.ClassFile.FieldType.int)).before args0 about1 = true := code_word (m := ⟨6, 1⟩) (meth := k6m1) (c := k6c1) (by decide +kernel) rfl rfl rfl (by decide +kernel)
def codes1 : List Jvm.Cond := [Jvm.Cond.code x code maxLocals ret, Jvm.Cond.code ({ cls := "com/example/libpundit/libpundit/core/IntList", name := "<init>", desc := "()V" } : Jvm.MethodName) prog_21_method_1_code (1 : Nat) (Option.none : Option Jvm.ClassFile.FieldType), Jvm.Cond.code ({ cls := "java/lang/Object", name := "<init>", desc := "()V" } : Jvm.MethodName) object_method_1_code (1 : Nat) (Option.none : Option Jvm.ClassFile.FieldType), Jvm.Cond.code ({ cls := "com/example/libpundit/libpundit/core/IntList", name := "add", desc := "(I)V" } : Jvm.MethodName) prog_21_method_2_code (2 : Nat) (Option.none : Option Jvm.ClassFile.FieldType), Jvm.Cond.code ({ cls := "com/example/libpundit/libpundit/core/IntList", name := "get", desc := "(I)I" } : Jvm.MethodName) prog_21_method_4_code (2 : Nat) (Option.some Jvm.ClassFile.FieldType.int), Jvm.Cond.code ({ cls := "java/util/Objects", name := "checkIndex", desc := "(II)I" } : Jvm.MethodName) jdk_31_method_17_code (2 : Nat) (Option.some Jvm.ClassFile.FieldType.int), Jvm.Cond.code ({ cls := "jdk/internal/util/Preconditions", name := "checkIndex", desc := "(IILjava/util/function/BiFunction;)I" } : Jvm.MethodName) jdk_41_method_11_code (3 : Nat) (Option.some Jvm.ClassFile.FieldType.int), Jvm.Cond.code ({ cls := "java/util/Arrays", name := "copyOf", desc := "([II)[I" } : Jvm.MethodName) jdk_65_method_123_code (3 : Nat) (Option.some (Jvm.ClassFile.FieldType.array Jvm.ClassFile.FieldType.int)), Jvm.Cond.code ({ cls := "java/lang/Math", name := "min", desc := "(II)I" } : Jvm.MethodName) jdk_29_method_69_code (2 : Nat) (Option.some Jvm.ClassFile.FieldType.int)]
set_option maxRecDepth 65536 in
theorem codes_eq : words1.filter isCode = codes1 := rfl
theorem w_codes : ∀ c ∈ words1.filter isCode, c.before args0 about1 = true := by
  rw [codes_eq]
  intro c hc
  simp only [codes1, List.mem_cons, List.not_mem_nil, or_false] at hc
  rcases hc with rfl | rfl | rfl | rfl | rfl | rfl | rfl | rfl | rfl
  · exact w_c0
  · exact w_c1
  · exact w_c2
  · exact w_c3
  · exact w_c4
  · exact w_c5
  · exact w_c6
  · exact w_c7
  · exact w_c8
set_option maxRecDepth 65536 in
theorem w_t1 : (words1.take 24).all (fun c => isCode c || c.before args0 about1) = true := by decide +kernel
set_option maxRecDepth 65536 in
theorem w_t2 : (words1.drop 24).all (fun c => isCode c || c.before args0 about1) = true := by decide +kernel
theorem w_tables : (allAtoms (Jvm.Cond.code x code maxLocals ret :: tables_1)).before args0 about1 = true := by
  rw [allAtoms_all]
  show words1.all (fun c => c.before args0 about1) = true
  refine all_split ?_ w_codes
  rw [← List.take_append_drop 24 words1, List.all_append, w_t1, w_t2]
  rfl
set_option maxRecDepth 65536 in
theorem w_case : (Jvm.Cond.and given_1 narrow_1).before args0 about1 = true := by decide +kernel
theorem w_applies : (headSpec (Jvm.Cond.code x code maxLocals ret :: tables_1) room_1).applies x e0.platform about1 = true :=
  (Spec.applies_iff w_frames).mpr ⟨w_running, w_runnable, w_alone, w_named, w_hears, w_ripe, w_room, w_tables⟩
theorem atStart : AtStart classFile x code maxLocals ret World_1 tables_1 room_1 Calls_1 rest_1 Pre_1 launch0 p0 e0 about1 theMethod args0 below0 :=
  ⟨lists_1, trivial, launch0.admits_env _ _ _, launch0.least_env, fairChoices_fair.cas, fairChoices_fair.clock, w_frames, w_args, w_heap, w_applies, trivial, trivial, w_case⟩
end start1
theorem witness_1 : WitnessClaimed_1 := ⟨start1.p0, start1.e0, start1.about1, start1.theMethod, start1.args0, start1.below0, start1.atStart⟩
end Jvm.Pilot.@@N@@
