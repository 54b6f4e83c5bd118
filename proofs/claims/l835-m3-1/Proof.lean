import JvmDerived
import JvmDerived.Pilot.@@N@@Statement
import JvmDerived.Pilot.@@N@@Code
set_option linter.unusedVariables false
set_option linter.unusedSimpArgs false
namespace Jvm.Pilot.@@N@@
open Jvm Jvm.ClassFile Sem Op Lib Jvm.Free Jvm.Stand Jvm.LawKit Jvm.RoadKit Bundle Jvm.Pilot.@@N@@.Jvm.D
section OwnKit
variable {p : Program} {l : Launch} {e : Env} {R : Room} {s : State} {m : MethodId} {args : Array Value} {below : List Frame} {meth : Method} {c : Code} {T : State} {locs : List Loc} {cells slots : Nat}
/-- from U the walk comes to its end, and there Q holds -/
def own_Go (p : Program) (e : Env) (below : List Frame) (Q : Option Value → Heap → List Loc → Prop) (F : List Loc → Outcome → State → Prop) (U : State) : Prop :=
  ∃ t o, Steps p.tables e below U t ∧ t.status = .running ∧ Ended t below o ∧ ∃ v L, o = .returned v ∧ Q v t.heap L ∧ F L o t
def own_Fr (s : State) (C S : Nat) (L : List Loc) (o : Outcome) (t : State) : Prop := FrameEnd s o t L C S
def own_FrW (s : State) (C S : Nat) (L : List Loc) (o : Outcome) (t : State) : Prop := ReturnedEndW s o t L C S
variable {Q : Option Value → Heap → List Loc → Prop} {F : List Loc → Outcome → State → Prop} {C S : Nat}
theorem own_by {U U' : State} (k : ∀ t, Steps p.tables e below U' t → Steps p.tables e below U t) (h : own_Go p e below Q F U') : own_Go p e below Q F U := by
  obtain ⟨t, o, h1, h2⟩ := h
  exact ⟨t, o, k t h1, h2⟩
theorem own_via {U U' : State} (k : Steps p.tables e below U U') (h : own_Go p e below Q F U') : own_Go p e below Q F U := own_by (fun _ q => k.trans q) h
theorem own_ret (X : Stand p l e R s m args below meth c T locs cells slots) (hx : p.tables.exec = Jvm.exec) {pc : Nat} {Ls : Array Slot} {w : Value} {t : FieldType} {i : Instr} {rest : List Value} (hret : meth.sig.returnType = some t) (hlocks : meth.locks = false)
    (hi : (i = .ireturn ∧ (t = .int ∨ t = .boolean ∨ t = .byte ∨ t = .char ∨ t = .short) ∧ ∃ z, w = .int z) ∨ (i = .lreturn ∧ t = .long ∧ ∃ z, w = .long z) ∨ (i = .dreturn ∧ t = .double ∧ ∃ z, w = .double z) ∨ (i = .freturn ∧ t = .float ∧ ∃ z, w = .float z) ∨ (i = .areturn ∧ t.isReference = true ∧ w.isRef = true))
    (hd : decode c.code pc = .ok (i, 1)) (hn : narrow t w = w) (hc : cells ≤ C) (hs : slots ≤ S) (hQ : Q (some w) T.heap locs) : own_Go p e below Q (own_Fr s C S) (T.setTop (mkF m pc Ls (w :: rest))) := by
  obtain ⟨fs, hr, hrun, hended, hW, hsame⟩ := X.leave (v := some w) (fun h => by rw [hret] at h; cases h) hlocks
  exact ⟨_, _, retOut X hx hret hn hi hd hr, hrun, hended, _, _, rfl, hQ, ⟨_, rfl⟩, hW, hsame.mono hc hs⟩
theorem own_ret0 (X : Stand p l e R s m args below meth c T locs cells slots) (hx : p.tables.exec = Jvm.exec) {pc : Nat} {Ls : Array Slot} {st : List Value} (hret : meth.sig.returnType = none) (hlocks : meth.locks = false)
    (hd : decode c.code pc = .ok (.return_, 1)) (hst : st = []) (hc : cells ≤ C) (hs : slots ≤ S) (hQ : Q none T.heap locs) : own_Go p e below Q (own_Fr s C S) (T.setTop (mkF m pc Ls st)) := by
  subst hst
  obtain ⟨fs, hr, hrun, hended, hW, hsame⟩ := X.leave (v := none) (fun _ => rfl) hlocks
  exact ⟨_, _, X.returnOut hx hret hd hr, hrun, hended, _, _, rfl, hQ, ⟨_, rfl⟩, hW, hsame.mono hc hs⟩
theorem own_retW {s : State} {vm₁ : Vm} {nn : Nat} (X : Stand p l e R (s.setVm vm₁) m args below meth c T locs cells slots) (hx : p.tables.exec = Jvm.exec) {pc : Nat} {Ls : Array Slot} {w : Value} {t : FieldType} {i : Instr} {rest : List Value} (hret : meth.sig.returnType = some t) (hlocks : meth.locks = false) (hS : s.Since vm₁ nn) (hk : nn ≤ T.heap.size)
    (hi : (i = .ireturn ∧ (t = .int ∨ t = .boolean ∨ t = .byte ∨ t = .char ∨ t = .short) ∧ ∃ z, w = .int z) ∨ (i = .lreturn ∧ t = .long ∧ ∃ z, w = .long z) ∨ (i = .dreturn ∧ t = .double ∧ ∃ z, w = .double z) ∨ (i = .freturn ∧ t = .float ∧ ∃ z, w = .float z) ∨ (i = .areturn ∧ t.isReference = true ∧ w.isRef = true))
    (hd : decode c.code pc = .ok (i, 1)) (hn : narrow t w = w) (hc : cells ≤ C) (hs : slots ≤ S) (hQ : Q (some w) T.heap locs) : own_Go p e below Q (own_FrW s C S) (T.setTop (mkF m pc Ls (w :: rest))) := by
  obtain ⟨fs, hr, hrun, hended, hW⟩ := X.leaveW hS hk (v := some w) (fun h => by rw [hret] at h; cases h) hlocks
  exact ⟨_, _, retOut X hx hret hn hi hd hr, hrun, hended, _, _, rfl, hQ, hW.1, hW.2.1, hW.2.2.1, hW.2.2.2.mono hc hs⟩
theorem own_nz {z : Int32} (h : z.toInt = 0 ∨ z.toInt = 1) : narrow .boolean (.int z) = .int z := by
  rcases h with h | h
  · obtain rfl : z = 0 := Int32.toInt_inj.mp h
    rfl
  · obtain rfl : z = 1 := Int32.toInt_inj.mp h
    rfl
theorem own_nb {z : Int32} (h : -128 ≤ z.toInt ∧ z.toInt < 128) : nar .byte z = z := by
  have q := c_i2b z
  exact Int32.toInt_inj.mp (by show z.toInt8.toInt32.toInt = z.toInt; omega)
theorem own_fb {z : Int32} (h : -128 ≤ z.toInt ∧ z.toInt < 128) : fits .byte (.int z) = true := by
  have q := fits_nar_byte z
  rw [show z.toInt8.toInt32 = z from own_nb h] at q
  exact q
theorem own_b01 {z : Int32} (h : z.toInt = 0 ∨ z.toInt = 1) : z = 0 ∨ z = 1 := h.imp (fun q => Int32.toInt_inj.mp q) (fun q => Int32.toInt_inj.mp q)
theorem own_nbool {z : Int32} (h : z.toInt = 0 ∨ z.toInt = 1) : nar .boolean z = z := by rcases own_b01 h with rfl | rfl <;> decide
theorem own_fbool {z : Int32} (h : z.toInt = 0 ∨ z.toInt = 1) : fits .boolean (.int z) = true := by rcases own_b01 h with rfl | rfl <;> decide
theorem own_lt {x y : Int32} : x.toInt < y.toInt ↔ x < y := Int32.lt_iff_toInt_lt.symm
theorem own_yes_lt {x y : Int32} {a b : Int} (ha : x.toInt = a) (hb : y.toInt = b) (h : a < b) : if_icmp.holds .lt x y = true := by subst ha hb; exact (tlt (own_lt.mp h)).1
theorem own_no_lt {x y : Int32} {a b : Int} (ha : x.toInt = a) (hb : y.toInt = b) (h : ¬ a < b) : if_icmp.holds .lt x y = false := by subst ha hb; exact (flt (fun q => h (own_lt.mpr q))).1
theorem own_yes_ge {x y : Int32} {a b : Int} (ha : x.toInt = a) (hb : y.toInt = b) (h : ¬ a < b) : if_icmp.holds .ge x y = true := by subst ha hb; exact (flt (fun q => h (own_lt.mpr q))).2.1
theorem own_no_ge {x y : Int32} {a b : Int} (ha : x.toInt = a) (hb : y.toInt = b) (h : a < b) : if_icmp.holds .ge x y = false := by subst ha hb; exact (tlt (own_lt.mp h)).2.1
theorem own_yes_gt {x y : Int32} {a b : Int} (ha : x.toInt = a) (hb : y.toInt = b) (h : b < a) : if_icmp.holds .gt x y = true := by subst ha hb; exact (tlt (own_lt.mp h)).2.2.1
theorem own_no_gt {x y : Int32} {a b : Int} (ha : x.toInt = a) (hb : y.toInt = b) (h : ¬ b < a) : if_icmp.holds .gt x y = false := by subst ha hb; exact (flt (fun q => h (own_lt.mpr q))).2.2.1
theorem own_yes_le {x y : Int32} {a b : Int} (ha : x.toInt = a) (hb : y.toInt = b) (h : ¬ b < a) : if_icmp.holds .le x y = true := by subst ha hb; exact (flt (fun q => h (own_lt.mpr q))).2.2.2
theorem own_no_le {x y : Int32} {a b : Int} (ha : x.toInt = a) (hb : y.toInt = b) (h : b < a) : if_icmp.holds .le x y = false := by subst ha hb; exact (tlt (own_lt.mp h)).2.2.2
theorem own_yes_eq {x y : Int32} {a b : Int} (ha : x.toInt = a) (hb : y.toInt = b) (h : a = b) : if_icmp.holds .eq x y = true := by subst ha hb; exact (teq (Int32.toInt_inj.mp h)).1
theorem own_no_eq {x y : Int32} {a b : Int} (ha : x.toInt = a) (hb : y.toInt = b) (h : ¬ a = b) : if_icmp.holds .eq x y = false := by subst ha hb; exact (feq (fun q => h (congrArg Int32.toInt q))).1
theorem own_yes_ne {x y : Int32} {a b : Int} (ha : x.toInt = a) (hb : y.toInt = b) (h : ¬ a = b) : if_icmp.holds .ne x y = true := by subst ha hb; exact (feq (fun q => h (congrArg Int32.toInt q))).2
theorem own_no_ne {x y : Int32} {a b : Int} (ha : x.toInt = a) (hb : y.toInt = b) (h : a = b) : if_icmp.holds .ne x y = false := by subst ha hb; exact (teq (Int32.toInt_inj.mp h)).2
theorem own_z {cd : ClassFile.Cond} {x : Int32} {b : Bool} (h : if_icmp.holds cd x 0 = b) : ifCond.holds cd x = b := (if0 cd x).trans h
theorem own_lcm {x y : Int64} {a b : Int} (ha : x.toInt = a) (hb : y.toInt = b) : (a < b ∧ (lcmpW x y).toInt = -1) ∨ (a = b ∧ (lcmpW x y).toInt = 0) ∨ (b < a ∧ (lcmpW x y).toInt = 1) := by
  subst ha hb
  obtain ⟨h1, h2, h3⟩ := c_lcmp x y
  omega
theorem own_ne0 {x : Int32} {a : Int} (ha : x.toInt = a) (h : ¬ a = 0) : x ≠ 0 := fun q => h (by rw [← ha, q]; rfl)
theorem own_iloadN (X : Stand p l e R s m args below meth c T locs cells slots) (hx : p.tables.exec = Jvm.exec) {pc pc' : Nat} {Ls : Array Slot} {st : List Value} {k : Fin 4} {v : Int32} (hl : Ls[k.val]? = some (.val (.int v))) (hd : decode c.code pc = .ok (.iload_n k, 1)) (hp : pc + 1 = pc') (h : own_Go p e below Q F (T.setTop (mkF m pc' Ls (.int v :: st)))) : own_Go p e below Q F (T.setTop (mkF m pc Ls st)) := by
  subst hp
  exact own_by (fun _ q => XS.iloadN X.here hx rfl hd hl q) h
theorem own_iload (X : Stand p l e R s m args below meth c T locs cells slots) (hx : p.tables.exec = Jvm.exec) {pc pc' : Nat} {Ls : Array Slot} {st : List Value} {k : Nat} {v : Int32} (hl : Ls[k]? = some (.val (.int v))) (hd : decode c.code pc = .ok (.iload k, 2)) (hp : pc + 2 = pc') (h : own_Go p e below Q F (T.setTop (mkF m pc' Ls (.int v :: st)))) : own_Go p e below Q F (T.setTop (mkF m pc Ls st)) := by
  subst hp
  exact own_by (fun _ q => XS.iload X.here hx rfl hd hl q) h
theorem own_lloadN (X : Stand p l e R s m args below meth c T locs cells slots) (hx : p.tables.exec = Jvm.exec) {pc pc' : Nat} {Ls : Array Slot} {st : List Value} {k : Fin 4} {v : Int64} (hl : Ls[k.val]? = some (.val (.long v))) (hd : decode c.code pc = .ok (.lload_n k, 1)) (hp : pc + 1 = pc') (h : own_Go p e below Q F (T.setTop (mkF m pc' Ls (.long v :: st)))) : own_Go p e below Q F (T.setTop (mkF m pc Ls st)) := by
  subst hp
  exact own_by (fun _ q => XS.lloadN X.here hx rfl hd hl q) h
theorem own_lload (X : Stand p l e R s m args below meth c T locs cells slots) (hx : p.tables.exec = Jvm.exec) {pc pc' : Nat} {Ls : Array Slot} {st : List Value} {k : Nat} {v : Int64} (hl : Ls[k]? = some (.val (.long v))) (hd : decode c.code pc = .ok (.lload k, 2)) (hp : pc + 2 = pc') (h : own_Go p e below Q F (T.setTop (mkF m pc' Ls (.long v :: st)))) : own_Go p e below Q F (T.setTop (mkF m pc Ls st)) := by
  subst hp
  exact own_by (fun _ q => XS.lload X.here hx rfl hd hl q) h
theorem own_aloadN (X : Stand p l e R s m args below meth c T locs cells slots) (hx : p.tables.exec = Jvm.exec) {pc pc' : Nat} {Ls : Array Slot} {st : List Value} {k : Fin 4} {v : Value} (hl : Ls[k.val]? = some (.val v)) (hv : v.isRef = true) (hd : decode c.code pc = .ok (.aload_n k, 1)) (hp : pc + 1 = pc') (h : own_Go p e below Q F (T.setTop (mkF m pc' Ls (v :: st)))) : own_Go p e below Q F (T.setTop (mkF m pc Ls st)) := by
  subst hp
  exact own_by (fun _ q => XS.aloadN X.here hx rfl hd hl hv q) h
theorem own_aload (X : Stand p l e R s m args below meth c T locs cells slots) (hx : p.tables.exec = Jvm.exec) {pc pc' : Nat} {Ls : Array Slot} {st : List Value} {k : Nat} {v : Value} (hl : Ls[k]? = some (.val v)) (hv : v.isRef = true) (hd : decode c.code pc = .ok (.aload k, 2)) (hp : pc + 2 = pc') (h : own_Go p e below Q F (T.setTop (mkF m pc' Ls (v :: st)))) : own_Go p e below Q F (T.setTop (mkF m pc Ls st)) := by
  subst hp
  exact own_by (fun _ q => XS.aload X.here hx rfl hd hl hv q) h
theorem own_iconst (X : Stand p l e R s m args below meth c T locs cells slots) (hx : p.tables.exec = Jvm.exec) {pc pc' : Nat} {Ls : Array Slot} {st : List Value} {i : Int} (z : Int32) (hz : Int32.ofInt i = z) (hd : decode c.code pc = .ok (.iconst i, 1)) (hp : pc + 1 = pc') (h : own_Go p e below Q F (T.setTop (mkF m pc' Ls (.int z :: st)))) : own_Go p e below Q F (T.setTop (mkF m pc Ls st)) := by
  subst hp hz
  exact own_by (fun _ q => XS.iconst X.here hx rfl hd q) h
theorem own_bipush (X : Stand p l e R s m args below meth c T locs cells slots) (hx : p.tables.exec = Jvm.exec) {pc pc' : Nat} {Ls : Array Slot} {st : List Value} {i : Int} (z : Int32) (hz : (Int8.ofInt i).toInt32 = z) (hd : decode c.code pc = .ok (.bipush i, 2)) (hp : pc + 2 = pc') (h : own_Go p e below Q F (T.setTop (mkF m pc' Ls (.int z :: st)))) : own_Go p e below Q F (T.setTop (mkF m pc Ls st)) := by
  subst hp hz
  exact own_by (fun _ q => XS.bipush X.here hx rfl hd q) h
theorem own_sipush (X : Stand p l e R s m args below meth c T locs cells slots) (hx : p.tables.exec = Jvm.exec) {pc pc' : Nat} {Ls : Array Slot} {st : List Value} {i : Int} (z : Int32) (hz : (Int16.ofInt i).toInt32 = z) (hd : decode c.code pc = .ok (.sipush i, 3)) (hp : pc + 3 = pc') (h : own_Go p e below Q F (T.setTop (mkF m pc' Ls (.int z :: st)))) : own_Go p e below Q F (T.setTop (mkF m pc Ls st)) := by
  subst hp hz
  exact own_by (fun _ q => XS.sipush X.here hx rfl hd q) h
theorem own_lconst (X : Stand p l e R s m args below meth c T locs cells slots) (hx : p.tables.exec = Jvm.exec) {pc pc' : Nat} {Ls : Array Slot} {st : List Value} {k : Fin 2} (z : Int64) (hz : Int64.ofNat k = z) (hd : decode c.code pc = .ok (.lconst k, 1)) (hp : pc + 1 = pc') (h : own_Go p e below Q F (T.setTop (mkF m pc' Ls (.long z :: st)))) : own_Go p e below Q F (T.setTop (mkF m pc Ls st)) := by
  subst hp hz
  exact own_by (fun _ q => XS.lconst X.here hx rfl hd q) h
theorem own_aconstNull (X : Stand p l e R s m args below meth c T locs cells slots) (hx : p.tables.exec = Jvm.exec) {pc pc' : Nat} {Ls : Array Slot} {st : List Value}  (hd : decode c.code pc = .ok (.aconst_null, 1)) (hp : pc + 1 = pc') (h : own_Go p e below Q F (T.setTop (mkF m pc' Ls (.null :: st)))) : own_Go p e below Q F (T.setTop (mkF m pc Ls st)) := by
  subst hp
  exact own_by (fun _ q => XS.aconstNull X.here hx rfl hd q) h
theorem own_iadd (X : Stand p l e R s m args below meth c T locs cells slots) (hx : p.tables.exec = Jvm.exec) {pc pc' : Nat} {Ls : Array Slot} {st : List Value} {x y z : Int32} (hz : x + y = z) (hd : decode c.code pc = .ok (.iadd, 1)) (hp : pc + 1 = pc') (h : own_Go p e below Q F (T.setTop (mkF m pc' Ls (.int z :: st)))) : own_Go p e below Q F (T.setTop (mkF m pc Ls (.int y :: .int x :: st))) := by
  subst hp hz
  exact own_by (fun _ q => XS.iadd X.here hx rfl hd rfl q) h
theorem own_isub (X : Stand p l e R s m args below meth c T locs cells slots) (hx : p.tables.exec = Jvm.exec) {pc pc' : Nat} {Ls : Array Slot} {st : List Value} {x y z : Int32} (hz : x - y = z) (hd : decode c.code pc = .ok (.isub, 1)) (hp : pc + 1 = pc') (h : own_Go p e below Q F (T.setTop (mkF m pc' Ls (.int z :: st)))) : own_Go p e below Q F (T.setTop (mkF m pc Ls (.int y :: .int x :: st))) := by
  subst hp hz
  exact own_by (fun _ q => XS.isub X.here hx rfl hd rfl q) h
theorem own_imul (X : Stand p l e R s m args below meth c T locs cells slots) (hx : p.tables.exec = Jvm.exec) {pc pc' : Nat} {Ls : Array Slot} {st : List Value} {x y z : Int32} (hz : x * y = z) (hd : decode c.code pc = .ok (.imul, 1)) (hp : pc + 1 = pc') (h : own_Go p e below Q F (T.setTop (mkF m pc' Ls (.int z :: st)))) : own_Go p e below Q F (T.setTop (mkF m pc Ls (.int y :: .int x :: st))) := by
  subst hp hz
  exact own_by (fun _ q => XS.imul X.here hx rfl hd rfl q) h
theorem own_iand (X : Stand p l e R s m args below meth c T locs cells slots) (hx : p.tables.exec = Jvm.exec) {pc pc' : Nat} {Ls : Array Slot} {st : List Value} {x y z : Int32} (hz : x &&& y = z) (hd : decode c.code pc = .ok (.iand, 1)) (hp : pc + 1 = pc') (h : own_Go p e below Q F (T.setTop (mkF m pc' Ls (.int z :: st)))) : own_Go p e below Q F (T.setTop (mkF m pc Ls (.int y :: .int x :: st))) := by
  subst hp hz
  exact own_by (fun _ q => XS.iand X.here hx rfl hd rfl q) h
theorem own_ior (X : Stand p l e R s m args below meth c T locs cells slots) (hx : p.tables.exec = Jvm.exec) {pc pc' : Nat} {Ls : Array Slot} {st : List Value} {x y z : Int32} (hz : x ||| y = z) (hd : decode c.code pc = .ok (.ior, 1)) (hp : pc + 1 = pc') (h : own_Go p e below Q F (T.setTop (mkF m pc' Ls (.int z :: st)))) : own_Go p e below Q F (T.setTop (mkF m pc Ls (.int y :: .int x :: st))) := by
  subst hp hz
  exact own_by (fun _ q => XS.ior X.here hx rfl hd rfl q) h
theorem own_ixor (X : Stand p l e R s m args below meth c T locs cells slots) (hx : p.tables.exec = Jvm.exec) {pc pc' : Nat} {Ls : Array Slot} {st : List Value} {x y z : Int32} (hz : x ^^^ y = z) (hd : decode c.code pc = .ok (.ixor, 1)) (hp : pc + 1 = pc') (h : own_Go p e below Q F (T.setTop (mkF m pc' Ls (.int z :: st)))) : own_Go p e below Q F (T.setTop (mkF m pc Ls (.int y :: .int x :: st))) := by
  subst hp hz
  exact own_by (fun _ q => XS.ixor X.here hx rfl hd rfl q) h
theorem own_ishl (X : Stand p l e R s m args below meth c T locs cells slots) (hx : p.tables.exec = Jvm.exec) {pc pc' : Nat} {Ls : Array Slot} {st : List Value} {x y z : Int32} (hz : x <<< (y &&& 31) = z) (hd : decode c.code pc = .ok (.ishl, 1)) (hp : pc + 1 = pc') (h : own_Go p e below Q F (T.setTop (mkF m pc' Ls (.int z :: st)))) : own_Go p e below Q F (T.setTop (mkF m pc Ls (.int y :: .int x :: st))) := by
  subst hp hz
  exact own_by (fun _ q => XS.ishl X.here hx rfl hd rfl q) h
theorem own_ishr (X : Stand p l e R s m args below meth c T locs cells slots) (hx : p.tables.exec = Jvm.exec) {pc pc' : Nat} {Ls : Array Slot} {st : List Value} {x y z : Int32} (hz : x >>> (y &&& 31) = z) (hd : decode c.code pc = .ok (.ishr, 1)) (hp : pc + 1 = pc') (h : own_Go p e below Q F (T.setTop (mkF m pc' Ls (.int z :: st)))) : own_Go p e below Q F (T.setTop (mkF m pc Ls (.int y :: .int x :: st))) := by
  subst hp hz
  exact own_by (fun _ q => XS.ishr X.here hx rfl hd rfl q) h
theorem own_iushr (X : Stand p l e R s m args below meth c T locs cells slots) (hx : p.tables.exec = Jvm.exec) {pc pc' : Nat} {Ls : Array Slot} {st : List Value} {x y z : Int32} (hz : (x.toUInt32 >>> (y &&& 31).toUInt32).toInt32 = z) (hd : decode c.code pc = .ok (.iushr, 1)) (hp : pc + 1 = pc') (h : own_Go p e below Q F (T.setTop (mkF m pc' Ls (.int z :: st)))) : own_Go p e below Q F (T.setTop (mkF m pc Ls (.int y :: .int x :: st))) := by
  subst hp hz
  exact own_by (fun _ q => XS.iushr X.here hx rfl hd rfl q) h
theorem own_idiv (X : Stand p l e R s m args below meth c T locs cells slots) (hx : p.tables.exec = Jvm.exec) {pc pc' : Nat} {Ls : Array Slot} {st : List Value} {x y z : Int32} (hy : y ≠ 0) (hz : x / y = z) (hd : decode c.code pc = .ok (.idiv, 1)) (hp : pc + 1 = pc') (h : own_Go p e below Q F (T.setTop (mkF m pc' Ls (.int z :: st)))) : own_Go p e below Q F (T.setTop (mkF m pc Ls (.int y :: .int x :: st))) := by
  subst hp hz
  exact own_by (fun _ q => XS.idiv X.here hx rfl hd rfl hy q) h
theorem own_irem (X : Stand p l e R s m args below meth c T locs cells slots) (hx : p.tables.exec = Jvm.exec) {pc pc' : Nat} {Ls : Array Slot} {st : List Value} {x y z : Int32} (hy : y ≠ 0) (hz : x % y = z) (hd : decode c.code pc = .ok (.irem, 1)) (hp : pc + 1 = pc') (h : own_Go p e below Q F (T.setTop (mkF m pc' Ls (.int z :: st)))) : own_Go p e below Q F (T.setTop (mkF m pc Ls (.int y :: .int x :: st))) := by
  subst hp hz
  exact own_by (fun _ q => iremM X hx rfl hd rfl hy q) h
theorem own_ladd (X : Stand p l e R s m args below meth c T locs cells slots) (hx : p.tables.exec = Jvm.exec) {pc pc' : Nat} {Ls : Array Slot} {st : List Value} {x y z : Int64} (hz : x + y = z) (hd : decode c.code pc = .ok (.ladd, 1)) (hp : pc + 1 = pc') (h : own_Go p e below Q F (T.setTop (mkF m pc' Ls (.long z :: st)))) : own_Go p e below Q F (T.setTop (mkF m pc Ls (.long y :: .long x :: st))) := by
  subst hp hz
  exact own_by (fun _ q => XS.ladd X.here hx rfl hd rfl q) h
theorem own_lsub (X : Stand p l e R s m args below meth c T locs cells slots) (hx : p.tables.exec = Jvm.exec) {pc pc' : Nat} {Ls : Array Slot} {st : List Value} {x y z : Int64} (hz : x - y = z) (hd : decode c.code pc = .ok (.lsub, 1)) (hp : pc + 1 = pc') (h : own_Go p e below Q F (T.setTop (mkF m pc' Ls (.long z :: st)))) : own_Go p e below Q F (T.setTop (mkF m pc Ls (.long y :: .long x :: st))) := by
  subst hp hz
  exact own_by (fun _ q => XS.lsub X.here hx rfl hd rfl q) h
theorem own_lmul (X : Stand p l e R s m args below meth c T locs cells slots) (hx : p.tables.exec = Jvm.exec) {pc pc' : Nat} {Ls : Array Slot} {st : List Value} {x y z : Int64} (hz : x * y = z) (hd : decode c.code pc = .ok (.lmul, 1)) (hp : pc + 1 = pc') (h : own_Go p e below Q F (T.setTop (mkF m pc' Ls (.long z :: st)))) : own_Go p e below Q F (T.setTop (mkF m pc Ls (.long y :: .long x :: st))) := by
  subst hp hz
  exact own_by (fun _ q => XS.lmul X.here hx rfl hd rfl q) h
theorem own_land (X : Stand p l e R s m args below meth c T locs cells slots) (hx : p.tables.exec = Jvm.exec) {pc pc' : Nat} {Ls : Array Slot} {st : List Value} {x y z : Int64} (hz : x &&& y = z) (hd : decode c.code pc = .ok (.land, 1)) (hp : pc + 1 = pc') (h : own_Go p e below Q F (T.setTop (mkF m pc' Ls (.long z :: st)))) : own_Go p e below Q F (T.setTop (mkF m pc Ls (.long y :: .long x :: st))) := by
  subst hp hz
  exact own_by (fun _ q => XS.land X.here hx rfl hd rfl q) h
theorem own_lor (X : Stand p l e R s m args below meth c T locs cells slots) (hx : p.tables.exec = Jvm.exec) {pc pc' : Nat} {Ls : Array Slot} {st : List Value} {x y z : Int64} (hz : x ||| y = z) (hd : decode c.code pc = .ok (.lor, 1)) (hp : pc + 1 = pc') (h : own_Go p e below Q F (T.setTop (mkF m pc' Ls (.long z :: st)))) : own_Go p e below Q F (T.setTop (mkF m pc Ls (.long y :: .long x :: st))) := by
  subst hp hz
  exact own_by (fun _ q => XS.lor X.here hx rfl hd rfl q) h
theorem own_lcmp (X : Stand p l e R s m args below meth c T locs cells slots) (hx : p.tables.exec = Jvm.exec) {pc pc' : Nat} {Ls : Array Slot} {st : List Value} {x y : Int64} {z : Int32} (hz : lcmpW x y = z) (hd : decode c.code pc = .ok (.lcmp, 1)) (hp : pc + 1 = pc') (h : own_Go p e below Q F (T.setTop (mkF m pc' Ls (.int z :: st)))) : own_Go p e below Q F (T.setTop (mkF m pc Ls (.long y :: .long x :: st))) := by
  subst hp hz
  exact own_by (fun _ q => XS.lcmp X.here hx rfl hd rfl q) h
theorem own_ineg (X : Stand p l e R s m args below meth c T locs cells slots) (hx : p.tables.exec = Jvm.exec) {pc pc' : Nat} {Ls : Array Slot} {st : List Value} {x z : Int32} (hz : -x = z) (hd : decode c.code pc = .ok (.ineg, 1)) (hp : pc + 1 = pc') (h : own_Go p e below Q F (T.setTop (mkF m pc' Ls (.int z :: st)))) : own_Go p e below Q F (T.setTop (mkF m pc Ls (.int x :: st))) := by
  subst hp hz
  exact own_by (fun _ q => XS.ineg X.here hx rfl hd rfl q) h
theorem own_i2l (X : Stand p l e R s m args below meth c T locs cells slots) (hx : p.tables.exec = Jvm.exec) {pc pc' : Nat} {Ls : Array Slot} {st : List Value} {x : Int32} {z : Int64} (hz : x.toInt64 = z) (hd : decode c.code pc = .ok (.i2l, 1)) (hp : pc + 1 = pc') (h : own_Go p e below Q F (T.setTop (mkF m pc' Ls (.long z :: st)))) : own_Go p e below Q F (T.setTop (mkF m pc Ls (.int x :: st))) := by
  subst hp hz
  exact own_by (fun _ q => XS.i2l X.here hx rfl hd rfl q) h
theorem own_l2i (X : Stand p l e R s m args below meth c T locs cells slots) (hx : p.tables.exec = Jvm.exec) {pc pc' : Nat} {Ls : Array Slot} {st : List Value} {x : Int64} {z : Int32} (hz : x.toInt32 = z) (hd : decode c.code pc = .ok (.l2i, 1)) (hp : pc + 1 = pc') (h : own_Go p e below Q F (T.setTop (mkF m pc' Ls (.int z :: st)))) : own_Go p e below Q F (T.setTop (mkF m pc Ls (.long x :: st))) := by
  subst hp hz
  exact own_by (fun _ q => XS.l2i X.here hx rfl hd rfl q) h
theorem own_i2b (X : Stand p l e R s m args below meth c T locs cells slots) (hx : p.tables.exec = Jvm.exec) {pc pc' : Nat} {Ls : Array Slot} {st : List Value} {x z : Int32} (hz : x.toInt8.toInt32 = z) (hd : decode c.code pc = .ok (.i2b, 1)) (hp : pc + 1 = pc') (h : own_Go p e below Q F (T.setTop (mkF m pc' Ls (.int z :: st)))) : own_Go p e below Q F (T.setTop (mkF m pc Ls (.int x :: st))) := by
  subst hp hz
  exact own_by (fun _ q => XS.i2b X.here hx rfl hd rfl q) h
theorem own_i2c (X : Stand p l e R s m args below meth c T locs cells slots) (hx : p.tables.exec = Jvm.exec) {pc pc' : Nat} {Ls : Array Slot} {st : List Value} {x z : Int32} (hz : x.toUInt32.toUInt16.toUInt32.toInt32 = z) (hd : decode c.code pc = .ok (.i2c, 1)) (hp : pc + 1 = pc') (h : own_Go p e below Q F (T.setTop (mkF m pc' Ls (.int z :: st)))) : own_Go p e below Q F (T.setTop (mkF m pc Ls (.int x :: st))) := by
  subst hp hz
  exact own_by (fun _ q => XS.i2c X.here hx rfl hd rfl q) h
theorem own_i2s (X : Stand p l e R s m args below meth c T locs cells slots) (hx : p.tables.exec = Jvm.exec) {pc pc' : Nat} {Ls : Array Slot} {st : List Value} {x z : Int32} (hz : x.toInt16.toInt32 = z) (hd : decode c.code pc = .ok (.i2s, 1)) (hp : pc + 1 = pc') (h : own_Go p e below Q F (T.setTop (mkF m pc' Ls (.int z :: st)))) : own_Go p e below Q F (T.setTop (mkF m pc Ls (.int x :: st))) := by
  subst hp hz
  exact own_by (fun _ q => XS.i2s X.here hx rfl hd rfl q) h
theorem own_dup (X : Stand p l e R s m args below meth c T locs cells slots) (hx : p.tables.exec = Jvm.exec) {pc pc' : Nat} {Ls : Array Slot} {st : List Value} {x : Value} (hc : x.category = 1) (hd : decode c.code pc = .ok (.dup, 1)) (hp : pc + 1 = pc') (h : own_Go p e below Q F (T.setTop (mkF m pc' Ls (x :: x :: st)))) : own_Go p e below Q F (T.setTop (mkF m pc Ls (x :: st))) := by
  subst hp
  exact own_by (fun _ q => XS.dup X.here hx rfl hd rfl hc q) h
theorem own_dupX1 (X : Stand p l e R s m args below meth c T locs cells slots) (hx : p.tables.exec = Jvm.exec) {pc pc' : Nat} {Ls : Array Slot} {st : List Value} {x y : Value} (hc : x.category = 1) (hc2 : y.category = 1) (hd : decode c.code pc = .ok (.dup_x1, 1)) (hp : pc + 1 = pc') (h : own_Go p e below Q F (T.setTop (mkF m pc' Ls (x :: y :: x :: st)))) : own_Go p e below Q F (T.setTop (mkF m pc Ls (x :: y :: st))) := by
  subst hp
  exact own_by (fun _ q => XS.dupX1 X.here hx rfl hd rfl hc hc2 q) h
theorem own_pop (X : Stand p l e R s m args below meth c T locs cells slots) (hx : p.tables.exec = Jvm.exec) {pc pc' : Nat} {Ls : Array Slot} {st : List Value} {x : Value} (hc : x.category = 1) (hd : decode c.code pc = .ok (.pop, 1)) (hp : pc + 1 = pc') (h : own_Go p e below Q F (T.setTop (mkF m pc' Ls st))) : own_Go p e below Q F (T.setTop (mkF m pc Ls (x :: st))) := by
  subst hp
  exact own_by (fun _ q => XS.pop X.here hx rfl hd rfl hc q) h
theorem own_istoreN (X : Stand p l e R s m args below meth c T locs cells slots) (hx : p.tables.exec = Jvm.exec) {pc pc' : Nat} {Ls : Array Slot} {st : List Value} {k : Fin 4} {x : Int32} (L' : Array Slot) (hl : storeLocals Ls k.val (.int x) = some L') (hd : decode c.code pc = .ok (.istore_n k, 1)) (hp : pc + 1 = pc') (h : own_Go p e below Q F (T.setTop (mkF m pc' L' st))) : own_Go p e below Q F (T.setTop (mkF m pc Ls (.int x :: st))) := by
  subst hp
  exact own_by (fun _ q => XS.istoreN X.here hx rfl hd rfl hl q) h
theorem own_istore (X : Stand p l e R s m args below meth c T locs cells slots) (hx : p.tables.exec = Jvm.exec) {pc pc' : Nat} {Ls : Array Slot} {st : List Value} {k : Nat} {x : Int32} (L' : Array Slot) (hl : storeLocals Ls k (.int x) = some L') (hd : decode c.code pc = .ok (.istore k, 2)) (hp : pc + 2 = pc') (h : own_Go p e below Q F (T.setTop (mkF m pc' L' st))) : own_Go p e below Q F (T.setTop (mkF m pc Ls (.int x :: st))) := by
  subst hp
  exact own_by (fun _ q => XS.istore X.here hx rfl hd rfl hl q) h
theorem own_lstoreN (X : Stand p l e R s m args below meth c T locs cells slots) (hx : p.tables.exec = Jvm.exec) {pc pc' : Nat} {Ls : Array Slot} {st : List Value} {k : Fin 4} {x : Int64} (L' : Array Slot) (hl : storeLocals Ls k.val (.long x) = some L') (hd : decode c.code pc = .ok (.lstore_n k, 1)) (hp : pc + 1 = pc') (h : own_Go p e below Q F (T.setTop (mkF m pc' L' st))) : own_Go p e below Q F (T.setTop (mkF m pc Ls (.long x :: st))) := by
  subst hp
  exact own_by (fun _ q => XS.lstoreN X.here hx rfl hd rfl hl q) h
theorem own_lstore (X : Stand p l e R s m args below meth c T locs cells slots) (hx : p.tables.exec = Jvm.exec) {pc pc' : Nat} {Ls : Array Slot} {st : List Value} {k : Nat} {x : Int64} (L' : Array Slot) (hl : storeLocals Ls k (.long x) = some L') (hd : decode c.code pc = .ok (.lstore k, 2)) (hp : pc + 2 = pc') (h : own_Go p e below Q F (T.setTop (mkF m pc' L' st))) : own_Go p e below Q F (T.setTop (mkF m pc Ls (.long x :: st))) := by
  subst hp
  exact own_by (fun _ q => XS.lstore X.here hx rfl hd rfl hl q) h
theorem own_astoreN (X : Stand p l e R s m args below meth c T locs cells slots) (hx : p.tables.exec = Jvm.exec) {pc pc' : Nat} {Ls : Array Slot} {st : List Value} {k : Fin 4} {x : Value} (L' : Array Slot) (hv : x.isRef = true) (hl : storeLocals Ls k.val x = some L') (hd : decode c.code pc = .ok (.astore_n k, 1)) (hp : pc + 1 = pc') (h : own_Go p e below Q F (T.setTop (mkF m pc' L' st))) : own_Go p e below Q F (T.setTop (mkF m pc Ls (x :: st))) := by
  subst hp
  exact own_by (fun _ q => XS.astoreN X.here hx rfl hd rfl hv hl q) h
theorem own_astore (X : Stand p l e R s m args below meth c T locs cells slots) (hx : p.tables.exec = Jvm.exec) {pc pc' : Nat} {Ls : Array Slot} {st : List Value} {k : Nat} {x : Value} (L' : Array Slot) (hv : x.isRef = true) (hl : storeLocals Ls k x = some L') (hd : decode c.code pc = .ok (.astore k, 2)) (hp : pc + 2 = pc') (h : own_Go p e below Q F (T.setTop (mkF m pc' L' st))) : own_Go p e below Q F (T.setTop (mkF m pc Ls (x :: st))) := by
  subst hp
  exact own_by (fun _ q => XS.astore X.here hx rfl hd rfl hv hl q) h
theorem own_iinc (X : Stand p l e R s m args below meth c T locs cells slots) (hx : p.tables.exec = Jvm.exec) {pc pc' : Nat} {Ls : Array Slot} {st : List Value} {k : Nat} {cst : Int} {x z : Int32} (L' : Array Slot) (hv : Ls[k]? = some (.val (.int x))) (hz : x + Int32.ofInt cst = z) (hl : storeLocals Ls k (.int z) = some L') (hd : decode c.code pc = .ok (.iinc k cst, 3)) (hp : pc + 3 = pc') (h : own_Go p e below Q F (T.setTop (mkF m pc' L' st))) : own_Go p e below Q F (T.setTop (mkF m pc Ls st)) := by
  subst hp hz
  exact own_by (fun _ q => XS.iinc X.here hx rfl hd hv hl q) h
theorem own_goto (X : Stand p l e R s m args below meth c T locs cells slots) (hx : p.tables.exec = Jvm.exec) {pc pc' : Nat} {Ls : Array Slot} {st : List Value} {o : Int}  (hd : decode c.code pc = .ok (.goto o, 3))  (ho : 0 ≤ (pc : Int) + o) (hp : ((pc : Int) + o).toNat = pc') (h : own_Go p e below Q F (T.setTop (mkF m pc' Ls st))) : own_Go p e below Q F (T.setTop (mkF m pc Ls st)) := by
  exact own_by (fun _ q => XS.goto X.here hx rfl rfl hd ho hp q) h
theorem own_ifYes (X : Stand p l e R s m args below meth c T locs cells slots) (hx : p.tables.exec = Jvm.exec) {pc pc' : Nat} {Ls : Array Slot} {st : List Value} {o : Int} {cd : ClassFile.Cond} {x : Int32} (hd : decode c.code pc = .ok (.ifCond cd o, 3)) (hc : ifCond.holds cd x = true) (ho : 0 ≤ (pc : Int) + o) (hp : ((pc : Int) + o).toNat = pc') (h : own_Go p e below Q F (T.setTop (mkF m pc' Ls st))) : own_Go p e below Q F (T.setTop (mkF m pc Ls (.int x :: st))) := by
  exact own_by (fun _ q => XS.ifYes X.here hx rfl rfl hd rfl hc ho hp q) h
theorem own_icmpYes (X : Stand p l e R s m args below meth c T locs cells slots) (hx : p.tables.exec = Jvm.exec) {pc pc' : Nat} {Ls : Array Slot} {st : List Value} {o : Int} {cd : ClassFile.Cond} {x y : Int32} (hd : decode c.code pc = .ok (.if_icmp cd o, 3)) (hc : if_icmp.holds cd x y = true) (ho : 0 ≤ (pc : Int) + o) (hp : ((pc : Int) + o).toNat = pc') (h : own_Go p e below Q F (T.setTop (mkF m pc' Ls st))) : own_Go p e below Q F (T.setTop (mkF m pc Ls (.int y :: .int x :: st))) := by
  exact own_by (fun _ q => XS.icmpYes X.here hx rfl rfl hd rfl hc ho hp q) h
theorem own_ifnullYes (X : Stand p l e R s m args below meth c T locs cells slots) (hx : p.tables.exec = Jvm.exec) {pc pc' : Nat} {Ls : Array Slot} {st : List Value} {o : Int}  (hd : decode c.code pc = .ok (.ifnull o, 3))  (ho : 0 ≤ (pc : Int) + o) (hp : ((pc : Int) + o).toNat = pc') (h : own_Go p e below Q F (T.setTop (mkF m pc' Ls st))) : own_Go p e below Q F (T.setTop (mkF m pc Ls (.null :: st))) := by
  exact own_by (fun _ q => XS.ifnullYes X.here hx rfl rfl hd rfl ho hp q) h
theorem own_ifnonnullYes (X : Stand p l e R s m args below meth c T locs cells slots) (hx : p.tables.exec = Jvm.exec) {pc pc' : Nat} {Ls : Array Slot} {st : List Value} {o : Int} {b : Addr} (hd : decode c.code pc = .ok (.ifnonnull o, 3))  (ho : 0 ≤ (pc : Int) + o) (hp : ((pc : Int) + o).toNat = pc') (h : own_Go p e below Q F (T.setTop (mkF m pc' Ls st))) : own_Go p e below Q F (T.setTop (mkF m pc Ls (.ref b :: st))) := by
  exact own_by (fun _ q => XS.ifnonnullYes X.here hx rfl rfl hd rfl ho hp q) h
theorem own_acmpYes (X : Stand p l e R s m args below meth c T locs cells slots) (hx : p.tables.exec = Jvm.exec) {pc pc' : Nat} {Ls : Array Slot} {st : List Value} {o : Int} {cd : ClassFile.ACond} {a b : Addr} (hd : decode c.code pc = .ok (.if_acmp cd o, 3)) (hc : if_acmp.holds cd (some a) (some b) = true) (ho : 0 ≤ (pc : Int) + o) (hp : ((pc : Int) + o).toNat = pc') (h : own_Go p e below Q F (T.setTop (mkF m pc' Ls st))) : own_Go p e below Q F (T.setTop (mkF m pc Ls (.ref b :: .ref a :: st))) := by
  exact own_by (fun _ q => XS.acmpYes X.here hx rfl rfl hd rfl hc ho hp q) h
theorem own_ifNo (X : Stand p l e R s m args below meth c T locs cells slots) (hx : p.tables.exec = Jvm.exec) {pc pc' : Nat} {Ls : Array Slot} {st : List Value} {cd : ClassFile.Cond} {x : Int32} {o : Int} (hc : ifCond.holds cd x = false) (hd : decode c.code pc = .ok (.ifCond cd o, 3)) (hp : pc + 3 = pc') (h : own_Go p e below Q F (T.setTop (mkF m pc' Ls st))) : own_Go p e below Q F (T.setTop (mkF m pc Ls (.int x :: st))) := by
  subst hp
  exact own_by (fun _ q => XS.ifNo X.here hx rfl hd rfl hc q) h
theorem own_icmpNo (X : Stand p l e R s m args below meth c T locs cells slots) (hx : p.tables.exec = Jvm.exec) {pc pc' : Nat} {Ls : Array Slot} {st : List Value} {cd : ClassFile.Cond} {x y : Int32} {o : Int} (hc : if_icmp.holds cd x y = false) (hd : decode c.code pc = .ok (.if_icmp cd o, 3)) (hp : pc + 3 = pc') (h : own_Go p e below Q F (T.setTop (mkF m pc' Ls st))) : own_Go p e below Q F (T.setTop (mkF m pc Ls (.int y :: .int x :: st))) := by
  subst hp
  exact own_by (fun _ q => XS.icmpNo X.here hx rfl hd rfl hc q) h
theorem own_ifnullNo (X : Stand p l e R s m args below meth c T locs cells slots) (hx : p.tables.exec = Jvm.exec) {pc pc' : Nat} {Ls : Array Slot} {st : List Value} {b : Addr} {o : Int}  (hd : decode c.code pc = .ok (.ifnull o, 3)) (hp : pc + 3 = pc') (h : own_Go p e below Q F (T.setTop (mkF m pc' Ls st))) : own_Go p e below Q F (T.setTop (mkF m pc Ls (.ref b :: st))) := by
  subst hp
  exact own_by (fun _ q => XS.ifnullNo X.here hx rfl hd rfl q) h
theorem own_ifnonnullNo (X : Stand p l e R s m args below meth c T locs cells slots) (hx : p.tables.exec = Jvm.exec) {pc pc' : Nat} {Ls : Array Slot} {st : List Value} {o : Int}  (hd : decode c.code pc = .ok (.ifnonnull o, 3)) (hp : pc + 3 = pc') (h : own_Go p e below Q F (T.setTop (mkF m pc' Ls st))) : own_Go p e below Q F (T.setTop (mkF m pc Ls (.null :: st))) := by
  subst hp
  exact own_by (fun _ q => XS.ifnonnullNo X.here hx rfl hd rfl q) h
theorem own_acmpNo (X : Stand p l e R s m args below meth c T locs cells slots) (hx : p.tables.exec = Jvm.exec) {pc pc' : Nat} {Ls : Array Slot} {st : List Value} {cd : ClassFile.ACond} {a b : Addr} {o : Int} (hc : if_acmp.holds cd (some a) (some b) = false) (hd : decode c.code pc = .ok (.if_acmp cd o, 3)) (hp : pc + 3 = pc') (h : own_Go p e below Q F (T.setTop (mkF m pc' Ls st))) : own_Go p e below Q F (T.setTop (mkF m pc Ls (.ref b :: .ref a :: st))) := by
  subst hp
  exact own_by (fun _ q => XS.acmpNo X.here hx rfl hd rfl hc q) h
theorem own_ldcInt (X : Stand p l e R s m args below meth c T locs cells slots) (hx : p.tables.exec = Jvm.exec) {pc pc' : Nat} {Ls : Array Slot} {st : List Value} {Z : State} {a0 : Array Value} {own : String} {index : Nat} {v : Int32} (hZ : Z.Warmed39 s.vm) (hown : s.vm.findClass own = some m.cls) (w : (Jvm.Cond.constant own index v).before a0 Z = true) (hd : decode c.code pc = .ok (.ldc index, 2)) (hp : pc + 2 = pc') (h : own_Go p e below Q F (T.setTop (mkF m pc' Ls (.int v :: st)))) : own_Go p e below Q F (T.setTop (mkF m pc Ls st)) := by
  subst hp
  exact own_by (fun _ q => X.ldcInt hx hown (mv hZ w) (g := mkF m pc Ls st) rfl hd _ q) h
theorem own_ldc2Long (X : Stand p l e R s m args below meth c T locs cells slots) (hx : p.tables.exec = Jvm.exec) {pc pc' : Nat} {Ls : Array Slot} {st : List Value} {Z : State} {a0 : Array Value} {own : String} {index : Nat} {v : Int64} (hZ : Z.Warmed39 s.vm) (hown : s.vm.findClass own = some m.cls) (w : (Jvm.Cond.constantLong own index v).before a0 Z = true) (hd : decode c.code pc = .ok (.ldc2_w index, 3)) (hp : pc + 3 = pc') (h : own_Go p e below Q F (T.setTop (mkF m pc' Ls (.long v :: st)))) : own_Go p e below Q F (T.setTop (mkF m pc Ls st)) := by
  subst hp
  exact own_by (fun _ q => X.ldc2Long hx hown (mv hZ w) (g := mkF m pc Ls st) rfl hd _ q) h
theorem own_lyes_lt {x y : Int64} {a b : Int} (ha : x.toInt = a) (hb : y.toInt = b) (h : a < b) : ifCond.holds .lt (lcmpW x y) = true := by
  have q := own_lcm ha hb
  have r :  (lcmpW x y).toInt < 0 := by omega
  exact own_z (own_yes_lt rfl rfl r)
theorem own_lno_lt {x y : Int64} {a b : Int} (ha : x.toInt = a) (hb : y.toInt = b) (h : ¬ a < b) : ifCond.holds .lt (lcmpW x y) = false := by
  have q := own_lcm ha hb
  have r : ¬ (lcmpW x y).toInt < 0 := by omega
  exact own_z (own_no_lt rfl rfl r)
theorem own_lyes_ge {x y : Int64} {a b : Int} (ha : x.toInt = a) (hb : y.toInt = b) (h : ¬ a < b) : ifCond.holds .ge (lcmpW x y) = true := by
  have q := own_lcm ha hb
  have r : ¬ (lcmpW x y).toInt < 0 := by omega
  exact own_z (own_yes_ge rfl rfl r)
theorem own_lno_ge {x y : Int64} {a b : Int} (ha : x.toInt = a) (hb : y.toInt = b) (h : a < b) : ifCond.holds .ge (lcmpW x y) = false := by
  have q := own_lcm ha hb
  have r :  (lcmpW x y).toInt < 0 := by omega
  exact own_z (own_no_ge rfl rfl r)
theorem own_lyes_gt {x y : Int64} {a b : Int} (ha : x.toInt = a) (hb : y.toInt = b) (h : b < a) : ifCond.holds .gt (lcmpW x y) = true := by
  have q := own_lcm ha hb
  have r :  0 < (lcmpW x y).toInt := by omega
  exact own_z (own_yes_gt rfl rfl r)
theorem own_lno_gt {x y : Int64} {a b : Int} (ha : x.toInt = a) (hb : y.toInt = b) (h : ¬ b < a) : ifCond.holds .gt (lcmpW x y) = false := by
  have q := own_lcm ha hb
  have r : ¬ 0 < (lcmpW x y).toInt := by omega
  exact own_z (own_no_gt rfl rfl r)
theorem own_lyes_le {x y : Int64} {a b : Int} (ha : x.toInt = a) (hb : y.toInt = b) (h : ¬ b < a) : ifCond.holds .le (lcmpW x y) = true := by
  have q := own_lcm ha hb
  have r : ¬ 0 < (lcmpW x y).toInt := by omega
  exact own_z (own_yes_le rfl rfl r)
theorem own_lno_le {x y : Int64} {a b : Int} (ha : x.toInt = a) (hb : y.toInt = b) (h : b < a) : ifCond.holds .le (lcmpW x y) = false := by
  have q := own_lcm ha hb
  have r :  0 < (lcmpW x y).toInt := by omega
  exact own_z (own_no_le rfl rfl r)
theorem own_lyes_eq {x y : Int64} {a b : Int} (ha : x.toInt = a) (hb : y.toInt = b) (h : a = b) : ifCond.holds .eq (lcmpW x y) = true := by
  have q := own_lcm ha hb
  have r :  (lcmpW x y).toInt = 0 := by omega
  exact own_z (own_yes_eq rfl rfl r)
theorem own_lno_eq {x y : Int64} {a b : Int} (ha : x.toInt = a) (hb : y.toInt = b) (h : ¬ a = b) : ifCond.holds .eq (lcmpW x y) = false := by
  have q := own_lcm ha hb
  have r : ¬ (lcmpW x y).toInt = 0 := by omega
  exact own_z (own_no_eq rfl rfl r)
theorem own_lyes_ne {x y : Int64} {a b : Int} (ha : x.toInt = a) (hb : y.toInt = b) (h : ¬ a = b) : ifCond.holds .ne (lcmpW x y) = true := by
  have q := own_lcm ha hb
  have r : ¬ (lcmpW x y).toInt = 0 := by omega
  exact own_z (own_yes_ne rfl rfl r)
theorem own_lno_ne {x y : Int64} {a b : Int} (ha : x.toInt = a) (hb : y.toInt = b) (h : a = b) : ifCond.holds .ne (lcmpW x y) = false := by
  have q := own_lcm ha hb
  have r :  (lcmpW x y).toInt = 0 := by omega
  exact own_z (own_no_ne rfl rfl r)
theorem own_tswIn (X : Stand p l e R s m args below meth c T locs cells slots) (hx : p.tables.exec = Jvm.exec) {pc pc' : Nat} {Ls : Array Slot} {st : List Value} {dflt low high : Int} {offs : Array Int} {len : Nat} (o : Int) {i : Int32} (hd : decode c.code pc = .ok (.tableswitch dflt low high offs, len)) (hin : ¬ (i.toInt < low ∨ i.toInt > high)) (hoff : offs[(i.toInt - low).toNat]? = some o) (ho : 0 ≤ (pc : Int) + o) (hp : ((pc : Int) + o).toNat = pc') (h : own_Go p e below Q F (T.setTop (mkF m pc' Ls st))) : own_Go p e below Q F (T.setTop (mkF m pc Ls (.int i :: st))) := by
  exact own_by (fun _ q => XS.tswIn X.here hx rfl rfl hd rfl hin hoff ho hp q) h
theorem own_tswOut (X : Stand p l e R s m args below meth c T locs cells slots) (hx : p.tables.exec = Jvm.exec) {pc pc' : Nat} {Ls : Array Slot} {st : List Value} {dflt low high : Int} {offs : Array Int} {len : Nat} {i : Int32} (hd : decode c.code pc = .ok (.tableswitch dflt low high offs, len)) (hout : i.toInt < low ∨ i.toInt > high) (ho : 0 ≤ (pc : Int) + dflt) (hp : ((pc : Int) + dflt).toNat = pc') (h : own_Go p e below Q F (T.setTop (mkF m pc' Ls st))) : own_Go p e below Q F (T.setTop (mkF m pc Ls (.int i :: st))) := by
  exact own_by (fun _ q => XS.tswOut X.here hx rfl rfl hd rfl hout ho hp q) h
end OwnKit
theorem pd_0 : parseMethodDescriptor "(II)I" = some ⟨[.int, .int], some .int⟩ := by decide +kernel
theorem dm4_0_0 : decode jdk_29_method_69_code 0 = .ok (.iload_n 0, 1) := by decide +kernel
theorem dm4_0_1 : decode jdk_29_method_69_code 1 = .ok (.iload_n 1, 1) := by decide +kernel
theorem dm4_0_2 : decode jdk_29_method_69_code 2 = .ok (.if_icmp .gt 7, 3) := by decide +kernel
theorem dm4_0_5 : decode jdk_29_method_69_code 5 = .ok (.iload_n 0, 1) := by decide +kernel
theorem dm4_0_6 : decode jdk_29_method_69_code 6 = .ok (.goto 4, 3) := by decide +kernel
theorem dm4_0_9 : decode jdk_29_method_69_code 9 = .ok (.iload_n 1, 1) := by decide +kernel
theorem dm4_0_10 : decode jdk_29_method_69_code 10 = .ok (.ireturn, 1) := by decide +kernel
theorem ef_m4_0 (m : MethodId)  : entryFrame m #[(.int (4 : Int32)), (.int (0 : Int32))] 2 = mkF m 0 #[.val (.int (4 : Int32)), .val (.int (0 : Int32))] [] := by first | (simp [entryFrame, mkF, argsToLocals, Value.category, maxLocals]; done) | rfl
def Qm4_0 (Z : State)  (h0 : Heap) (n0 : Nat) (v : Option Value) (h : Heap) (L : List Loc) : Prop := v = some (.int (0 : Int32)) ∧ (True) ∧ Fr n0 L ∧ h = h0
set_option maxRecDepth 65536 in
set_option maxHeartbeats 40000000 in
theorem rmm4_0 (l : Launch) (Z : State) (a0 : Array Value) (hw : ∀ d ∈ tables_1, d.before a0 Z = true) (ws : List Jvm.Cond)  (h0 : Heap) (n0 : Nat) (Z0 : n0 ≤ h0.size) :
    MetFree l (⟨"java/lang/Math", "min", "(II)I"⟩ : MethodName) (head1 (Jvm.Cond.code (⟨"java/lang/Math", "min", "(II)I"⟩ : MethodName) jdk_29_method_69_code 2 (some .int) :: ws) ({ frames := 0, cells := 0, slots := 0, locals := 0 } : Room)) (fun a U => a = #[(.int (4 : Int32)), (.int (0 : Int32))] ∧ Z.Warmed39 U.vm ∧ U.heap = h0) (fun _ _ _ _ _ => True) (fun _ U o U' => ∃ v L, o = .returned v ∧ Qm4_0 Z  h0 n0 v U'.heap L ∧ FrameEnd U o U' L ({ frames := 0, cells := 0, slots := 0, locals := 0 } : Room).cells ({ frames := 0, cells := 0, slots := 0, locals := 0 } : Room).slots) := by
  refine MetFree.of_bodySF (Jvm.Free.JP.mathPlain rfl (by decide +kernel)) hisR ?_
  intro p e s m args below meth c s₁ Bd hml0 hP hK
  obtain ⟨rfl, hZ, hh⟩ := hP
  have hx := Bd.exec
  have hby := Bd.bytes
  have hml : c.maxLocals = 2 := hml0
  have hown : s.vm.findClass "java/lang/Math" = some m.cls := findClass_of_methodNamed Bd.named
  have hnm := (name_of_methodNamed Bd.named Bd.method).1
  have X0 : Stand p l e ({ frames := 0, cells := 0, slots := 0, locals := 0 } : Room) s m #[(.int (4 : Int32)), (.int (0 : Int32))] below meth c s₁ [] 0 0 := Stand.of_body Bd
  have e0 : s₁.heap = h0 := by rw [← hh, Bd.state]; rfl
  have N0 := Fr.nil n0
  change own_Go p e below (Qm4_0 Z  h0 n0) (own_Fr s ({ frames := 0, cells := 0, slots := 0, locals := 0 } : Room).cells ({ frames := 0, cells := 0, slots := 0, locals := 0 } : Room).slots) (s₁.setTop (entryFrame m #[(.int (4 : Int32)), (.int (0 : Int32))] 2))
  rw [ef_m4_0 m ]
  refine own_iloadN (pc' := 1) X0 hx rfl (hb hby dm4_0_0) rfl ?_
  refine own_iloadN (pc' := 2) X0 hx rfl (hb hby dm4_0_1) rfl ?_
  refine own_icmpYes (pc' := 9) X0 hx (hb hby dm4_0_2) (by decide) (by decide) (by decide) ?_
  refine own_iloadN (pc' := 10) X0 hx rfl (hb hby dm4_0_9) rfl ?_
  refine own_ret X0 hx Bd.returns Bd.notSynchronized (Or.inl ⟨rfl, by simp, _, rfl⟩) (hb hby dm4_0_10) rfl (by decide) (by decide) ?_
  show Qm4_0 Z  h0 n0 _ s₁.heap _
  rw [e0]
  exact ⟨rfl, trivial, N0, rfl⟩
theorem ef_m4_1 (m : MethodId)  : entryFrame m #[(.int (4 : Int32)), (.int (1 : Int32))] 2 = mkF m 0 #[.val (.int (4 : Int32)), .val (.int (1 : Int32))] [] := by first | (simp [entryFrame, mkF, argsToLocals, Value.category, maxLocals]; done) | rfl
def Qm4_1 (Z : State)  (h0 : Heap) (n0 : Nat) (v : Option Value) (h : Heap) (L : List Loc) : Prop := v = some (.int (1 : Int32)) ∧ (True) ∧ Fr n0 L ∧ h = h0
set_option maxRecDepth 65536 in
set_option maxHeartbeats 40000000 in
theorem rmm4_1 (l : Launch) (Z : State) (a0 : Array Value) (hw : ∀ d ∈ tables_1, d.before a0 Z = true) (ws : List Jvm.Cond)  (h0 : Heap) (n0 : Nat) (Z0 : n0 ≤ h0.size) :
    MetFree l (⟨"java/lang/Math", "min", "(II)I"⟩ : MethodName) (head1 (Jvm.Cond.code (⟨"java/lang/Math", "min", "(II)I"⟩ : MethodName) jdk_29_method_69_code 2 (some .int) :: ws) ({ frames := 0, cells := 0, slots := 0, locals := 0 } : Room)) (fun a U => a = #[(.int (4 : Int32)), (.int (1 : Int32))] ∧ Z.Warmed39 U.vm ∧ U.heap = h0) (fun _ _ _ _ _ => True) (fun _ U o U' => ∃ v L, o = .returned v ∧ Qm4_1 Z  h0 n0 v U'.heap L ∧ FrameEnd U o U' L ({ frames := 0, cells := 0, slots := 0, locals := 0 } : Room).cells ({ frames := 0, cells := 0, slots := 0, locals := 0 } : Room).slots) := by
  refine MetFree.of_bodySF (Jvm.Free.JP.mathPlain rfl (by decide +kernel)) hisR ?_
  intro p e s m args below meth c s₁ Bd hml0 hP hK
  obtain ⟨rfl, hZ, hh⟩ := hP
  have hx := Bd.exec
  have hby := Bd.bytes
  have hml : c.maxLocals = 2 := hml0
  have hown : s.vm.findClass "java/lang/Math" = some m.cls := findClass_of_methodNamed Bd.named
  have hnm := (name_of_methodNamed Bd.named Bd.method).1
  have X0 : Stand p l e ({ frames := 0, cells := 0, slots := 0, locals := 0 } : Room) s m #[(.int (4 : Int32)), (.int (1 : Int32))] below meth c s₁ [] 0 0 := Stand.of_body Bd
  have e0 : s₁.heap = h0 := by rw [← hh, Bd.state]; rfl
  have N0 := Fr.nil n0
  change own_Go p e below (Qm4_1 Z  h0 n0) (own_Fr s ({ frames := 0, cells := 0, slots := 0, locals := 0 } : Room).cells ({ frames := 0, cells := 0, slots := 0, locals := 0 } : Room).slots) (s₁.setTop (entryFrame m #[(.int (4 : Int32)), (.int (1 : Int32))] 2))
  rw [ef_m4_1 m ]
  refine own_iloadN (pc' := 1) X0 hx rfl (hb hby dm4_0_0) rfl ?_
  refine own_iloadN (pc' := 2) X0 hx rfl (hb hby dm4_0_1) rfl ?_
  refine own_icmpYes (pc' := 9) X0 hx (hb hby dm4_0_2) (by decide) (by decide) (by decide) ?_
  refine own_iloadN (pc' := 10) X0 hx rfl (hb hby dm4_0_9) rfl ?_
  refine own_ret X0 hx Bd.returns Bd.notSynchronized (Or.inl ⟨rfl, by simp, _, rfl⟩) (hb hby dm4_0_10) rfl (by decide) (by decide) ?_
  show Qm4_1 Z  h0 n0 _ s₁.heap _
  rw [e0]
  exact ⟨rfl, trivial, N0, rfl⟩
theorem ef_m4_2 (m : MethodId)  : entryFrame m #[(.int (4 : Int32)), (.int (2 : Int32))] 2 = mkF m 0 #[.val (.int (4 : Int32)), .val (.int (2 : Int32))] [] := by first | (simp [entryFrame, mkF, argsToLocals, Value.category, maxLocals]; done) | rfl
def Qm4_2 (Z : State)  (h0 : Heap) (n0 : Nat) (v : Option Value) (h : Heap) (L : List Loc) : Prop := v = some (.int (2 : Int32)) ∧ (True) ∧ Fr n0 L ∧ h = h0
set_option maxRecDepth 65536 in
set_option maxHeartbeats 40000000 in
theorem rmm4_2 (l : Launch) (Z : State) (a0 : Array Value) (hw : ∀ d ∈ tables_1, d.before a0 Z = true) (ws : List Jvm.Cond)  (h0 : Heap) (n0 : Nat) (Z0 : n0 ≤ h0.size) :
    MetFree l (⟨"java/lang/Math", "min", "(II)I"⟩ : MethodName) (head1 (Jvm.Cond.code (⟨"java/lang/Math", "min", "(II)I"⟩ : MethodName) jdk_29_method_69_code 2 (some .int) :: ws) ({ frames := 0, cells := 0, slots := 0, locals := 0 } : Room)) (fun a U => a = #[(.int (4 : Int32)), (.int (2 : Int32))] ∧ Z.Warmed39 U.vm ∧ U.heap = h0) (fun _ _ _ _ _ => True) (fun _ U o U' => ∃ v L, o = .returned v ∧ Qm4_2 Z  h0 n0 v U'.heap L ∧ FrameEnd U o U' L ({ frames := 0, cells := 0, slots := 0, locals := 0 } : Room).cells ({ frames := 0, cells := 0, slots := 0, locals := 0 } : Room).slots) := by
  refine MetFree.of_bodySF (Jvm.Free.JP.mathPlain rfl (by decide +kernel)) hisR ?_
  intro p e s m args below meth c s₁ Bd hml0 hP hK
  obtain ⟨rfl, hZ, hh⟩ := hP
  have hx := Bd.exec
  have hby := Bd.bytes
  have hml : c.maxLocals = 2 := hml0
  have hown : s.vm.findClass "java/lang/Math" = some m.cls := findClass_of_methodNamed Bd.named
  have hnm := (name_of_methodNamed Bd.named Bd.method).1
  have X0 : Stand p l e ({ frames := 0, cells := 0, slots := 0, locals := 0 } : Room) s m #[(.int (4 : Int32)), (.int (2 : Int32))] below meth c s₁ [] 0 0 := Stand.of_body Bd
  have e0 : s₁.heap = h0 := by rw [← hh, Bd.state]; rfl
  have N0 := Fr.nil n0
  change own_Go p e below (Qm4_2 Z  h0 n0) (own_Fr s ({ frames := 0, cells := 0, slots := 0, locals := 0 } : Room).cells ({ frames := 0, cells := 0, slots := 0, locals := 0 } : Room).slots) (s₁.setTop (entryFrame m #[(.int (4 : Int32)), (.int (2 : Int32))] 2))
  rw [ef_m4_2 m ]
  refine own_iloadN (pc' := 1) X0 hx rfl (hb hby dm4_0_0) rfl ?_
  refine own_iloadN (pc' := 2) X0 hx rfl (hb hby dm4_0_1) rfl ?_
  refine own_icmpYes (pc' := 9) X0 hx (hb hby dm4_0_2) (by decide) (by decide) (by decide) ?_
  refine own_iloadN (pc' := 10) X0 hx rfl (hb hby dm4_0_9) rfl ?_
  refine own_ret X0 hx Bd.returns Bd.notSynchronized (Or.inl ⟨rfl, by simp, _, rfl⟩) (hb hby dm4_0_10) rfl (by decide) (by decide) ?_
  show Qm4_2 Z  h0 n0 _ s₁.heap _
  rw [e0]
  exact ⟨rfl, trivial, N0, rfl⟩
theorem ef_m4_3 (m : MethodId)  : entryFrame m #[(.int (4 : Int32)), (.int (3 : Int32))] 2 = mkF m 0 #[.val (.int (4 : Int32)), .val (.int (3 : Int32))] [] := by first | (simp [entryFrame, mkF, argsToLocals, Value.category, maxLocals]; done) | rfl
def Qm4_3 (Z : State)  (h0 : Heap) (n0 : Nat) (v : Option Value) (h : Heap) (L : List Loc) : Prop := v = some (.int (3 : Int32)) ∧ (True) ∧ Fr n0 L ∧ h = h0
set_option maxRecDepth 65536 in
set_option maxHeartbeats 40000000 in
theorem rmm4_3 (l : Launch) (Z : State) (a0 : Array Value) (hw : ∀ d ∈ tables_1, d.before a0 Z = true) (ws : List Jvm.Cond)  (h0 : Heap) (n0 : Nat) (Z0 : n0 ≤ h0.size) :
    MetFree l (⟨"java/lang/Math", "min", "(II)I"⟩ : MethodName) (head1 (Jvm.Cond.code (⟨"java/lang/Math", "min", "(II)I"⟩ : MethodName) jdk_29_method_69_code 2 (some .int) :: ws) ({ frames := 0, cells := 0, slots := 0, locals := 0 } : Room)) (fun a U => a = #[(.int (4 : Int32)), (.int (3 : Int32))] ∧ Z.Warmed39 U.vm ∧ U.heap = h0) (fun _ _ _ _ _ => True) (fun _ U o U' => ∃ v L, o = .returned v ∧ Qm4_3 Z  h0 n0 v U'.heap L ∧ FrameEnd U o U' L ({ frames := 0, cells := 0, slots := 0, locals := 0 } : Room).cells ({ frames := 0, cells := 0, slots := 0, locals := 0 } : Room).slots) := by
  refine MetFree.of_bodySF (Jvm.Free.JP.mathPlain rfl (by decide +kernel)) hisR ?_
  intro p e s m args below meth c s₁ Bd hml0 hP hK
  obtain ⟨rfl, hZ, hh⟩ := hP
  have hx := Bd.exec
  have hby := Bd.bytes
  have hml : c.maxLocals = 2 := hml0
  have hown : s.vm.findClass "java/lang/Math" = some m.cls := findClass_of_methodNamed Bd.named
  have hnm := (name_of_methodNamed Bd.named Bd.method).1
  have X0 : Stand p l e ({ frames := 0, cells := 0, slots := 0, locals := 0 } : Room) s m #[(.int (4 : Int32)), (.int (3 : Int32))] below meth c s₁ [] 0 0 := Stand.of_body Bd
  have e0 : s₁.heap = h0 := by rw [← hh, Bd.state]; rfl
  have N0 := Fr.nil n0
  change own_Go p e below (Qm4_3 Z  h0 n0) (own_Fr s ({ frames := 0, cells := 0, slots := 0, locals := 0 } : Room).cells ({ frames := 0, cells := 0, slots := 0, locals := 0 } : Room).slots) (s₁.setTop (entryFrame m #[(.int (4 : Int32)), (.int (3 : Int32))] 2))
  rw [ef_m4_3 m ]
  refine own_iloadN (pc' := 1) X0 hx rfl (hb hby dm4_0_0) rfl ?_
  refine own_iloadN (pc' := 2) X0 hx rfl (hb hby dm4_0_1) rfl ?_
  refine own_icmpYes (pc' := 9) X0 hx (hb hby dm4_0_2) (by decide) (by decide) (by decide) ?_
  refine own_iloadN (pc' := 10) X0 hx rfl (hb hby dm4_0_9) rfl ?_
  refine own_ret X0 hx Bd.returns Bd.notSynchronized (Or.inl ⟨rfl, by simp, _, rfl⟩) (hb hby dm4_0_10) rfl (by decide) (by decide) ?_
  show Qm4_3 Z  h0 n0 _ s₁.heap _
  rw [e0]
  exact ⟨rfl, trivial, N0, rfl⟩
theorem ef_m8_5 (m : MethodId)  : entryFrame m #[(.int (8 : Int32)), (.int (5 : Int32))] 2 = mkF m 0 #[.val (.int (8 : Int32)), .val (.int (5 : Int32))] [] := by first | (simp [entryFrame, mkF, argsToLocals, Value.category, maxLocals]; done) | rfl
def Qm8_5 (Z : State)  (h0 : Heap) (n0 : Nat) (v : Option Value) (h : Heap) (L : List Loc) : Prop := v = some (.int (5 : Int32)) ∧ (True) ∧ Fr n0 L ∧ h = h0
set_option maxRecDepth 65536 in
set_option maxHeartbeats 40000000 in
theorem rmm8_5 (l : Launch) (Z : State) (a0 : Array Value) (hw : ∀ d ∈ tables_1, d.before a0 Z = true) (ws : List Jvm.Cond)  (h0 : Heap) (n0 : Nat) (Z0 : n0 ≤ h0.size) :
    MetFree l (⟨"java/lang/Math", "min", "(II)I"⟩ : MethodName) (head1 (Jvm.Cond.code (⟨"java/lang/Math", "min", "(II)I"⟩ : MethodName) jdk_29_method_69_code 2 (some .int) :: ws) ({ frames := 0, cells := 0, slots := 0, locals := 0 } : Room)) (fun a U => a = #[(.int (8 : Int32)), (.int (5 : Int32))] ∧ Z.Warmed39 U.vm ∧ U.heap = h0) (fun _ _ _ _ _ => True) (fun _ U o U' => ∃ v L, o = .returned v ∧ Qm8_5 Z  h0 n0 v U'.heap L ∧ FrameEnd U o U' L ({ frames := 0, cells := 0, slots := 0, locals := 0 } : Room).cells ({ frames := 0, cells := 0, slots := 0, locals := 0 } : Room).slots) := by
  refine MetFree.of_bodySF (Jvm.Free.JP.mathPlain rfl (by decide +kernel)) hisR ?_
  intro p e s m args below meth c s₁ Bd hml0 hP hK
  obtain ⟨rfl, hZ, hh⟩ := hP
  have hx := Bd.exec
  have hby := Bd.bytes
  have hml : c.maxLocals = 2 := hml0
  have hown : s.vm.findClass "java/lang/Math" = some m.cls := findClass_of_methodNamed Bd.named
  have hnm := (name_of_methodNamed Bd.named Bd.method).1
  have X0 : Stand p l e ({ frames := 0, cells := 0, slots := 0, locals := 0 } : Room) s m #[(.int (8 : Int32)), (.int (5 : Int32))] below meth c s₁ [] 0 0 := Stand.of_body Bd
  have e0 : s₁.heap = h0 := by rw [← hh, Bd.state]; rfl
  have N0 := Fr.nil n0
  change own_Go p e below (Qm8_5 Z  h0 n0) (own_Fr s ({ frames := 0, cells := 0, slots := 0, locals := 0 } : Room).cells ({ frames := 0, cells := 0, slots := 0, locals := 0 } : Room).slots) (s₁.setTop (entryFrame m #[(.int (8 : Int32)), (.int (5 : Int32))] 2))
  rw [ef_m8_5 m ]
  refine own_iloadN (pc' := 1) X0 hx rfl (hb hby dm4_0_0) rfl ?_
  refine own_iloadN (pc' := 2) X0 hx rfl (hb hby dm4_0_1) rfl ?_
  refine own_icmpYes (pc' := 9) X0 hx (hb hby dm4_0_2) (by decide) (by decide) (by decide) ?_
  refine own_iloadN (pc' := 10) X0 hx rfl (hb hby dm4_0_9) rfl ?_
  refine own_ret X0 hx Bd.returns Bd.notSynchronized (Or.inl ⟨rfl, by simp, _, rfl⟩) (hb hby dm4_0_10) rfl (by decide) (by decide) ?_
  show Qm8_5 Z  h0 n0 _ s₁.heap _
  rw [e0]
  exact ⟨rfl, trivial, N0, rfl⟩
theorem ef_m4_8 (m : MethodId)  : entryFrame m #[(.int (4 : Int32)), (.int (8 : Int32))] 2 = mkF m 0 #[.val (.int (4 : Int32)), .val (.int (8 : Int32))] [] := by first | (simp [entryFrame, mkF, argsToLocals, Value.category, maxLocals]; done) | rfl
def Qm4_8 (Z : State)  (h0 : Heap) (n0 : Nat) (v : Option Value) (h : Heap) (L : List Loc) : Prop := v = some (.int (4 : Int32)) ∧ (True) ∧ Fr n0 L ∧ h = h0
set_option maxRecDepth 65536 in
set_option maxHeartbeats 40000000 in
theorem rmm4_8 (l : Launch) (Z : State) (a0 : Array Value) (hw : ∀ d ∈ tables_1, d.before a0 Z = true) (ws : List Jvm.Cond)  (h0 : Heap) (n0 : Nat) (Z0 : n0 ≤ h0.size) :
    MetFree l (⟨"java/lang/Math", "min", "(II)I"⟩ : MethodName) (head1 (Jvm.Cond.code (⟨"java/lang/Math", "min", "(II)I"⟩ : MethodName) jdk_29_method_69_code 2 (some .int) :: ws) ({ frames := 0, cells := 0, slots := 0, locals := 0 } : Room)) (fun a U => a = #[(.int (4 : Int32)), (.int (8 : Int32))] ∧ Z.Warmed39 U.vm ∧ U.heap = h0) (fun _ _ _ _ _ => True) (fun _ U o U' => ∃ v L, o = .returned v ∧ Qm4_8 Z  h0 n0 v U'.heap L ∧ FrameEnd U o U' L ({ frames := 0, cells := 0, slots := 0, locals := 0 } : Room).cells ({ frames := 0, cells := 0, slots := 0, locals := 0 } : Room).slots) := by
  refine MetFree.of_bodySF (Jvm.Free.JP.mathPlain rfl (by decide +kernel)) hisR ?_
  intro p e s m args below meth c s₁ Bd hml0 hP hK
  obtain ⟨rfl, hZ, hh⟩ := hP
  have hx := Bd.exec
  have hby := Bd.bytes
  have hml : c.maxLocals = 2 := hml0
  have hown : s.vm.findClass "java/lang/Math" = some m.cls := findClass_of_methodNamed Bd.named
  have hnm := (name_of_methodNamed Bd.named Bd.method).1
  have X0 : Stand p l e ({ frames := 0, cells := 0, slots := 0, locals := 0 } : Room) s m #[(.int (4 : Int32)), (.int (8 : Int32))] below meth c s₁ [] 0 0 := Stand.of_body Bd
  have e0 : s₁.heap = h0 := by rw [← hh, Bd.state]; rfl
  have N0 := Fr.nil n0
  change own_Go p e below (Qm4_8 Z  h0 n0) (own_Fr s ({ frames := 0, cells := 0, slots := 0, locals := 0 } : Room).cells ({ frames := 0, cells := 0, slots := 0, locals := 0 } : Room).slots) (s₁.setTop (entryFrame m #[(.int (4 : Int32)), (.int (8 : Int32))] 2))
  rw [ef_m4_8 m ]
  refine own_iloadN (pc' := 1) X0 hx rfl (hb hby dm4_0_0) rfl ?_
  refine own_iloadN (pc' := 2) X0 hx rfl (hb hby dm4_0_1) rfl ?_
  refine own_icmpNo (pc' := 5) X0 hx (by decide) (hb hby dm4_0_2) rfl ?_
  refine own_iloadN (pc' := 6) X0 hx rfl (hb hby dm4_0_5) rfl ?_
  refine own_goto (pc' := 10) X0 hx (hb hby dm4_0_6) (by decide) (by decide) ?_
  refine own_ret X0 hx Bd.returns Bd.notSynchronized (Or.inl ⟨rfl, by simp, _, rfl⟩) (hb hby dm4_0_10) rfl (by decide) (by decide) ?_
  show Qm4_8 Z  h0 n0 _ s₁.heap _
  rw [e0]
  exact ⟨rfl, trivial, N0, rfl⟩
theorem pd_1 : parseMethodDescriptor "([II)[I" = some ⟨[(.array .int), .int], some (.array .int)⟩ := by decide +kernel
theorem dc4_0_0 : decode jdk_65_method_123_code 0 = .ok (.iload_n 1, 1) := by decide +kernel
theorem dc4_0_1 : decode jdk_65_method_123_code 1 = .ok (.aload_n 0, 1) := by decide +kernel
theorem dc4_0_2 : decode jdk_65_method_123_code 2 = .ok (.arraylength, 1) := by decide +kernel
theorem dc4_0_3 : decode jdk_65_method_123_code 3 = .ok (.if_icmp .ne 11, 3) := by decide +kernel
theorem dc4_0_6 : decode jdk_65_method_123_code 6 = .ok (.aload_n 0, 1) := by decide +kernel
theorem dc4_0_13 : decode jdk_65_method_123_code 13 = .ok (.areturn, 1) := by decide +kernel
theorem dc4_0_14 : decode jdk_65_method_123_code 14 = .ok (.iload_n 1, 1) := by decide +kernel
theorem dc4_0_15 : decode jdk_65_method_123_code 15 = .ok (.newarray .int, 2) := by decide +kernel
theorem dc4_0_17 : decode jdk_65_method_123_code 17 = .ok (.astore_n 2, 1) := by decide +kernel
theorem dc4_0_18 : decode jdk_65_method_123_code 18 = .ok (.aload_n 0, 1) := by decide +kernel
theorem dc4_0_19 : decode jdk_65_method_123_code 19 = .ok (.iconst 0, 1) := by decide +kernel
theorem dc4_0_20 : decode jdk_65_method_123_code 20 = .ok (.aload_n 2, 1) := by decide +kernel
theorem dc4_0_21 : decode jdk_65_method_123_code 21 = .ok (.iconst 0, 1) := by decide +kernel
theorem dc4_0_22 : decode jdk_65_method_123_code 22 = .ok (.aload_n 0, 1) := by decide +kernel
theorem dc4_0_23 : decode jdk_65_method_123_code 23 = .ok (.arraylength, 1) := by decide +kernel
theorem dc4_0_24 : decode jdk_65_method_123_code 24 = .ok (.iload_n 1, 1) := by decide +kernel
theorem dc4_0_25 : decode jdk_65_method_123_code 25 = .ok (.invokestatic 304, 3) := by decide +kernel
theorem dc4_0_28 : decode jdk_65_method_123_code 28 = .ok (.invokestatic 150, 3) := by decide +kernel
theorem dc4_0_31 : decode jdk_65_method_123_code 31 = .ok (.aload_n 2, 1) := by decide +kernel
theorem dc4_0_32 : decode jdk_65_method_123_code 32 = .ok (.areturn, 1) := by decide +kernel
theorem pn_0 : plainName "java/util/Arrays" = true := by first | (simp [plainName, overriddenIn]; done) | decide +kernel
theorem ef_c4_0 (m : MethodId) (x0 : Addr) : entryFrame m #[(.ref x0), (.int (0 : Int32))] 3 = mkF m 0 #[.val (.ref x0), .val (.int (0 : Int32)), .unset] [] := by first | (simp [entryFrame, mkF, argsToLocals, Value.category, maxLocals]; done) | rfl
def Qc4_0 (Z : State) (ar : Addr) (kc : ClassId) (el0 : Int32) (el1 : Int32) (el2 : Int32) (el3 : Int32) (h0 : Heap) (n0 : Nat) (v : Option Value) (h : Heap) (L : List Loc) : Prop := ∃ q : Addr, ∃ kd : ClassId, v = some (.ref q) ∧ (True) ∧ Fr n0 L ∧ Keep h0 h [] ∧ h0.size ≤ q ∧ Exa Z h q "[I" ∧ Arv Z h q kd .int (0 : Int32) [] (.int (0 : Int32))
set_option maxRecDepth 65536 in
set_option maxHeartbeats 40000000 in
theorem rmc4_0 (l : Launch) (Z : State) (a0 : Array Value) (hw : ∀ d ∈ tables_1, d.before a0 Z = true) (ws : List Jvm.Cond) (ar : Addr) (kc : ClassId) (el0 : Int32) (el1 : Int32) (el2 : Int32) (el3 : Int32) (h0 : Heap) (n0 : Nat) (Z0 : n0 ≤ h0.size) (E_ar : Exa Z h0 ar "[I") (A_ar : Arv Z h0 ar kc .int (4 : Int32) [(.int el0), (.int el1), (.int el2), (.int el3)] (.int (0 : Int32))) :
    MetFree l (⟨"java/util/Arrays", "copyOf", "([II)[I"⟩ : MethodName) (head1 (Jvm.Cond.code (⟨"java/util/Arrays", "copyOf", "([II)[I"⟩ : MethodName) jdk_65_method_123_code 3 (some (.array .int)) :: ws) ({ frames := 1, cells := 1, slots := 0, locals := 40 } : Room)) (fun a U => a = #[(.ref ar), (.int (0 : Int32))] ∧ Z.Warmed39 U.vm ∧ U.heap = h0) (fun _ _ _ _ _ => True) (fun _ U o U' => ∃ v L, o = .returned v ∧ Qc4_0 Z ar kc el0 el1 el2 el3 h0 n0 v U'.heap L ∧ FrameEnd U o U' L ({ frames := 1, cells := 1, slots := 0, locals := 40 } : Room).cells ({ frames := 1, cells := 1, slots := 0, locals := 40 } : Room).slots) := by
  refine MetFree.of_bodySF (plainFor_of_name pn_0) hisR ?_
  intro p e s m args below meth c s₁ Bd hml0 hP hK
  obtain ⟨rfl, hZ, hh⟩ := hP
  have hx := Bd.exec
  have hby := Bd.bytes
  have hml : c.maxLocals = 3 := hml0
  have hown : s.vm.findClass "java/util/Arrays" = some m.cls := findClass_of_methodNamed Bd.named
  have hnm := (name_of_methodNamed Bd.named Bd.method).1
  have X0 : Stand p l e ({ frames := 1, cells := 1, slots := 0, locals := 40 } : Room) s m #[(.ref ar), (.int (0 : Int32))] below meth c s₁ [] 0 0 := Stand.of_body Bd
  have e0 : s₁.heap = h0 := by rw [← hh, Bd.state]; rfl
  have N0 := Fr.nil n0
  change own_Go p e below (Qc4_0 Z ar kc el0 el1 el2 el3 h0 n0) (own_Fr s ({ frames := 1, cells := 1, slots := 0, locals := 40 } : Room).cells ({ frames := 1, cells := 1, slots := 0, locals := 40 } : Room).slots) (s₁.setTop (entryFrame m #[(.ref ar), (.int (0 : Int32))] 3))
  rw [ef_c4_0 m ar]
  have rel0 := rng32 el0
  have rel1 := rng32 el1
  have rel2 := rng32 el2
  have rel3 := rng32 el3
  have K0 : Keep h0 h0 [] := Keep.refl h0 []
  refine own_iloadN (pc' := 1) X0 hx rfl (hb hby dc4_0_0) rfl ?_
  refine own_aloadN (pc' := 2) X0 hx rfl rfl (hb hby dc4_0_1) rfl ?_
  obtain ⟨c1, B1, q1, s1, u1, H1, G1⟩ := id A_ar
  refine own_by (X0.arraylength hx (by rw [e0]; exact B1.1) (State.isArrayOf_alike hZ.alike B1.2.1) (g := (mkF m 2 #[.val (.ref ar), .val (.int (0 : Int32)), .unset] [(.ref ar), (.int (0 : Int32))])) rfl rfl (hb hby dc4_0_2)) ?_
  rw [len_of s1 u1]
  show own_Go p e below (Qc4_0 Z ar kc el0 el1 el2 el3 h0 n0) (own_Fr s ({ frames := 1, cells := 1, slots := 0, locals := 40 } : Room).cells ({ frames := 1, cells := 1, slots := 0, locals := 40 } : Room).slots) (s₁.setTop (mkF m 3 #[.val (.ref ar), .val (.int (0 : Int32)), .unset] [(.int (4 : Int32)), (.int (0 : Int32))]))
  refine own_icmpYes (pc' := 14) X0 hx (hb hby dc4_0_3) (by decide) (by decide) (by decide) ?_
  refine own_iloadN (pc' := 15) X0 hx rfl (hb hby dc4_0_14) rfl ?_
  obtain ⟨T2, h2, cA2, X2, e2, E2, Ar2, Ex2, st2⟩ := newPE X0 hx hZ (hw _ (List.mem_of_getElem? (i := 10) rfl)) e0 (g := (mkF m 15 #[.val (.ref ar), .val (.int (0 : Int32)), .unset] [(.int (0 : Int32))])) rfl (hb hby dc4_0_15) (n := (0 : Int32)) rfl (by decide) (cap := 0) (by decide) (by decide) (by decide) (by decide) (ad := "[I") (by decide)
  obtain ⟨a2, ga2⟩ : ∃ z, z = h0.size := ⟨_, rfl⟩
  rw [← ga2] at Ar2 Ex2 st2
  have y2 : h0.size ≤ h0.size := K0.1
  have n3 : ar ≠ a2 := Nat.ne_of_lt (ga2.symm ▸ E_ar.lt)
  have E4 : Exa Z h2 ar "[I" := E_ar.ext E2
  have A5 : Arv Z h2 ar kc .int (4 : Int32) [(.int el0), (.int el1), (.int el2), (.int el3)] (.int (0 : Int32)) := A_ar.ext E2
  have fr2 : n0 ≤ a2 := Nat.le_trans Z0 (Nat.le_of_eq ga2.symm)
  have Z6 : n0 ≤ h2.size := Nat.le_trans Z0 E2.1
  have K7 : Keep h0 h2 [] := K0.ext E2
  have A2 : Arv Z h2 a2 cA2 .int (0 : Int32) [] (.int (0 : Int32)) := (Arv.new Ar2 (by decide))
  refine own_by st2 ?_
  show own_Go p e below (Qc4_0 Z ar kc el0 el1 el2 el3 h0 n0) (own_Fr s ({ frames := 1, cells := 1, slots := 0, locals := 40 } : Room).cells ({ frames := 1, cells := 1, slots := 0, locals := 40 } : Room).slots) (T2.setTop (mkF m 17 #[.val (.ref ar), .val (.int (0 : Int32)), .unset] [(.ref a2)]))
  refine own_astoreN (pc' := 18) X2 hx #[.val (.ref ar), .val (.int (0 : Int32)), .val (.ref a2)] rfl rfl (hb hby dc4_0_17) rfl ?_
  refine own_aloadN (pc' := 19) X2 hx rfl rfl (hb hby dc4_0_18) rfl ?_
  refine own_iconst (pc' := 20) X2 hx (0 : Int32) (by decide) (hb hby dc4_0_19) rfl ?_
  refine own_aloadN (pc' := 21) X2 hx rfl rfl (hb hby dc4_0_20) rfl ?_
  refine own_iconst (pc' := 22) X2 hx (0 : Int32) (by decide) (hb hby dc4_0_21) rfl ?_
  refine own_aloadN (pc' := 23) X2 hx rfl rfl (hb hby dc4_0_22) rfl ?_
  obtain ⟨c8, B8, q8, s8, u8, H8, G8⟩ := id A5
  refine own_by (X2.arraylength hx (by rw [e2]; exact B8.1) (State.isArrayOf_alike hZ.alike B8.2.1) (g := (mkF m 23 #[.val (.ref ar), .val (.int (0 : Int32)), .val (.ref a2)] [(.ref ar), (.int (0 : Int32)), (.ref a2), (.int (0 : Int32)), (.ref ar)])) rfl rfl (hb hby dc4_0_23)) ?_
  rw [len_of s8 u8]
  show own_Go p e below (Qc4_0 Z ar kc el0 el1 el2 el3 h0 n0) (own_Fr s ({ frames := 1, cells := 1, slots := 0, locals := 40 } : Room).cells ({ frames := 1, cells := 1, slots := 0, locals := 40 } : Room).slots) (T2.setTop (mkF m 24 #[.val (.ref ar), .val (.int (0 : Int32)), .val (.ref a2)] [(.int (4 : Int32)), (.int (0 : Int32)), (.ref a2), (.int (0 : Int32)), (.ref ar)]))
  refine own_iloadN (pc' := 25) X2 hx rfl (hb hby dc4_0_24) rfl ?_
  obtain ⟨_, _, ⟨T9, L9, k9, n9⟩, -, X9, ⟨Lc9, hQ9, l9, y9, z9⟩, st9⟩ := Jvm.LawKit.callS X2 hx (y := (⟨"java/lang/Math", "min", "(II)I"⟩ : MethodName)) hown (mvT hZ (hw _ (List.mem_of_getElem? (i := 29) rfl))) (mvT hZ (hw _ (List.mem_of_getElem? (i := 30) rfl))) (mvT hZ (hw _ (List.mem_of_getElem? (i := 31) rfl))) (mvT hZ (hw _ (List.mem_of_getElem? (i := 32) rfl))) (by decide) (backOf (W := 4) (rmm4_0 l Z a0 hw []  h2 n0 Z6 ) hZ (hw _ (List.mem_of_getElem? (i := 32) rfl)) (hw _ (List.mem_of_getElem? (i := 31) rfl)) (by decide) (by decide)) (g := (mkF m 25 #[.val (.ref ar), .val (.int (0 : Int32)), .val (.ref a2)] [(.int (0 : Int32)), (.int (4 : Int32)), (.int (0 : Int32)), (.ref a2), (.int (0 : Int32)), (.ref ar)])) rfl (by rw [hml]; rfl) (argsL := [(.int (4 : Int32)), (.int (0 : Int32))]) (rest := [(.int (0 : Int32)), (.ref a2), (.int (0 : Int32)), (.ref ar)]) (lenOf pd_0 rfl) rfl (by show 2 * 0 + _ ≤ _; exact Nat.le_of_eq rfl) (hb hby dc4_0_25) (fun _ _ => ⟨rfl, e2, (by decide : 1 + 0 ≤ _), (by decide : 0 + 0 ≤ _)⟩)
  dsimp only [Pt.U, Pt.locs, Pt.cells, Pt.slots] at X9 l9 y9 z9 st9 hQ9
  subst l9 y9 z9
  obtain ⟨rfl, pp9, N9, e9⟩ := hQ9
  have N9a := Fr.app N0 N9
  refine own_by st9 ?_
  show own_Go p e below (Qc4_0 Z ar kc el0 el1 el2 el3 h0 n0) (own_Fr s ({ frames := 1, cells := 1, slots := 0, locals := 40 } : Room).cells ({ frames := 1, cells := 1, slots := 0, locals := 40 } : Room).slots) (T9.setTop (mkF m 28 #[.val (.ref ar), .val (.int (0 : Int32)), .val (.ref a2)] [(.int (0 : Int32)), (.int (0 : Int32)), (.ref a2), (.int (0 : Int32)), (.ref ar)]))
  obtain ⟨T10, h10, L10, X10, e10, N10, Kc10, A10, st10⟩ := cpA X9 hx hZ hown (hw _ (List.mem_of_getElem? (i := 33) rfl)) (hw _ (List.mem_of_getElem? (i := 36) rfl)) (hw _ (List.mem_of_getElem? (i := 34) rfl)) (hw _ (List.mem_of_getElem? (i := 35) rfl)) e9 A5 A2 (us := []) (Or.inl ⟨rfl, rfl⟩) (sp := (0 : Int32)) (dp := (0 : Int32)) (nn := (0 : Int32)) (by decide) (by decide) (by decide) (by decide) (by decide) rfl (by decide) N9a fr2 (g := (mkF m 28 #[.val (.ref ar), .val (.int (0 : Int32)), .val (.ref a2)] [(.int (0 : Int32)), (.int (0 : Int32)), (.ref a2), (.int (0 : Int32)), (.ref ar)])) rfl (by rw [hml]; rfl) rfl (hb hby dc4_0_28) (by decide) (W := 0) (by show 2 * 0 + _ ≤ _; exact Nat.le_of_eq rfl) (by decide)
  replace A10 : Arv Z h10 a2 cA2 .int (0 : Int32) [] (.int (0 : Int32)) := A10
  have E11 : Exa Z h10 ar "[I" := E4.keep Kc10
  have E12 : Exa Z h10 a2 "[I" := Ex2.keep Kc10
  have A13 : Arv Z h10 ar kc .int (4 : Int32) [(.int el0), (.int el1), (.int el2), (.int el3)] (.int (0 : Int32)) := A5.keep Kc10 (ninS n3 nin0)
  have Z14 : n0 ≤ h10.size := Nat.le_trans Z6 Kc10.1
  have K15 : Keep h0 h10 [] := K7.trans Kc10 (allS (Or.inr (Nat.le_trans y2 (Nat.le_of_eq ga2.symm))) all0)
  refine own_by st10 ?_
  show own_Go p e below (Qc4_0 Z ar kc el0 el1 el2 el3 h0 n0) (own_Fr s ({ frames := 1, cells := 1, slots := 0, locals := 40 } : Room).cells ({ frames := 1, cells := 1, slots := 0, locals := 40 } : Room).slots) (T10.setTop (mkF m 31 #[.val (.ref ar), .val (.int (0 : Int32)), .val (.ref a2)] []))
  refine own_aloadN (pc' := 32) X10 hx rfl rfl (hb hby dc4_0_31) rfl ?_
  refine own_ret X10 hx Bd.returns Bd.notSynchronized (Or.inr (Or.inr (Or.inr (Or.inr ⟨rfl, rfl, rfl⟩)))) (hb hby dc4_0_32) rfl (by decide) (by decide) ?_
  show Qc4_0 Z ar kc el0 el1 el2 el3 h0 n0 _ T10.heap _
  rw [e10]
  exact ⟨a2, cA2, rfl, trivial, N10, K15, Nat.le_trans y2 (Nat.le_of_eq ga2.symm), E12, A10⟩
theorem ef_c4_1 (m : MethodId) (x0 : Addr) : entryFrame m #[(.ref x0), (.int (1 : Int32))] 3 = mkF m 0 #[.val (.ref x0), .val (.int (1 : Int32)), .unset] [] := by first | (simp [entryFrame, mkF, argsToLocals, Value.category, maxLocals]; done) | rfl
def Qc4_1 (Z : State) (ar : Addr) (kc : ClassId) (el0 : Int32) (el1 : Int32) (el2 : Int32) (el3 : Int32) (h0 : Heap) (n0 : Nat) (v : Option Value) (h : Heap) (L : List Loc) : Prop := ∃ q : Addr, ∃ kd : ClassId, v = some (.ref q) ∧ (True) ∧ Fr n0 L ∧ Keep h0 h [] ∧ h0.size ≤ q ∧ Exa Z h q "[I" ∧ Arv Z h q kd .int (1 : Int32) [(.int el0)] (.int (0 : Int32))
set_option maxRecDepth 65536 in
set_option maxHeartbeats 40000000 in
theorem rmc4_1 (l : Launch) (Z : State) (a0 : Array Value) (hw : ∀ d ∈ tables_1, d.before a0 Z = true) (ws : List Jvm.Cond) (ar : Addr) (kc : ClassId) (el0 : Int32) (el1 : Int32) (el2 : Int32) (el3 : Int32) (h0 : Heap) (n0 : Nat) (Z0 : n0 ≤ h0.size) (E_ar : Exa Z h0 ar "[I") (A_ar : Arv Z h0 ar kc .int (4 : Int32) [(.int el0), (.int el1), (.int el2), (.int el3)] (.int (0 : Int32))) :
    MetFree l (⟨"java/util/Arrays", "copyOf", "([II)[I"⟩ : MethodName) (head1 (Jvm.Cond.code (⟨"java/util/Arrays", "copyOf", "([II)[I"⟩ : MethodName) jdk_65_method_123_code 3 (some (.array .int)) :: ws) ({ frames := 1, cells := 1, slots := 1, locals := 40 } : Room)) (fun a U => a = #[(.ref ar), (.int (1 : Int32))] ∧ Z.Warmed39 U.vm ∧ U.heap = h0) (fun _ _ _ _ _ => True) (fun _ U o U' => ∃ v L, o = .returned v ∧ Qc4_1 Z ar kc el0 el1 el2 el3 h0 n0 v U'.heap L ∧ FrameEnd U o U' L ({ frames := 1, cells := 1, slots := 1, locals := 40 } : Room).cells ({ frames := 1, cells := 1, slots := 1, locals := 40 } : Room).slots) := by
  refine MetFree.of_bodySF (plainFor_of_name pn_0) hisR ?_
  intro p e s m args below meth c s₁ Bd hml0 hP hK
  obtain ⟨rfl, hZ, hh⟩ := hP
  have hx := Bd.exec
  have hby := Bd.bytes
  have hml : c.maxLocals = 3 := hml0
  have hown : s.vm.findClass "java/util/Arrays" = some m.cls := findClass_of_methodNamed Bd.named
  have hnm := (name_of_methodNamed Bd.named Bd.method).1
  have X0 : Stand p l e ({ frames := 1, cells := 1, slots := 1, locals := 40 } : Room) s m #[(.ref ar), (.int (1 : Int32))] below meth c s₁ [] 0 0 := Stand.of_body Bd
  have e0 : s₁.heap = h0 := by rw [← hh, Bd.state]; rfl
  have N0 := Fr.nil n0
  change own_Go p e below (Qc4_1 Z ar kc el0 el1 el2 el3 h0 n0) (own_Fr s ({ frames := 1, cells := 1, slots := 1, locals := 40 } : Room).cells ({ frames := 1, cells := 1, slots := 1, locals := 40 } : Room).slots) (s₁.setTop (entryFrame m #[(.ref ar), (.int (1 : Int32))] 3))
  rw [ef_c4_1 m ar]
  have rel0 := rng32 el0
  have rel1 := rng32 el1
  have rel2 := rng32 el2
  have rel3 := rng32 el3
  have K0 : Keep h0 h0 [] := Keep.refl h0 []
  refine own_iloadN (pc' := 1) X0 hx rfl (hb hby dc4_0_0) rfl ?_
  refine own_aloadN (pc' := 2) X0 hx rfl rfl (hb hby dc4_0_1) rfl ?_
  obtain ⟨c1, B1, q1, s1, u1, H1, G1⟩ := id A_ar
  refine own_by (X0.arraylength hx (by rw [e0]; exact B1.1) (State.isArrayOf_alike hZ.alike B1.2.1) (g := (mkF m 2 #[.val (.ref ar), .val (.int (1 : Int32)), .unset] [(.ref ar), (.int (1 : Int32))])) rfl rfl (hb hby dc4_0_2)) ?_
  rw [len_of s1 u1]
  show own_Go p e below (Qc4_1 Z ar kc el0 el1 el2 el3 h0 n0) (own_Fr s ({ frames := 1, cells := 1, slots := 1, locals := 40 } : Room).cells ({ frames := 1, cells := 1, slots := 1, locals := 40 } : Room).slots) (s₁.setTop (mkF m 3 #[.val (.ref ar), .val (.int (1 : Int32)), .unset] [(.int (4 : Int32)), (.int (1 : Int32))]))
  refine own_icmpYes (pc' := 14) X0 hx (hb hby dc4_0_3) (by decide) (by decide) (by decide) ?_
  refine own_iloadN (pc' := 15) X0 hx rfl (hb hby dc4_0_14) rfl ?_
  obtain ⟨T2, h2, cA2, X2, e2, E2, Ar2, Ex2, st2⟩ := newPE X0 hx hZ (hw _ (List.mem_of_getElem? (i := 10) rfl)) e0 (g := (mkF m 15 #[.val (.ref ar), .val (.int (1 : Int32)), .unset] [(.int (1 : Int32))])) rfl (hb hby dc4_0_15) (n := (1 : Int32)) rfl (by decide) (cap := 1) (by decide) (by decide) (by decide) (by decide) (ad := "[I") (by decide)
  obtain ⟨a2, ga2⟩ : ∃ z, z = h0.size := ⟨_, rfl⟩
  rw [← ga2] at Ar2 Ex2 st2
  have y2 : h0.size ≤ h0.size := K0.1
  have n3 : ar ≠ a2 := Nat.ne_of_lt (ga2.symm ▸ E_ar.lt)
  have E4 : Exa Z h2 ar "[I" := E_ar.ext E2
  have A5 : Arv Z h2 ar kc .int (4 : Int32) [(.int el0), (.int el1), (.int el2), (.int el3)] (.int (0 : Int32)) := A_ar.ext E2
  have fr2 : n0 ≤ a2 := Nat.le_trans Z0 (Nat.le_of_eq ga2.symm)
  have Z6 : n0 ≤ h2.size := Nat.le_trans Z0 E2.1
  have K7 : Keep h0 h2 [] := K0.ext E2
  have A2 : Arv Z h2 a2 cA2 .int (1 : Int32) [(.int (0 : Int32))] (.int (0 : Int32)) := (Arv.new Ar2 (by decide)).pad (fun i => pad_rep [] (.int (0 : Int32)) 1 i)
  refine own_by st2 ?_
  show own_Go p e below (Qc4_1 Z ar kc el0 el1 el2 el3 h0 n0) (own_Fr s ({ frames := 1, cells := 1, slots := 1, locals := 40 } : Room).cells ({ frames := 1, cells := 1, slots := 1, locals := 40 } : Room).slots) (T2.setTop (mkF m 17 #[.val (.ref ar), .val (.int (1 : Int32)), .unset] [(.ref a2)]))
  refine own_astoreN (pc' := 18) X2 hx #[.val (.ref ar), .val (.int (1 : Int32)), .val (.ref a2)] rfl rfl (hb hby dc4_0_17) rfl ?_
  refine own_aloadN (pc' := 19) X2 hx rfl rfl (hb hby dc4_0_18) rfl ?_
  refine own_iconst (pc' := 20) X2 hx (0 : Int32) (by decide) (hb hby dc4_0_19) rfl ?_
  refine own_aloadN (pc' := 21) X2 hx rfl rfl (hb hby dc4_0_20) rfl ?_
  refine own_iconst (pc' := 22) X2 hx (0 : Int32) (by decide) (hb hby dc4_0_21) rfl ?_
  refine own_aloadN (pc' := 23) X2 hx rfl rfl (hb hby dc4_0_22) rfl ?_
  obtain ⟨c8, B8, q8, s8, u8, H8, G8⟩ := id A5
  refine own_by (X2.arraylength hx (by rw [e2]; exact B8.1) (State.isArrayOf_alike hZ.alike B8.2.1) (g := (mkF m 23 #[.val (.ref ar), .val (.int (1 : Int32)), .val (.ref a2)] [(.ref ar), (.int (0 : Int32)), (.ref a2), (.int (0 : Int32)), (.ref ar)])) rfl rfl (hb hby dc4_0_23)) ?_
  rw [len_of s8 u8]
  show own_Go p e below (Qc4_1 Z ar kc el0 el1 el2 el3 h0 n0) (own_Fr s ({ frames := 1, cells := 1, slots := 1, locals := 40 } : Room).cells ({ frames := 1, cells := 1, slots := 1, locals := 40 } : Room).slots) (T2.setTop (mkF m 24 #[.val (.ref ar), .val (.int (1 : Int32)), .val (.ref a2)] [(.int (4 : Int32)), (.int (0 : Int32)), (.ref a2), (.int (0 : Int32)), (.ref ar)]))
  refine own_iloadN (pc' := 25) X2 hx rfl (hb hby dc4_0_24) rfl ?_
  obtain ⟨_, _, ⟨T9, L9, k9, n9⟩, -, X9, ⟨Lc9, hQ9, l9, y9, z9⟩, st9⟩ := Jvm.LawKit.callS X2 hx (y := (⟨"java/lang/Math", "min", "(II)I"⟩ : MethodName)) hown (mvT hZ (hw _ (List.mem_of_getElem? (i := 29) rfl))) (mvT hZ (hw _ (List.mem_of_getElem? (i := 30) rfl))) (mvT hZ (hw _ (List.mem_of_getElem? (i := 31) rfl))) (mvT hZ (hw _ (List.mem_of_getElem? (i := 32) rfl))) (by decide) (backOf (W := 4) (rmm4_1 l Z a0 hw []  h2 n0 Z6 ) hZ (hw _ (List.mem_of_getElem? (i := 32) rfl)) (hw _ (List.mem_of_getElem? (i := 31) rfl)) (by decide) (by decide)) (g := (mkF m 25 #[.val (.ref ar), .val (.int (1 : Int32)), .val (.ref a2)] [(.int (1 : Int32)), (.int (4 : Int32)), (.int (0 : Int32)), (.ref a2), (.int (0 : Int32)), (.ref ar)])) rfl (by rw [hml]; rfl) (argsL := [(.int (4 : Int32)), (.int (1 : Int32))]) (rest := [(.int (0 : Int32)), (.ref a2), (.int (0 : Int32)), (.ref ar)]) (lenOf pd_0 rfl) rfl (by show 2 * 0 + _ ≤ _; exact Nat.le_of_eq rfl) (hb hby dc4_0_25) (fun _ _ => ⟨rfl, e2, (by decide : 1 + 0 ≤ _), (by decide : 1 + 0 ≤ _)⟩)
  dsimp only [Pt.U, Pt.locs, Pt.cells, Pt.slots] at X9 l9 y9 z9 st9 hQ9
  subst l9 y9 z9
  obtain ⟨rfl, pp9, N9, e9⟩ := hQ9
  have N9a := Fr.app N0 N9
  refine own_by st9 ?_
  show own_Go p e below (Qc4_1 Z ar kc el0 el1 el2 el3 h0 n0) (own_Fr s ({ frames := 1, cells := 1, slots := 1, locals := 40 } : Room).cells ({ frames := 1, cells := 1, slots := 1, locals := 40 } : Room).slots) (T9.setTop (mkF m 28 #[.val (.ref ar), .val (.int (1 : Int32)), .val (.ref a2)] [(.int (1 : Int32)), (.int (0 : Int32)), (.ref a2), (.int (0 : Int32)), (.ref ar)]))
  obtain ⟨T10, h10, L10, X10, e10, N10, Kc10, A10, st10⟩ := cpA X9 hx hZ hown (hw _ (List.mem_of_getElem? (i := 33) rfl)) (hw _ (List.mem_of_getElem? (i := 36) rfl)) (hw _ (List.mem_of_getElem? (i := 34) rfl)) (hw _ (List.mem_of_getElem? (i := 35) rfl)) e9 A5 A2 (us := [(.int el0)]) (Or.inl ⟨rfl, rfl⟩) (sp := (0 : Int32)) (dp := (0 : Int32)) (nn := (1 : Int32)) (by decide) (by decide) (by decide) (by decide) (by decide) rfl (by decide) N9a fr2 (g := (mkF m 28 #[.val (.ref ar), .val (.int (1 : Int32)), .val (.ref a2)] [(.int (1 : Int32)), (.int (0 : Int32)), (.ref a2), (.int (0 : Int32)), (.ref ar)])) rfl (by rw [hml]; rfl) rfl (hb hby dc4_0_28) (by decide) (W := 0) (by show 2 * 0 + _ ≤ _; exact Nat.le_of_eq rfl) (by decide)
  replace A10 : Arv Z h10 a2 cA2 .int (1 : Int32) [(.int el0)] (.int (0 : Int32)) := A10
  have E11 : Exa Z h10 ar "[I" := E4.keep Kc10
  have E12 : Exa Z h10 a2 "[I" := Ex2.keep Kc10
  have A13 : Arv Z h10 ar kc .int (4 : Int32) [(.int el0), (.int el1), (.int el2), (.int el3)] (.int (0 : Int32)) := A5.keep Kc10 (ninS n3 nin0)
  have Z14 : n0 ≤ h10.size := Nat.le_trans Z6 Kc10.1
  have K15 : Keep h0 h10 [] := K7.trans Kc10 (allS (Or.inr (Nat.le_trans y2 (Nat.le_of_eq ga2.symm))) all0)
  refine own_by st10 ?_
  show own_Go p e below (Qc4_1 Z ar kc el0 el1 el2 el3 h0 n0) (own_Fr s ({ frames := 1, cells := 1, slots := 1, locals := 40 } : Room).cells ({ frames := 1, cells := 1, slots := 1, locals := 40 } : Room).slots) (T10.setTop (mkF m 31 #[.val (.ref ar), .val (.int (1 : Int32)), .val (.ref a2)] []))
  refine own_aloadN (pc' := 32) X10 hx rfl rfl (hb hby dc4_0_31) rfl ?_
  refine own_ret X10 hx Bd.returns Bd.notSynchronized (Or.inr (Or.inr (Or.inr (Or.inr ⟨rfl, rfl, rfl⟩)))) (hb hby dc4_0_32) rfl (by decide) (by decide) ?_
  show Qc4_1 Z ar kc el0 el1 el2 el3 h0 n0 _ T10.heap _
  rw [e10]
  exact ⟨a2, cA2, rfl, trivial, N10, K15, Nat.le_trans y2 (Nat.le_of_eq ga2.symm), E12, A10⟩
theorem ef_c4_2 (m : MethodId) (x0 : Addr) : entryFrame m #[(.ref x0), (.int (2 : Int32))] 3 = mkF m 0 #[.val (.ref x0), .val (.int (2 : Int32)), .unset] [] := by first | (simp [entryFrame, mkF, argsToLocals, Value.category, maxLocals]; done) | rfl
def Qc4_2 (Z : State) (ar : Addr) (kc : ClassId) (el0 : Int32) (el1 : Int32) (el2 : Int32) (el3 : Int32) (h0 : Heap) (n0 : Nat) (v : Option Value) (h : Heap) (L : List Loc) : Prop := ∃ q : Addr, ∃ kd : ClassId, v = some (.ref q) ∧ (True) ∧ Fr n0 L ∧ Keep h0 h [] ∧ h0.size ≤ q ∧ Exa Z h q "[I" ∧ Arv Z h q kd .int (2 : Int32) [(.int el0), (.int el1)] (.int (0 : Int32))
set_option maxRecDepth 65536 in
set_option maxHeartbeats 40000000 in
theorem rmc4_2 (l : Launch) (Z : State) (a0 : Array Value) (hw : ∀ d ∈ tables_1, d.before a0 Z = true) (ws : List Jvm.Cond) (ar : Addr) (kc : ClassId) (el0 : Int32) (el1 : Int32) (el2 : Int32) (el3 : Int32) (h0 : Heap) (n0 : Nat) (Z0 : n0 ≤ h0.size) (E_ar : Exa Z h0 ar "[I") (A_ar : Arv Z h0 ar kc .int (4 : Int32) [(.int el0), (.int el1), (.int el2), (.int el3)] (.int (0 : Int32))) :
    MetFree l (⟨"java/util/Arrays", "copyOf", "([II)[I"⟩ : MethodName) (head1 (Jvm.Cond.code (⟨"java/util/Arrays", "copyOf", "([II)[I"⟩ : MethodName) jdk_65_method_123_code 3 (some (.array .int)) :: ws) ({ frames := 1, cells := 1, slots := 2, locals := 40 } : Room)) (fun a U => a = #[(.ref ar), (.int (2 : Int32))] ∧ Z.Warmed39 U.vm ∧ U.heap = h0) (fun _ _ _ _ _ => True) (fun _ U o U' => ∃ v L, o = .returned v ∧ Qc4_2 Z ar kc el0 el1 el2 el3 h0 n0 v U'.heap L ∧ FrameEnd U o U' L ({ frames := 1, cells := 1, slots := 2, locals := 40 } : Room).cells ({ frames := 1, cells := 1, slots := 2, locals := 40 } : Room).slots) := by
  refine MetFree.of_bodySF (plainFor_of_name pn_0) hisR ?_
  intro p e s m args below meth c s₁ Bd hml0 hP hK
  obtain ⟨rfl, hZ, hh⟩ := hP
  have hx := Bd.exec
  have hby := Bd.bytes
  have hml : c.maxLocals = 3 := hml0
  have hown : s.vm.findClass "java/util/Arrays" = some m.cls := findClass_of_methodNamed Bd.named
  have hnm := (name_of_methodNamed Bd.named Bd.method).1
  have X0 : Stand p l e ({ frames := 1, cells := 1, slots := 2, locals := 40 } : Room) s m #[(.ref ar), (.int (2 : Int32))] below meth c s₁ [] 0 0 := Stand.of_body Bd
  have e0 : s₁.heap = h0 := by rw [← hh, Bd.state]; rfl
  have N0 := Fr.nil n0
  change own_Go p e below (Qc4_2 Z ar kc el0 el1 el2 el3 h0 n0) (own_Fr s ({ frames := 1, cells := 1, slots := 2, locals := 40 } : Room).cells ({ frames := 1, cells := 1, slots := 2, locals := 40 } : Room).slots) (s₁.setTop (entryFrame m #[(.ref ar), (.int (2 : Int32))] 3))
  rw [ef_c4_2 m ar]
  have rel0 := rng32 el0
  have rel1 := rng32 el1
  have rel2 := rng32 el2
  have rel3 := rng32 el3
  have K0 : Keep h0 h0 [] := Keep.refl h0 []
  refine own_iloadN (pc' := 1) X0 hx rfl (hb hby dc4_0_0) rfl ?_
  refine own_aloadN (pc' := 2) X0 hx rfl rfl (hb hby dc4_0_1) rfl ?_
  obtain ⟨c1, B1, q1, s1, u1, H1, G1⟩ := id A_ar
  refine own_by (X0.arraylength hx (by rw [e0]; exact B1.1) (State.isArrayOf_alike hZ.alike B1.2.1) (g := (mkF m 2 #[.val (.ref ar), .val (.int (2 : Int32)), .unset] [(.ref ar), (.int (2 : Int32))])) rfl rfl (hb hby dc4_0_2)) ?_
  rw [len_of s1 u1]
  show own_Go p e below (Qc4_2 Z ar kc el0 el1 el2 el3 h0 n0) (own_Fr s ({ frames := 1, cells := 1, slots := 2, locals := 40 } : Room).cells ({ frames := 1, cells := 1, slots := 2, locals := 40 } : Room).slots) (s₁.setTop (mkF m 3 #[.val (.ref ar), .val (.int (2 : Int32)), .unset] [(.int (4 : Int32)), (.int (2 : Int32))]))
  refine own_icmpYes (pc' := 14) X0 hx (hb hby dc4_0_3) (by decide) (by decide) (by decide) ?_
  refine own_iloadN (pc' := 15) X0 hx rfl (hb hby dc4_0_14) rfl ?_
  obtain ⟨T2, h2, cA2, X2, e2, E2, Ar2, Ex2, st2⟩ := newPE X0 hx hZ (hw _ (List.mem_of_getElem? (i := 10) rfl)) e0 (g := (mkF m 15 #[.val (.ref ar), .val (.int (2 : Int32)), .unset] [(.int (2 : Int32))])) rfl (hb hby dc4_0_15) (n := (2 : Int32)) rfl (by decide) (cap := 2) (by decide) (by decide) (by decide) (by decide) (ad := "[I") (by decide)
  obtain ⟨a2, ga2⟩ : ∃ z, z = h0.size := ⟨_, rfl⟩
  rw [← ga2] at Ar2 Ex2 st2
  have y2 : h0.size ≤ h0.size := K0.1
  have n3 : ar ≠ a2 := Nat.ne_of_lt (ga2.symm ▸ E_ar.lt)
  have E4 : Exa Z h2 ar "[I" := E_ar.ext E2
  have A5 : Arv Z h2 ar kc .int (4 : Int32) [(.int el0), (.int el1), (.int el2), (.int el3)] (.int (0 : Int32)) := A_ar.ext E2
  have fr2 : n0 ≤ a2 := Nat.le_trans Z0 (Nat.le_of_eq ga2.symm)
  have Z6 : n0 ≤ h2.size := Nat.le_trans Z0 E2.1
  have K7 : Keep h0 h2 [] := K0.ext E2
  have A2 : Arv Z h2 a2 cA2 .int (2 : Int32) [(.int (0 : Int32)), (.int (0 : Int32))] (.int (0 : Int32)) := (Arv.new Ar2 (by decide)).pad (fun i => pad_rep [] (.int (0 : Int32)) 2 i)
  refine own_by st2 ?_
  show own_Go p e below (Qc4_2 Z ar kc el0 el1 el2 el3 h0 n0) (own_Fr s ({ frames := 1, cells := 1, slots := 2, locals := 40 } : Room).cells ({ frames := 1, cells := 1, slots := 2, locals := 40 } : Room).slots) (T2.setTop (mkF m 17 #[.val (.ref ar), .val (.int (2 : Int32)), .unset] [(.ref a2)]))
  refine own_astoreN (pc' := 18) X2 hx #[.val (.ref ar), .val (.int (2 : Int32)), .val (.ref a2)] rfl rfl (hb hby dc4_0_17) rfl ?_
  refine own_aloadN (pc' := 19) X2 hx rfl rfl (hb hby dc4_0_18) rfl ?_
  refine own_iconst (pc' := 20) X2 hx (0 : Int32) (by decide) (hb hby dc4_0_19) rfl ?_
  refine own_aloadN (pc' := 21) X2 hx rfl rfl (hb hby dc4_0_20) rfl ?_
  refine own_iconst (pc' := 22) X2 hx (0 : Int32) (by decide) (hb hby dc4_0_21) rfl ?_
  refine own_aloadN (pc' := 23) X2 hx rfl rfl (hb hby dc4_0_22) rfl ?_
  obtain ⟨c8, B8, q8, s8, u8, H8, G8⟩ := id A5
  refine own_by (X2.arraylength hx (by rw [e2]; exact B8.1) (State.isArrayOf_alike hZ.alike B8.2.1) (g := (mkF m 23 #[.val (.ref ar), .val (.int (2 : Int32)), .val (.ref a2)] [(.ref ar), (.int (0 : Int32)), (.ref a2), (.int (0 : Int32)), (.ref ar)])) rfl rfl (hb hby dc4_0_23)) ?_
  rw [len_of s8 u8]
  show own_Go p e below (Qc4_2 Z ar kc el0 el1 el2 el3 h0 n0) (own_Fr s ({ frames := 1, cells := 1, slots := 2, locals := 40 } : Room).cells ({ frames := 1, cells := 1, slots := 2, locals := 40 } : Room).slots) (T2.setTop (mkF m 24 #[.val (.ref ar), .val (.int (2 : Int32)), .val (.ref a2)] [(.int (4 : Int32)), (.int (0 : Int32)), (.ref a2), (.int (0 : Int32)), (.ref ar)]))
  refine own_iloadN (pc' := 25) X2 hx rfl (hb hby dc4_0_24) rfl ?_
  obtain ⟨_, _, ⟨T9, L9, k9, n9⟩, -, X9, ⟨Lc9, hQ9, l9, y9, z9⟩, st9⟩ := Jvm.LawKit.callS X2 hx (y := (⟨"java/lang/Math", "min", "(II)I"⟩ : MethodName)) hown (mvT hZ (hw _ (List.mem_of_getElem? (i := 29) rfl))) (mvT hZ (hw _ (List.mem_of_getElem? (i := 30) rfl))) (mvT hZ (hw _ (List.mem_of_getElem? (i := 31) rfl))) (mvT hZ (hw _ (List.mem_of_getElem? (i := 32) rfl))) (by decide) (backOf (W := 4) (rmm4_2 l Z a0 hw []  h2 n0 Z6 ) hZ (hw _ (List.mem_of_getElem? (i := 32) rfl)) (hw _ (List.mem_of_getElem? (i := 31) rfl)) (by decide) (by decide)) (g := (mkF m 25 #[.val (.ref ar), .val (.int (2 : Int32)), .val (.ref a2)] [(.int (2 : Int32)), (.int (4 : Int32)), (.int (0 : Int32)), (.ref a2), (.int (0 : Int32)), (.ref ar)])) rfl (by rw [hml]; rfl) (argsL := [(.int (4 : Int32)), (.int (2 : Int32))]) (rest := [(.int (0 : Int32)), (.ref a2), (.int (0 : Int32)), (.ref ar)]) (lenOf pd_0 rfl) rfl (by show 2 * 0 + _ ≤ _; exact Nat.le_of_eq rfl) (hb hby dc4_0_25) (fun _ _ => ⟨rfl, e2, (by decide : 1 + 0 ≤ _), (by decide : 2 + 0 ≤ _)⟩)
  dsimp only [Pt.U, Pt.locs, Pt.cells, Pt.slots] at X9 l9 y9 z9 st9 hQ9
  subst l9 y9 z9
  obtain ⟨rfl, pp9, N9, e9⟩ := hQ9
  have N9a := Fr.app N0 N9
  refine own_by st9 ?_
  show own_Go p e below (Qc4_2 Z ar kc el0 el1 el2 el3 h0 n0) (own_Fr s ({ frames := 1, cells := 1, slots := 2, locals := 40 } : Room).cells ({ frames := 1, cells := 1, slots := 2, locals := 40 } : Room).slots) (T9.setTop (mkF m 28 #[.val (.ref ar), .val (.int (2 : Int32)), .val (.ref a2)] [(.int (2 : Int32)), (.int (0 : Int32)), (.ref a2), (.int (0 : Int32)), (.ref ar)]))
  obtain ⟨T10, h10, L10, X10, e10, N10, Kc10, A10, st10⟩ := cpA X9 hx hZ hown (hw _ (List.mem_of_getElem? (i := 33) rfl)) (hw _ (List.mem_of_getElem? (i := 36) rfl)) (hw _ (List.mem_of_getElem? (i := 34) rfl)) (hw _ (List.mem_of_getElem? (i := 35) rfl)) e9 A5 A2 (us := [(.int el0), (.int el1)]) (Or.inl ⟨rfl, rfl⟩) (sp := (0 : Int32)) (dp := (0 : Int32)) (nn := (2 : Int32)) (by decide) (by decide) (by decide) (by decide) (by decide) rfl (by decide) N9a fr2 (g := (mkF m 28 #[.val (.ref ar), .val (.int (2 : Int32)), .val (.ref a2)] [(.int (2 : Int32)), (.int (0 : Int32)), (.ref a2), (.int (0 : Int32)), (.ref ar)])) rfl (by rw [hml]; rfl) rfl (hb hby dc4_0_28) (by decide) (W := 0) (by show 2 * 0 + _ ≤ _; exact Nat.le_of_eq rfl) (by decide)
  replace A10 : Arv Z h10 a2 cA2 .int (2 : Int32) [(.int el0), (.int el1)] (.int (0 : Int32)) := A10
  have E11 : Exa Z h10 ar "[I" := E4.keep Kc10
  have E12 : Exa Z h10 a2 "[I" := Ex2.keep Kc10
  have A13 : Arv Z h10 ar kc .int (4 : Int32) [(.int el0), (.int el1), (.int el2), (.int el3)] (.int (0 : Int32)) := A5.keep Kc10 (ninS n3 nin0)
  have Z14 : n0 ≤ h10.size := Nat.le_trans Z6 Kc10.1
  have K15 : Keep h0 h10 [] := K7.trans Kc10 (allS (Or.inr (Nat.le_trans y2 (Nat.le_of_eq ga2.symm))) all0)
  refine own_by st10 ?_
  show own_Go p e below (Qc4_2 Z ar kc el0 el1 el2 el3 h0 n0) (own_Fr s ({ frames := 1, cells := 1, slots := 2, locals := 40 } : Room).cells ({ frames := 1, cells := 1, slots := 2, locals := 40 } : Room).slots) (T10.setTop (mkF m 31 #[.val (.ref ar), .val (.int (2 : Int32)), .val (.ref a2)] []))
  refine own_aloadN (pc' := 32) X10 hx rfl rfl (hb hby dc4_0_31) rfl ?_
  refine own_ret X10 hx Bd.returns Bd.notSynchronized (Or.inr (Or.inr (Or.inr (Or.inr ⟨rfl, rfl, rfl⟩)))) (hb hby dc4_0_32) rfl (by decide) (by decide) ?_
  show Qc4_2 Z ar kc el0 el1 el2 el3 h0 n0 _ T10.heap _
  rw [e10]
  exact ⟨a2, cA2, rfl, trivial, N10, K15, Nat.le_trans y2 (Nat.le_of_eq ga2.symm), E12, A10⟩
theorem ef_c4_3 (m : MethodId) (x0 : Addr) : entryFrame m #[(.ref x0), (.int (3 : Int32))] 3 = mkF m 0 #[.val (.ref x0), .val (.int (3 : Int32)), .unset] [] := by first | (simp [entryFrame, mkF, argsToLocals, Value.category, maxLocals]; done) | rfl
def Qc4_3 (Z : State) (ar : Addr) (kc : ClassId) (el0 : Int32) (el1 : Int32) (el2 : Int32) (el3 : Int32) (h0 : Heap) (n0 : Nat) (v : Option Value) (h : Heap) (L : List Loc) : Prop := ∃ q : Addr, ∃ kd : ClassId, v = some (.ref q) ∧ (True) ∧ Fr n0 L ∧ Keep h0 h [] ∧ h0.size ≤ q ∧ Exa Z h q "[I" ∧ Arv Z h q kd .int (3 : Int32) [(.int el0), (.int el1), (.int el2)] (.int (0 : Int32))
set_option maxRecDepth 65536 in
set_option maxHeartbeats 40000000 in
theorem rmc4_3 (l : Launch) (Z : State) (a0 : Array Value) (hw : ∀ d ∈ tables_1, d.before a0 Z = true) (ws : List Jvm.Cond) (ar : Addr) (kc : ClassId) (el0 : Int32) (el1 : Int32) (el2 : Int32) (el3 : Int32) (h0 : Heap) (n0 : Nat) (Z0 : n0 ≤ h0.size) (E_ar : Exa Z h0 ar "[I") (A_ar : Arv Z h0 ar kc .int (4 : Int32) [(.int el0), (.int el1), (.int el2), (.int el3)] (.int (0 : Int32))) :
    MetFree l (⟨"java/util/Arrays", "copyOf", "([II)[I"⟩ : MethodName) (head1 (Jvm.Cond.code (⟨"java/util/Arrays", "copyOf", "([II)[I"⟩ : MethodName) jdk_65_method_123_code 3 (some (.array .int)) :: ws) ({ frames := 1, cells := 1, slots := 3, locals := 40 } : Room)) (fun a U => a = #[(.ref ar), (.int (3 : Int32))] ∧ Z.Warmed39 U.vm ∧ U.heap = h0) (fun _ _ _ _ _ => True) (fun _ U o U' => ∃ v L, o = .returned v ∧ Qc4_3 Z ar kc el0 el1 el2 el3 h0 n0 v U'.heap L ∧ FrameEnd U o U' L ({ frames := 1, cells := 1, slots := 3, locals := 40 } : Room).cells ({ frames := 1, cells := 1, slots := 3, locals := 40 } : Room).slots) := by
  refine MetFree.of_bodySF (plainFor_of_name pn_0) hisR ?_
  intro p e s m args below meth c s₁ Bd hml0 hP hK
  obtain ⟨rfl, hZ, hh⟩ := hP
  have hx := Bd.exec
  have hby := Bd.bytes
  have hml : c.maxLocals = 3 := hml0
  have hown : s.vm.findClass "java/util/Arrays" = some m.cls := findClass_of_methodNamed Bd.named
  have hnm := (name_of_methodNamed Bd.named Bd.method).1
  have X0 : Stand p l e ({ frames := 1, cells := 1, slots := 3, locals := 40 } : Room) s m #[(.ref ar), (.int (3 : Int32))] below meth c s₁ [] 0 0 := Stand.of_body Bd
  have e0 : s₁.heap = h0 := by rw [← hh, Bd.state]; rfl
  have N0 := Fr.nil n0
  change own_Go p e below (Qc4_3 Z ar kc el0 el1 el2 el3 h0 n0) (own_Fr s ({ frames := 1, cells := 1, slots := 3, locals := 40 } : Room).cells ({ frames := 1, cells := 1, slots := 3, locals := 40 } : Room).slots) (s₁.setTop (entryFrame m #[(.ref ar), (.int (3 : Int32))] 3))
  rw [ef_c4_3 m ar]
  have rel0 := rng32 el0
  have rel1 := rng32 el1
  have rel2 := rng32 el2
  have rel3 := rng32 el3
  have K0 : Keep h0 h0 [] := Keep.refl h0 []
  refine own_iloadN (pc' := 1) X0 hx rfl (hb hby dc4_0_0) rfl ?_
  refine own_aloadN (pc' := 2) X0 hx rfl rfl (hb hby dc4_0_1) rfl ?_
  obtain ⟨c1, B1, q1, s1, u1, H1, G1⟩ := id A_ar
  refine own_by (X0.arraylength hx (by rw [e0]; exact B1.1) (State.isArrayOf_alike hZ.alike B1.2.1) (g := (mkF m 2 #[.val (.ref ar), .val (.int (3 : Int32)), .unset] [(.ref ar), (.int (3 : Int32))])) rfl rfl (hb hby dc4_0_2)) ?_
  rw [len_of s1 u1]
  show own_Go p e below (Qc4_3 Z ar kc el0 el1 el2 el3 h0 n0) (own_Fr s ({ frames := 1, cells := 1, slots := 3, locals := 40 } : Room).cells ({ frames := 1, cells := 1, slots := 3, locals := 40 } : Room).slots) (s₁.setTop (mkF m 3 #[.val (.ref ar), .val (.int (3 : Int32)), .unset] [(.int (4 : Int32)), (.int (3 : Int32))]))
  refine own_icmpYes (pc' := 14) X0 hx (hb hby dc4_0_3) (by decide) (by decide) (by decide) ?_
  refine own_iloadN (pc' := 15) X0 hx rfl (hb hby dc4_0_14) rfl ?_
  obtain ⟨T2, h2, cA2, X2, e2, E2, Ar2, Ex2, st2⟩ := newPE X0 hx hZ (hw _ (List.mem_of_getElem? (i := 10) rfl)) e0 (g := (mkF m 15 #[.val (.ref ar), .val (.int (3 : Int32)), .unset] [(.int (3 : Int32))])) rfl (hb hby dc4_0_15) (n := (3 : Int32)) rfl (by decide) (cap := 3) (by decide) (by decide) (by decide) (by decide) (ad := "[I") (by decide)
  obtain ⟨a2, ga2⟩ : ∃ z, z = h0.size := ⟨_, rfl⟩
  rw [← ga2] at Ar2 Ex2 st2
  have y2 : h0.size ≤ h0.size := K0.1
  have n3 : ar ≠ a2 := Nat.ne_of_lt (ga2.symm ▸ E_ar.lt)
  have E4 : Exa Z h2 ar "[I" := E_ar.ext E2
  have A5 : Arv Z h2 ar kc .int (4 : Int32) [(.int el0), (.int el1), (.int el2), (.int el3)] (.int (0 : Int32)) := A_ar.ext E2
  have fr2 : n0 ≤ a2 := Nat.le_trans Z0 (Nat.le_of_eq ga2.symm)
  have Z6 : n0 ≤ h2.size := Nat.le_trans Z0 E2.1
  have K7 : Keep h0 h2 [] := K0.ext E2
  have A2 : Arv Z h2 a2 cA2 .int (3 : Int32) [(.int (0 : Int32)), (.int (0 : Int32)), (.int (0 : Int32))] (.int (0 : Int32)) := (Arv.new Ar2 (by decide)).pad (fun i => pad_rep [] (.int (0 : Int32)) 3 i)
  refine own_by st2 ?_
  show own_Go p e below (Qc4_3 Z ar kc el0 el1 el2 el3 h0 n0) (own_Fr s ({ frames := 1, cells := 1, slots := 3, locals := 40 } : Room).cells ({ frames := 1, cells := 1, slots := 3, locals := 40 } : Room).slots) (T2.setTop (mkF m 17 #[.val (.ref ar), .val (.int (3 : Int32)), .unset] [(.ref a2)]))
  refine own_astoreN (pc' := 18) X2 hx #[.val (.ref ar), .val (.int (3 : Int32)), .val (.ref a2)] rfl rfl (hb hby dc4_0_17) rfl ?_
  refine own_aloadN (pc' := 19) X2 hx rfl rfl (hb hby dc4_0_18) rfl ?_
  refine own_iconst (pc' := 20) X2 hx (0 : Int32) (by decide) (hb hby dc4_0_19) rfl ?_
  refine own_aloadN (pc' := 21) X2 hx rfl rfl (hb hby dc4_0_20) rfl ?_
  refine own_iconst (pc' := 22) X2 hx (0 : Int32) (by decide) (hb hby dc4_0_21) rfl ?_
  refine own_aloadN (pc' := 23) X2 hx rfl rfl (hb hby dc4_0_22) rfl ?_
  obtain ⟨c8, B8, q8, s8, u8, H8, G8⟩ := id A5
  refine own_by (X2.arraylength hx (by rw [e2]; exact B8.1) (State.isArrayOf_alike hZ.alike B8.2.1) (g := (mkF m 23 #[.val (.ref ar), .val (.int (3 : Int32)), .val (.ref a2)] [(.ref ar), (.int (0 : Int32)), (.ref a2), (.int (0 : Int32)), (.ref ar)])) rfl rfl (hb hby dc4_0_23)) ?_
  rw [len_of s8 u8]
  show own_Go p e below (Qc4_3 Z ar kc el0 el1 el2 el3 h0 n0) (own_Fr s ({ frames := 1, cells := 1, slots := 3, locals := 40 } : Room).cells ({ frames := 1, cells := 1, slots := 3, locals := 40 } : Room).slots) (T2.setTop (mkF m 24 #[.val (.ref ar), .val (.int (3 : Int32)), .val (.ref a2)] [(.int (4 : Int32)), (.int (0 : Int32)), (.ref a2), (.int (0 : Int32)), (.ref ar)]))
  refine own_iloadN (pc' := 25) X2 hx rfl (hb hby dc4_0_24) rfl ?_
  obtain ⟨_, _, ⟨T9, L9, k9, n9⟩, -, X9, ⟨Lc9, hQ9, l9, y9, z9⟩, st9⟩ := Jvm.LawKit.callS X2 hx (y := (⟨"java/lang/Math", "min", "(II)I"⟩ : MethodName)) hown (mvT hZ (hw _ (List.mem_of_getElem? (i := 29) rfl))) (mvT hZ (hw _ (List.mem_of_getElem? (i := 30) rfl))) (mvT hZ (hw _ (List.mem_of_getElem? (i := 31) rfl))) (mvT hZ (hw _ (List.mem_of_getElem? (i := 32) rfl))) (by decide) (backOf (W := 4) (rmm4_3 l Z a0 hw []  h2 n0 Z6 ) hZ (hw _ (List.mem_of_getElem? (i := 32) rfl)) (hw _ (List.mem_of_getElem? (i := 31) rfl)) (by decide) (by decide)) (g := (mkF m 25 #[.val (.ref ar), .val (.int (3 : Int32)), .val (.ref a2)] [(.int (3 : Int32)), (.int (4 : Int32)), (.int (0 : Int32)), (.ref a2), (.int (0 : Int32)), (.ref ar)])) rfl (by rw [hml]; rfl) (argsL := [(.int (4 : Int32)), (.int (3 : Int32))]) (rest := [(.int (0 : Int32)), (.ref a2), (.int (0 : Int32)), (.ref ar)]) (lenOf pd_0 rfl) rfl (by show 2 * 0 + _ ≤ _; exact Nat.le_of_eq rfl) (hb hby dc4_0_25) (fun _ _ => ⟨rfl, e2, (by decide : 1 + 0 ≤ _), (by decide : 3 + 0 ≤ _)⟩)
  dsimp only [Pt.U, Pt.locs, Pt.cells, Pt.slots] at X9 l9 y9 z9 st9 hQ9
  subst l9 y9 z9
  obtain ⟨rfl, pp9, N9, e9⟩ := hQ9
  have N9a := Fr.app N0 N9
  refine own_by st9 ?_
  show own_Go p e below (Qc4_3 Z ar kc el0 el1 el2 el3 h0 n0) (own_Fr s ({ frames := 1, cells := 1, slots := 3, locals := 40 } : Room).cells ({ frames := 1, cells := 1, slots := 3, locals := 40 } : Room).slots) (T9.setTop (mkF m 28 #[.val (.ref ar), .val (.int (3 : Int32)), .val (.ref a2)] [(.int (3 : Int32)), (.int (0 : Int32)), (.ref a2), (.int (0 : Int32)), (.ref ar)]))
  obtain ⟨T10, h10, L10, X10, e10, N10, Kc10, A10, st10⟩ := cpA X9 hx hZ hown (hw _ (List.mem_of_getElem? (i := 33) rfl)) (hw _ (List.mem_of_getElem? (i := 36) rfl)) (hw _ (List.mem_of_getElem? (i := 34) rfl)) (hw _ (List.mem_of_getElem? (i := 35) rfl)) e9 A5 A2 (us := [(.int el0), (.int el1), (.int el2)]) (Or.inl ⟨rfl, rfl⟩) (sp := (0 : Int32)) (dp := (0 : Int32)) (nn := (3 : Int32)) (by decide) (by decide) (by decide) (by decide) (by decide) rfl (by decide) N9a fr2 (g := (mkF m 28 #[.val (.ref ar), .val (.int (3 : Int32)), .val (.ref a2)] [(.int (3 : Int32)), (.int (0 : Int32)), (.ref a2), (.int (0 : Int32)), (.ref ar)])) rfl (by rw [hml]; rfl) rfl (hb hby dc4_0_28) (by decide) (W := 0) (by show 2 * 0 + _ ≤ _; exact Nat.le_of_eq rfl) (by decide)
  replace A10 : Arv Z h10 a2 cA2 .int (3 : Int32) [(.int el0), (.int el1), (.int el2)] (.int (0 : Int32)) := A10
  have E11 : Exa Z h10 ar "[I" := E4.keep Kc10
  have E12 : Exa Z h10 a2 "[I" := Ex2.keep Kc10
  have A13 : Arv Z h10 ar kc .int (4 : Int32) [(.int el0), (.int el1), (.int el2), (.int el3)] (.int (0 : Int32)) := A5.keep Kc10 (ninS n3 nin0)
  have Z14 : n0 ≤ h10.size := Nat.le_trans Z6 Kc10.1
  have K15 : Keep h0 h10 [] := K7.trans Kc10 (allS (Or.inr (Nat.le_trans y2 (Nat.le_of_eq ga2.symm))) all0)
  refine own_by st10 ?_
  show own_Go p e below (Qc4_3 Z ar kc el0 el1 el2 el3 h0 n0) (own_Fr s ({ frames := 1, cells := 1, slots := 3, locals := 40 } : Room).cells ({ frames := 1, cells := 1, slots := 3, locals := 40 } : Room).slots) (T10.setTop (mkF m 31 #[.val (.ref ar), .val (.int (3 : Int32)), .val (.ref a2)] []))
  refine own_aloadN (pc' := 32) X10 hx rfl rfl (hb hby dc4_0_31) rfl ?_
  refine own_ret X10 hx Bd.returns Bd.notSynchronized (Or.inr (Or.inr (Or.inr (Or.inr ⟨rfl, rfl, rfl⟩)))) (hb hby dc4_0_32) rfl (by decide) (by decide) ?_
  show Qc4_3 Z ar kc el0 el1 el2 el3 h0 n0 _ T10.heap _
  rw [e10]
  exact ⟨a2, cA2, rfl, trivial, N10, K15, Nat.le_trans y2 (Nat.le_of_eq ga2.symm), E12, A10⟩
theorem dc4_4_7 : decode jdk_65_method_123_code 7 = .ok (.invokevirtual 316, 3) := by decide +kernel
theorem dc4_4_10 : decode jdk_65_method_123_code 10 = .ok (.checkcast 317, 3) := by decide +kernel
theorem ef_c4_4 (m : MethodId) (x0 : Addr) : entryFrame m #[(.ref x0), (.int (4 : Int32))] 3 = mkF m 0 #[.val (.ref x0), .val (.int (4 : Int32)), .unset] [] := by first | (simp [entryFrame, mkF, argsToLocals, Value.category, maxLocals]; done) | rfl
def Qc4_4 (Z : State) (ar : Addr) (kc : ClassId) (el0 : Int32) (el1 : Int32) (el2 : Int32) (el3 : Int32) (h0 : Heap) (n0 : Nat) (v : Option Value) (h : Heap) (L : List Loc) : Prop := ∃ q : Addr, ∃ kd : ClassId, v = some (.ref q) ∧ (True) ∧ Fr n0 L ∧ Keep h0 h [] ∧ h0.size ≤ q ∧ Exa Z h q "[I" ∧ Arv Z h q kd .int (4 : Int32) [(.int el0), (.int el1), (.int el2), (.int el3)] (.int (0 : Int32))
set_option maxRecDepth 65536 in
set_option maxHeartbeats 40000000 in
theorem rmc4_4 (l : Launch) (Z : State) (a0 : Array Value) (hw : ∀ d ∈ tables_1, d.before a0 Z = true) (ws : List Jvm.Cond) (ar : Addr) (kc : ClassId) (el0 : Int32) (el1 : Int32) (el2 : Int32) (el3 : Int32) (h0 : Heap) (n0 : Nat) (Z0 : n0 ≤ h0.size) (E_ar : Exa Z h0 ar "[I") (A_ar : Arv Z h0 ar kc .int (4 : Int32) [(.int el0), (.int el1), (.int el2), (.int el3)] (.int (0 : Int32))) :
    MetFree l (⟨"java/util/Arrays", "copyOf", "([II)[I"⟩ : MethodName) (head1 (Jvm.Cond.code (⟨"java/util/Arrays", "copyOf", "([II)[I"⟩ : MethodName) jdk_65_method_123_code 3 (some (.array .int)) :: ws) ({ frames := 1, cells := 1, slots := 4, locals := 40 } : Room)) (fun a U => a = #[(.ref ar), (.int (4 : Int32))] ∧ Z.Warmed39 U.vm ∧ U.heap = h0) (fun _ _ _ _ _ => True) (fun _ U o U' => ∃ v L, o = .returned v ∧ Qc4_4 Z ar kc el0 el1 el2 el3 h0 n0 v U'.heap L ∧ FrameEnd U o U' L ({ frames := 1, cells := 1, slots := 4, locals := 40 } : Room).cells ({ frames := 1, cells := 1, slots := 4, locals := 40 } : Room).slots) := by
  refine MetFree.of_bodySF (plainFor_of_name pn_0) hisR ?_
  intro p e s m args below meth c s₁ Bd hml0 hP hK
  obtain ⟨rfl, hZ, hh⟩ := hP
  have hx := Bd.exec
  have hby := Bd.bytes
  have hml : c.maxLocals = 3 := hml0
  have hown : s.vm.findClass "java/util/Arrays" = some m.cls := findClass_of_methodNamed Bd.named
  have hnm := (name_of_methodNamed Bd.named Bd.method).1
  have X0 : Stand p l e ({ frames := 1, cells := 1, slots := 4, locals := 40 } : Room) s m #[(.ref ar), (.int (4 : Int32))] below meth c s₁ [] 0 0 := Stand.of_body Bd
  have e0 : s₁.heap = h0 := by rw [← hh, Bd.state]; rfl
  have N0 := Fr.nil n0
  change own_Go p e below (Qc4_4 Z ar kc el0 el1 el2 el3 h0 n0) (own_Fr s ({ frames := 1, cells := 1, slots := 4, locals := 40 } : Room).cells ({ frames := 1, cells := 1, slots := 4, locals := 40 } : Room).slots) (s₁.setTop (entryFrame m #[(.ref ar), (.int (4 : Int32))] 3))
  rw [ef_c4_4 m ar]
  have rel0 := rng32 el0
  have rel1 := rng32 el1
  have rel2 := rng32 el2
  have rel3 := rng32 el3
  have K0 : Keep h0 h0 [] := Keep.refl h0 []
  refine own_iloadN (pc' := 1) X0 hx rfl (hb hby dc4_0_0) rfl ?_
  refine own_aloadN (pc' := 2) X0 hx rfl rfl (hb hby dc4_0_1) rfl ?_
  obtain ⟨c1, B1, q1, s1, u1, H1, G1⟩ := id A_ar
  refine own_by (X0.arraylength hx (by rw [e0]; exact B1.1) (State.isArrayOf_alike hZ.alike B1.2.1) (g := (mkF m 2 #[.val (.ref ar), .val (.int (4 : Int32)), .unset] [(.ref ar), (.int (4 : Int32))])) rfl rfl (hb hby dc4_0_2)) ?_
  rw [len_of s1 u1]
  show own_Go p e below (Qc4_4 Z ar kc el0 el1 el2 el3 h0 n0) (own_Fr s ({ frames := 1, cells := 1, slots := 4, locals := 40 } : Room).cells ({ frames := 1, cells := 1, slots := 4, locals := 40 } : Room).slots) (s₁.setTop (mkF m 3 #[.val (.ref ar), .val (.int (4 : Int32)), .unset] [(.int (4 : Int32)), (.int (4 : Int32))]))
  refine own_icmpNo (pc' := 6) X0 hx (by decide) (hb hby dc4_0_3) rfl ?_
  refine own_aloadN (pc' := 7) X0 hx rfl rfl (hb hby dc4_0_6) rfl ?_
  obtain ⟨T2, h2, X2, e2, E2, Ar2, Ex2, st2⟩ := cloneH X0 hx hZ hown (hw _ (List.mem_of_getElem? (i := 42) rfl)) (hw _ (List.mem_of_getElem? (i := 43) rfl)) (hw _ (List.mem_of_getElem? (i := 47) rfl)) (hw _ (List.mem_of_getElem? (i := 45) rfl)) (hw _ (List.mem_of_getElem? (i := 46) rfl)) (hw _ (List.mem_of_getElem? (i := 48) rfl)) e0 A_ar.arh E_ar (g := (mkF m 7 #[.val (.ref ar), .val (.int (4 : Int32)), .unset] [(.ref ar)])) rfl (by rw [hml]; rfl) rfl (hb hby dc4_4_7) (by decide) (W := 0) (cap := 4) (by show 2 * 0 + _ ≤ _; exact Nat.le_of_eq rfl) (by decide) (by decide) (by decide) (by decide)
  obtain ⟨a2, ga2⟩ : ∃ z, z = h0.size := ⟨_, rfl⟩
  rw [← ga2] at Ar2 Ex2 st2
  have A2 : Arv Z h2 a2 kc .int (4 : Int32) [(.int el0), (.int el1), (.int el2), (.int el3)] (.int (0 : Int32)) := Ar2
  have y2 : h0.size ≤ h0.size := K0.1
  have n3 : ar ≠ a2 := Nat.ne_of_lt (ga2.symm ▸ E_ar.lt)
  have E4 : Exa Z h2 ar "[I" := E_ar.ext E2
  have A5 : Arv Z h2 ar kc .int (4 : Int32) [(.int el0), (.int el1), (.int el2), (.int el3)] (.int (0 : Int32)) := A_ar.ext E2
  have fr2 : n0 ≤ a2 := Nat.le_trans Z0 (Nat.le_of_eq ga2.symm)
  have Z6 : n0 ≤ h2.size := Nat.le_trans Z0 E2.1
  have K7 : Keep h0 h2 [] := K0.ext E2
  refine own_by st2 ?_
  show own_Go p e below (Qc4_4 Z ar kc el0 el1 el2 el3 h0 n0) (own_Fr s ({ frames := 1, cells := 1, slots := 4, locals := 40 } : Room).cells ({ frames := 1, cells := 1, slots := 4, locals := 40 } : Room).slots) (T2.setTop (mkF m 10 #[.val (.ref ar), .val (.int (4 : Int32)), .unset] [(.ref a2)]))
  obtain ⟨T8, X8, e8, st8⟩ := castY X2 hx hZ hown (hw _ (List.mem_of_getElem? (i := 49) rfl)) e2 (Ins.self Ex2) (g := (mkF m 10 #[.val (.ref ar), .val (.int (4 : Int32)), .unset] [(.ref a2)])) rfl rfl (hb hby dc4_4_10)
  refine own_by st8 ?_
  show own_Go p e below (Qc4_4 Z ar kc el0 el1 el2 el3 h0 n0) (own_Fr s ({ frames := 1, cells := 1, slots := 4, locals := 40 } : Room).cells ({ frames := 1, cells := 1, slots := 4, locals := 40 } : Room).slots) (T8.setTop (mkF m 13 #[.val (.ref ar), .val (.int (4 : Int32)), .unset] [(.ref a2)]))
  refine own_ret X8 hx Bd.returns Bd.notSynchronized (Or.inr (Or.inr (Or.inr (Or.inr ⟨rfl, rfl, rfl⟩)))) (hb hby dc4_0_13) rfl (by decide) (by decide) ?_
  show Qc4_4 Z ar kc el0 el1 el2 el3 h0 n0 _ T8.heap _
  rw [e8]
  exact ⟨a2, kc, rfl, trivial, N0, K7, Nat.le_trans y2 (Nat.le_of_eq ga2.symm), Ex2, A2⟩
theorem ef_c8_5 (m : MethodId) (x0 : Addr) : entryFrame m #[(.ref x0), (.int (5 : Int32))] 3 = mkF m 0 #[.val (.ref x0), .val (.int (5 : Int32)), .unset] [] := by first | (simp [entryFrame, mkF, argsToLocals, Value.category, maxLocals]; done) | rfl
def Qc8_5 (Z : State) (ar : Addr) (kc : ClassId) (el0 : Int32) (el1 : Int32) (el2 : Int32) (el3 : Int32) (el4 : Int32) (el5 : Int32) (el6 : Int32) (el7 : Int32) (h0 : Heap) (n0 : Nat) (v : Option Value) (h : Heap) (L : List Loc) : Prop := ∃ q : Addr, ∃ kd : ClassId, v = some (.ref q) ∧ (True) ∧ Fr n0 L ∧ Keep h0 h [] ∧ h0.size ≤ q ∧ Exa Z h q "[I" ∧ Arv Z h q kd .int (5 : Int32) [(.int el0), (.int el1), (.int el2), (.int el3), (.int el4)] (.int (0 : Int32))
set_option maxRecDepth 65536 in
set_option maxHeartbeats 40000000 in
theorem rmc8_5 (l : Launch) (Z : State) (a0 : Array Value) (hw : ∀ d ∈ tables_1, d.before a0 Z = true) (ws : List Jvm.Cond) (ar : Addr) (kc : ClassId) (el0 : Int32) (el1 : Int32) (el2 : Int32) (el3 : Int32) (el4 : Int32) (el5 : Int32) (el6 : Int32) (el7 : Int32) (h0 : Heap) (n0 : Nat) (Z0 : n0 ≤ h0.size) (E_ar : Exa Z h0 ar "[I") (A_ar : Arv Z h0 ar kc .int (8 : Int32) [(.int el0), (.int el1), (.int el2), (.int el3), (.int el4), (.int el5), (.int el6), (.int el7)] (.int (0 : Int32))) :
    MetFree l (⟨"java/util/Arrays", "copyOf", "([II)[I"⟩ : MethodName) (head1 (Jvm.Cond.code (⟨"java/util/Arrays", "copyOf", "([II)[I"⟩ : MethodName) jdk_65_method_123_code 3 (some (.array .int)) :: ws) ({ frames := 1, cells := 1, slots := 5, locals := 40 } : Room)) (fun a U => a = #[(.ref ar), (.int (5 : Int32))] ∧ Z.Warmed39 U.vm ∧ U.heap = h0) (fun _ _ _ _ _ => True) (fun _ U o U' => ∃ v L, o = .returned v ∧ Qc8_5 Z ar kc el0 el1 el2 el3 el4 el5 el6 el7 h0 n0 v U'.heap L ∧ FrameEnd U o U' L ({ frames := 1, cells := 1, slots := 5, locals := 40 } : Room).cells ({ frames := 1, cells := 1, slots := 5, locals := 40 } : Room).slots) := by
  refine MetFree.of_bodySF (plainFor_of_name pn_0) hisR ?_
  intro p e s m args below meth c s₁ Bd hml0 hP hK
  obtain ⟨rfl, hZ, hh⟩ := hP
  have hx := Bd.exec
  have hby := Bd.bytes
  have hml : c.maxLocals = 3 := hml0
  have hown : s.vm.findClass "java/util/Arrays" = some m.cls := findClass_of_methodNamed Bd.named
  have hnm := (name_of_methodNamed Bd.named Bd.method).1
  have X0 : Stand p l e ({ frames := 1, cells := 1, slots := 5, locals := 40 } : Room) s m #[(.ref ar), (.int (5 : Int32))] below meth c s₁ [] 0 0 := Stand.of_body Bd
  have e0 : s₁.heap = h0 := by rw [← hh, Bd.state]; rfl
  have N0 := Fr.nil n0
  change own_Go p e below (Qc8_5 Z ar kc el0 el1 el2 el3 el4 el5 el6 el7 h0 n0) (own_Fr s ({ frames := 1, cells := 1, slots := 5, locals := 40 } : Room).cells ({ frames := 1, cells := 1, slots := 5, locals := 40 } : Room).slots) (s₁.setTop (entryFrame m #[(.ref ar), (.int (5 : Int32))] 3))
  rw [ef_c8_5 m ar]
  have rel0 := rng32 el0
  have rel1 := rng32 el1
  have rel2 := rng32 el2
  have rel3 := rng32 el3
  have rel4 := rng32 el4
  have rel5 := rng32 el5
  have rel6 := rng32 el6
  have rel7 := rng32 el7
  have K0 : Keep h0 h0 [] := Keep.refl h0 []
  refine own_iloadN (pc' := 1) X0 hx rfl (hb hby dc4_0_0) rfl ?_
  refine own_aloadN (pc' := 2) X0 hx rfl rfl (hb hby dc4_0_1) rfl ?_
  obtain ⟨c1, B1, q1, s1, u1, H1, G1⟩ := id A_ar
  refine own_by (X0.arraylength hx (by rw [e0]; exact B1.1) (State.isArrayOf_alike hZ.alike B1.2.1) (g := (mkF m 2 #[.val (.ref ar), .val (.int (5 : Int32)), .unset] [(.ref ar), (.int (5 : Int32))])) rfl rfl (hb hby dc4_0_2)) ?_
  rw [len_of s1 u1]
  show own_Go p e below (Qc8_5 Z ar kc el0 el1 el2 el3 el4 el5 el6 el7 h0 n0) (own_Fr s ({ frames := 1, cells := 1, slots := 5, locals := 40 } : Room).cells ({ frames := 1, cells := 1, slots := 5, locals := 40 } : Room).slots) (s₁.setTop (mkF m 3 #[.val (.ref ar), .val (.int (5 : Int32)), .unset] [(.int (8 : Int32)), (.int (5 : Int32))]))
  refine own_icmpYes (pc' := 14) X0 hx (hb hby dc4_0_3) (by decide) (by decide) (by decide) ?_
  refine own_iloadN (pc' := 15) X0 hx rfl (hb hby dc4_0_14) rfl ?_
  obtain ⟨T2, h2, cA2, X2, e2, E2, Ar2, Ex2, st2⟩ := newPE X0 hx hZ (hw _ (List.mem_of_getElem? (i := 10) rfl)) e0 (g := (mkF m 15 #[.val (.ref ar), .val (.int (5 : Int32)), .unset] [(.int (5 : Int32))])) rfl (hb hby dc4_0_15) (n := (5 : Int32)) rfl (by decide) (cap := 5) (by decide) (by decide) (by decide) (by decide) (ad := "[I") (by decide)
  obtain ⟨a2, ga2⟩ : ∃ z, z = h0.size := ⟨_, rfl⟩
  rw [← ga2] at Ar2 Ex2 st2
  have y2 : h0.size ≤ h0.size := K0.1
  have n3 : ar ≠ a2 := Nat.ne_of_lt (ga2.symm ▸ E_ar.lt)
  have E4 : Exa Z h2 ar "[I" := E_ar.ext E2
  have A5 : Arv Z h2 ar kc .int (8 : Int32) [(.int el0), (.int el1), (.int el2), (.int el3), (.int el4), (.int el5), (.int el6), (.int el7)] (.int (0 : Int32)) := A_ar.ext E2
  have fr2 : n0 ≤ a2 := Nat.le_trans Z0 (Nat.le_of_eq ga2.symm)
  have Z6 : n0 ≤ h2.size := Nat.le_trans Z0 E2.1
  have K7 : Keep h0 h2 [] := K0.ext E2
  have A2 : Arv Z h2 a2 cA2 .int (5 : Int32) [(.int (0 : Int32)), (.int (0 : Int32)), (.int (0 : Int32)), (.int (0 : Int32)), (.int (0 : Int32))] (.int (0 : Int32)) := (Arv.new Ar2 (by decide)).pad (fun i => pad_rep [] (.int (0 : Int32)) 5 i)
  refine own_by st2 ?_
  show own_Go p e below (Qc8_5 Z ar kc el0 el1 el2 el3 el4 el5 el6 el7 h0 n0) (own_Fr s ({ frames := 1, cells := 1, slots := 5, locals := 40 } : Room).cells ({ frames := 1, cells := 1, slots := 5, locals := 40 } : Room).slots) (T2.setTop (mkF m 17 #[.val (.ref ar), .val (.int (5 : Int32)), .unset] [(.ref a2)]))
  refine own_astoreN (pc' := 18) X2 hx #[.val (.ref ar), .val (.int (5 : Int32)), .val (.ref a2)] rfl rfl (hb hby dc4_0_17) rfl ?_
  refine own_aloadN (pc' := 19) X2 hx rfl rfl (hb hby dc4_0_18) rfl ?_
  refine own_iconst (pc' := 20) X2 hx (0 : Int32) (by decide) (hb hby dc4_0_19) rfl ?_
  refine own_aloadN (pc' := 21) X2 hx rfl rfl (hb hby dc4_0_20) rfl ?_
  refine own_iconst (pc' := 22) X2 hx (0 : Int32) (by decide) (hb hby dc4_0_21) rfl ?_
  refine own_aloadN (pc' := 23) X2 hx rfl rfl (hb hby dc4_0_22) rfl ?_
  obtain ⟨c8, B8, q8, s8, u8, H8, G8⟩ := id A5
  refine own_by (X2.arraylength hx (by rw [e2]; exact B8.1) (State.isArrayOf_alike hZ.alike B8.2.1) (g := (mkF m 23 #[.val (.ref ar), .val (.int (5 : Int32)), .val (.ref a2)] [(.ref ar), (.int (0 : Int32)), (.ref a2), (.int (0 : Int32)), (.ref ar)])) rfl rfl (hb hby dc4_0_23)) ?_
  rw [len_of s8 u8]
  show own_Go p e below (Qc8_5 Z ar kc el0 el1 el2 el3 el4 el5 el6 el7 h0 n0) (own_Fr s ({ frames := 1, cells := 1, slots := 5, locals := 40 } : Room).cells ({ frames := 1, cells := 1, slots := 5, locals := 40 } : Room).slots) (T2.setTop (mkF m 24 #[.val (.ref ar), .val (.int (5 : Int32)), .val (.ref a2)] [(.int (8 : Int32)), (.int (0 : Int32)), (.ref a2), (.int (0 : Int32)), (.ref ar)]))
  refine own_iloadN (pc' := 25) X2 hx rfl (hb hby dc4_0_24) rfl ?_
  obtain ⟨_, _, ⟨T9, L9, k9, n9⟩, -, X9, ⟨Lc9, hQ9, l9, y9, z9⟩, st9⟩ := Jvm.LawKit.callS X2 hx (y := (⟨"java/lang/Math", "min", "(II)I"⟩ : MethodName)) hown (mvT hZ (hw _ (List.mem_of_getElem? (i := 29) rfl))) (mvT hZ (hw _ (List.mem_of_getElem? (i := 30) rfl))) (mvT hZ (hw _ (List.mem_of_getElem? (i := 31) rfl))) (mvT hZ (hw _ (List.mem_of_getElem? (i := 32) rfl))) (by decide) (backOf (W := 4) (rmm8_5 l Z a0 hw []  h2 n0 Z6 ) hZ (hw _ (List.mem_of_getElem? (i := 32) rfl)) (hw _ (List.mem_of_getElem? (i := 31) rfl)) (by decide) (by decide)) (g := (mkF m 25 #[.val (.ref ar), .val (.int (5 : Int32)), .val (.ref a2)] [(.int (5 : Int32)), (.int (8 : Int32)), (.int (0 : Int32)), (.ref a2), (.int (0 : Int32)), (.ref ar)])) rfl (by rw [hml]; rfl) (argsL := [(.int (8 : Int32)), (.int (5 : Int32))]) (rest := [(.int (0 : Int32)), (.ref a2), (.int (0 : Int32)), (.ref ar)]) (lenOf pd_0 rfl) rfl (by show 2 * 0 + _ ≤ _; exact Nat.le_of_eq rfl) (hb hby dc4_0_25) (fun _ _ => ⟨rfl, e2, (by decide : 1 + 0 ≤ _), (by decide : 5 + 0 ≤ _)⟩)
  dsimp only [Pt.U, Pt.locs, Pt.cells, Pt.slots] at X9 l9 y9 z9 st9 hQ9
  subst l9 y9 z9
  obtain ⟨rfl, pp9, N9, e9⟩ := hQ9
  have N9a := Fr.app N0 N9
  refine own_by st9 ?_
  show own_Go p e below (Qc8_5 Z ar kc el0 el1 el2 el3 el4 el5 el6 el7 h0 n0) (own_Fr s ({ frames := 1, cells := 1, slots := 5, locals := 40 } : Room).cells ({ frames := 1, cells := 1, slots := 5, locals := 40 } : Room).slots) (T9.setTop (mkF m 28 #[.val (.ref ar), .val (.int (5 : Int32)), .val (.ref a2)] [(.int (5 : Int32)), (.int (0 : Int32)), (.ref a2), (.int (0 : Int32)), (.ref ar)]))
  obtain ⟨T10, h10, L10, X10, e10, N10, Kc10, A10, st10⟩ := cpA X9 hx hZ hown (hw _ (List.mem_of_getElem? (i := 33) rfl)) (hw _ (List.mem_of_getElem? (i := 36) rfl)) (hw _ (List.mem_of_getElem? (i := 34) rfl)) (hw _ (List.mem_of_getElem? (i := 35) rfl)) e9 A5 A2 (us := [(.int el0), (.int el1), (.int el2), (.int el3), (.int el4)]) (Or.inl ⟨rfl, rfl⟩) (sp := (0 : Int32)) (dp := (0 : Int32)) (nn := (5 : Int32)) (by decide) (by decide) (by decide) (by decide) (by decide) rfl (by decide) N9a fr2 (g := (mkF m 28 #[.val (.ref ar), .val (.int (5 : Int32)), .val (.ref a2)] [(.int (5 : Int32)), (.int (0 : Int32)), (.ref a2), (.int (0 : Int32)), (.ref ar)])) rfl (by rw [hml]; rfl) rfl (hb hby dc4_0_28) (by decide) (W := 0) (by show 2 * 0 + _ ≤ _; exact Nat.le_of_eq rfl) (by decide)
  replace A10 : Arv Z h10 a2 cA2 .int (5 : Int32) [(.int el0), (.int el1), (.int el2), (.int el3), (.int el4)] (.int (0 : Int32)) := A10
  have E11 : Exa Z h10 ar "[I" := E4.keep Kc10
  have E12 : Exa Z h10 a2 "[I" := Ex2.keep Kc10
  have A13 : Arv Z h10 ar kc .int (8 : Int32) [(.int el0), (.int el1), (.int el2), (.int el3), (.int el4), (.int el5), (.int el6), (.int el7)] (.int (0 : Int32)) := A5.keep Kc10 (ninS n3 nin0)
  have Z14 : n0 ≤ h10.size := Nat.le_trans Z6 Kc10.1
  have K15 : Keep h0 h10 [] := K7.trans Kc10 (allS (Or.inr (Nat.le_trans y2 (Nat.le_of_eq ga2.symm))) all0)
  refine own_by st10 ?_
  show own_Go p e below (Qc8_5 Z ar kc el0 el1 el2 el3 el4 el5 el6 el7 h0 n0) (own_Fr s ({ frames := 1, cells := 1, slots := 5, locals := 40 } : Room).cells ({ frames := 1, cells := 1, slots := 5, locals := 40 } : Room).slots) (T10.setTop (mkF m 31 #[.val (.ref ar), .val (.int (5 : Int32)), .val (.ref a2)] []))
  refine own_aloadN (pc' := 32) X10 hx rfl rfl (hb hby dc4_0_31) rfl ?_
  refine own_ret X10 hx Bd.returns Bd.notSynchronized (Or.inr (Or.inr (Or.inr (Or.inr ⟨rfl, rfl, rfl⟩)))) (hb hby dc4_0_32) rfl (by decide) (by decide) ?_
  show Qc8_5 Z ar kc el0 el1 el2 el3 el4 el5 el6 el7 h0 n0 _ T10.heap _
  rw [e10]
  exact ⟨a2, cA2, rfl, trivial, N10, K15, Nat.le_trans y2 (Nat.le_of_eq ga2.symm), E12, A10⟩
theorem ef_c4_8 (m : MethodId) (x0 : Addr) : entryFrame m #[(.ref x0), (.int (8 : Int32))] 3 = mkF m 0 #[.val (.ref x0), .val (.int (8 : Int32)), .unset] [] := by first | (simp [entryFrame, mkF, argsToLocals, Value.category, maxLocals]; done) | rfl
def Qc4_8 (Z : State) (ar : Addr) (kc : ClassId) (el0 : Int32) (el1 : Int32) (el2 : Int32) (el3 : Int32) (h0 : Heap) (n0 : Nat) (v : Option Value) (h : Heap) (L : List Loc) : Prop := ∃ q : Addr, ∃ kd : ClassId, v = some (.ref q) ∧ (True) ∧ Fr n0 L ∧ Keep h0 h [] ∧ h0.size ≤ q ∧ Exa Z h q "[I" ∧ Arv Z h q kd .int (8 : Int32) [(.int el0), (.int el1), (.int el2), (.int el3), (.int (0 : Int32)), (.int (0 : Int32)), (.int (0 : Int32)), (.int (0 : Int32))] (.int (0 : Int32))
set_option maxRecDepth 65536 in
set_option maxHeartbeats 40000000 in
theorem rmc4_8 (l : Launch) (Z : State) (a0 : Array Value) (hw : ∀ d ∈ tables_1, d.before a0 Z = true) (ws : List Jvm.Cond) (ar : Addr) (kc : ClassId) (el0 : Int32) (el1 : Int32) (el2 : Int32) (el3 : Int32) (h0 : Heap) (n0 : Nat) (Z0 : n0 ≤ h0.size) (E_ar : Exa Z h0 ar "[I") (A_ar : Arv Z h0 ar kc .int (4 : Int32) [(.int el0), (.int el1), (.int el2), (.int el3)] (.int (0 : Int32))) :
    MetFree l (⟨"java/util/Arrays", "copyOf", "([II)[I"⟩ : MethodName) (head1 (Jvm.Cond.code (⟨"java/util/Arrays", "copyOf", "([II)[I"⟩ : MethodName) jdk_65_method_123_code 3 (some (.array .int)) :: ws) ({ frames := 1, cells := 1, slots := 8, locals := 40 } : Room)) (fun a U => a = #[(.ref ar), (.int (8 : Int32))] ∧ Z.Warmed39 U.vm ∧ U.heap = h0) (fun _ _ _ _ _ => True) (fun _ U o U' => ∃ v L, o = .returned v ∧ Qc4_8 Z ar kc el0 el1 el2 el3 h0 n0 v U'.heap L ∧ FrameEnd U o U' L ({ frames := 1, cells := 1, slots := 8, locals := 40 } : Room).cells ({ frames := 1, cells := 1, slots := 8, locals := 40 } : Room).slots) := by
  refine MetFree.of_bodySF (plainFor_of_name pn_0) hisR ?_
  intro p e s m args below meth c s₁ Bd hml0 hP hK
  obtain ⟨rfl, hZ, hh⟩ := hP
  have hx := Bd.exec
  have hby := Bd.bytes
  have hml : c.maxLocals = 3 := hml0
  have hown : s.vm.findClass "java/util/Arrays" = some m.cls := findClass_of_methodNamed Bd.named
  have hnm := (name_of_methodNamed Bd.named Bd.method).1
  have X0 : Stand p l e ({ frames := 1, cells := 1, slots := 8, locals := 40 } : Room) s m #[(.ref ar), (.int (8 : Int32))] below meth c s₁ [] 0 0 := Stand.of_body Bd
  have e0 : s₁.heap = h0 := by rw [← hh, Bd.state]; rfl
  have N0 := Fr.nil n0
  change own_Go p e below (Qc4_8 Z ar kc el0 el1 el2 el3 h0 n0) (own_Fr s ({ frames := 1, cells := 1, slots := 8, locals := 40 } : Room).cells ({ frames := 1, cells := 1, slots := 8, locals := 40 } : Room).slots) (s₁.setTop (entryFrame m #[(.ref ar), (.int (8 : Int32))] 3))
  rw [ef_c4_8 m ar]
  have rel0 := rng32 el0
  have rel1 := rng32 el1
  have rel2 := rng32 el2
  have rel3 := rng32 el3
  have K0 : Keep h0 h0 [] := Keep.refl h0 []
  refine own_iloadN (pc' := 1) X0 hx rfl (hb hby dc4_0_0) rfl ?_
  refine own_aloadN (pc' := 2) X0 hx rfl rfl (hb hby dc4_0_1) rfl ?_
  obtain ⟨c1, B1, q1, s1, u1, H1, G1⟩ := id A_ar
  refine own_by (X0.arraylength hx (by rw [e0]; exact B1.1) (State.isArrayOf_alike hZ.alike B1.2.1) (g := (mkF m 2 #[.val (.ref ar), .val (.int (8 : Int32)), .unset] [(.ref ar), (.int (8 : Int32))])) rfl rfl (hb hby dc4_0_2)) ?_
  rw [len_of s1 u1]
  show own_Go p e below (Qc4_8 Z ar kc el0 el1 el2 el3 h0 n0) (own_Fr s ({ frames := 1, cells := 1, slots := 8, locals := 40 } : Room).cells ({ frames := 1, cells := 1, slots := 8, locals := 40 } : Room).slots) (s₁.setTop (mkF m 3 #[.val (.ref ar), .val (.int (8 : Int32)), .unset] [(.int (4 : Int32)), (.int (8 : Int32))]))
  refine own_icmpYes (pc' := 14) X0 hx (hb hby dc4_0_3) (by decide) (by decide) (by decide) ?_
  refine own_iloadN (pc' := 15) X0 hx rfl (hb hby dc4_0_14) rfl ?_
  obtain ⟨T2, h2, cA2, X2, e2, E2, Ar2, Ex2, st2⟩ := newPE X0 hx hZ (hw _ (List.mem_of_getElem? (i := 10) rfl)) e0 (g := (mkF m 15 #[.val (.ref ar), .val (.int (8 : Int32)), .unset] [(.int (8 : Int32))])) rfl (hb hby dc4_0_15) (n := (8 : Int32)) rfl (by decide) (cap := 8) (by decide) (by decide) (by decide) (by decide) (ad := "[I") (by decide)
  obtain ⟨a2, ga2⟩ : ∃ z, z = h0.size := ⟨_, rfl⟩
  rw [← ga2] at Ar2 Ex2 st2
  have y2 : h0.size ≤ h0.size := K0.1
  have n3 : ar ≠ a2 := Nat.ne_of_lt (ga2.symm ▸ E_ar.lt)
  have E4 : Exa Z h2 ar "[I" := E_ar.ext E2
  have A5 : Arv Z h2 ar kc .int (4 : Int32) [(.int el0), (.int el1), (.int el2), (.int el3)] (.int (0 : Int32)) := A_ar.ext E2
  have fr2 : n0 ≤ a2 := Nat.le_trans Z0 (Nat.le_of_eq ga2.symm)
  have Z6 : n0 ≤ h2.size := Nat.le_trans Z0 E2.1
  have K7 : Keep h0 h2 [] := K0.ext E2
  have A2 : Arv Z h2 a2 cA2 .int (8 : Int32) [(.int (0 : Int32)), (.int (0 : Int32)), (.int (0 : Int32)), (.int (0 : Int32)), (.int (0 : Int32)), (.int (0 : Int32)), (.int (0 : Int32)), (.int (0 : Int32))] (.int (0 : Int32)) := (Arv.new Ar2 (by decide)).pad (fun i => pad_rep [] (.int (0 : Int32)) 8 i)
  refine own_by st2 ?_
  show own_Go p e below (Qc4_8 Z ar kc el0 el1 el2 el3 h0 n0) (own_Fr s ({ frames := 1, cells := 1, slots := 8, locals := 40 } : Room).cells ({ frames := 1, cells := 1, slots := 8, locals := 40 } : Room).slots) (T2.setTop (mkF m 17 #[.val (.ref ar), .val (.int (8 : Int32)), .unset] [(.ref a2)]))
  refine own_astoreN (pc' := 18) X2 hx #[.val (.ref ar), .val (.int (8 : Int32)), .val (.ref a2)] rfl rfl (hb hby dc4_0_17) rfl ?_
  refine own_aloadN (pc' := 19) X2 hx rfl rfl (hb hby dc4_0_18) rfl ?_
  refine own_iconst (pc' := 20) X2 hx (0 : Int32) (by decide) (hb hby dc4_0_19) rfl ?_
  refine own_aloadN (pc' := 21) X2 hx rfl rfl (hb hby dc4_0_20) rfl ?_
  refine own_iconst (pc' := 22) X2 hx (0 : Int32) (by decide) (hb hby dc4_0_21) rfl ?_
  refine own_aloadN (pc' := 23) X2 hx rfl rfl (hb hby dc4_0_22) rfl ?_
  obtain ⟨c8, B8, q8, s8, u8, H8, G8⟩ := id A5
  refine own_by (X2.arraylength hx (by rw [e2]; exact B8.1) (State.isArrayOf_alike hZ.alike B8.2.1) (g := (mkF m 23 #[.val (.ref ar), .val (.int (8 : Int32)), .val (.ref a2)] [(.ref ar), (.int (0 : Int32)), (.ref a2), (.int (0 : Int32)), (.ref ar)])) rfl rfl (hb hby dc4_0_23)) ?_
  rw [len_of s8 u8]
  show own_Go p e below (Qc4_8 Z ar kc el0 el1 el2 el3 h0 n0) (own_Fr s ({ frames := 1, cells := 1, slots := 8, locals := 40 } : Room).cells ({ frames := 1, cells := 1, slots := 8, locals := 40 } : Room).slots) (T2.setTop (mkF m 24 #[.val (.ref ar), .val (.int (8 : Int32)), .val (.ref a2)] [(.int (4 : Int32)), (.int (0 : Int32)), (.ref a2), (.int (0 : Int32)), (.ref ar)]))
  refine own_iloadN (pc' := 25) X2 hx rfl (hb hby dc4_0_24) rfl ?_
  obtain ⟨_, _, ⟨T9, L9, k9, n9⟩, -, X9, ⟨Lc9, hQ9, l9, y9, z9⟩, st9⟩ := Jvm.LawKit.callS X2 hx (y := (⟨"java/lang/Math", "min", "(II)I"⟩ : MethodName)) hown (mvT hZ (hw _ (List.mem_of_getElem? (i := 29) rfl))) (mvT hZ (hw _ (List.mem_of_getElem? (i := 30) rfl))) (mvT hZ (hw _ (List.mem_of_getElem? (i := 31) rfl))) (mvT hZ (hw _ (List.mem_of_getElem? (i := 32) rfl))) (by decide) (backOf (W := 4) (rmm4_8 l Z a0 hw []  h2 n0 Z6 ) hZ (hw _ (List.mem_of_getElem? (i := 32) rfl)) (hw _ (List.mem_of_getElem? (i := 31) rfl)) (by decide) (by decide)) (g := (mkF m 25 #[.val (.ref ar), .val (.int (8 : Int32)), .val (.ref a2)] [(.int (8 : Int32)), (.int (4 : Int32)), (.int (0 : Int32)), (.ref a2), (.int (0 : Int32)), (.ref ar)])) rfl (by rw [hml]; rfl) (argsL := [(.int (4 : Int32)), (.int (8 : Int32))]) (rest := [(.int (0 : Int32)), (.ref a2), (.int (0 : Int32)), (.ref ar)]) (lenOf pd_0 rfl) rfl (by show 2 * 0 + _ ≤ _; exact Nat.le_of_eq rfl) (hb hby dc4_0_25) (fun _ _ => ⟨rfl, e2, (by decide : 1 + 0 ≤ _), (by decide : 8 + 0 ≤ _)⟩)
  dsimp only [Pt.U, Pt.locs, Pt.cells, Pt.slots] at X9 l9 y9 z9 st9 hQ9
  subst l9 y9 z9
  obtain ⟨rfl, pp9, N9, e9⟩ := hQ9
  have N9a := Fr.app N0 N9
  refine own_by st9 ?_
  show own_Go p e below (Qc4_8 Z ar kc el0 el1 el2 el3 h0 n0) (own_Fr s ({ frames := 1, cells := 1, slots := 8, locals := 40 } : Room).cells ({ frames := 1, cells := 1, slots := 8, locals := 40 } : Room).slots) (T9.setTop (mkF m 28 #[.val (.ref ar), .val (.int (8 : Int32)), .val (.ref a2)] [(.int (4 : Int32)), (.int (0 : Int32)), (.ref a2), (.int (0 : Int32)), (.ref ar)]))
  obtain ⟨T10, h10, L10, X10, e10, N10, Kc10, A10, st10⟩ := cpA X9 hx hZ hown (hw _ (List.mem_of_getElem? (i := 33) rfl)) (hw _ (List.mem_of_getElem? (i := 36) rfl)) (hw _ (List.mem_of_getElem? (i := 34) rfl)) (hw _ (List.mem_of_getElem? (i := 35) rfl)) e9 A5 A2 (us := [(.int el0), (.int el1), (.int el2), (.int el3)]) (Or.inl ⟨rfl, rfl⟩) (sp := (0 : Int32)) (dp := (0 : Int32)) (nn := (4 : Int32)) (by decide) (by decide) (by decide) (by decide) (by decide) rfl (by decide) N9a fr2 (g := (mkF m 28 #[.val (.ref ar), .val (.int (8 : Int32)), .val (.ref a2)] [(.int (4 : Int32)), (.int (0 : Int32)), (.ref a2), (.int (0 : Int32)), (.ref ar)])) rfl (by rw [hml]; rfl) rfl (hb hby dc4_0_28) (by decide) (W := 0) (by show 2 * 0 + _ ≤ _; exact Nat.le_of_eq rfl) (by decide)
  replace A10 : Arv Z h10 a2 cA2 .int (8 : Int32) [(.int el0), (.int el1), (.int el2), (.int el3), (.int (0 : Int32)), (.int (0 : Int32)), (.int (0 : Int32)), (.int (0 : Int32))] (.int (0 : Int32)) := A10
  have E11 : Exa Z h10 ar "[I" := E4.keep Kc10
  have E12 : Exa Z h10 a2 "[I" := Ex2.keep Kc10
  have A13 : Arv Z h10 ar kc .int (4 : Int32) [(.int el0), (.int el1), (.int el2), (.int el3)] (.int (0 : Int32)) := A5.keep Kc10 (ninS n3 nin0)
  have Z14 : n0 ≤ h10.size := Nat.le_trans Z6 Kc10.1
  have K15 : Keep h0 h10 [] := K7.trans Kc10 (allS (Or.inr (Nat.le_trans y2 (Nat.le_of_eq ga2.symm))) all0)
  refine own_by st10 ?_
  show own_Go p e below (Qc4_8 Z ar kc el0 el1 el2 el3 h0 n0) (own_Fr s ({ frames := 1, cells := 1, slots := 8, locals := 40 } : Room).cells ({ frames := 1, cells := 1, slots := 8, locals := 40 } : Room).slots) (T10.setTop (mkF m 31 #[.val (.ref ar), .val (.int (8 : Int32)), .val (.ref a2)] []))
  refine own_aloadN (pc' := 32) X10 hx rfl rfl (hb hby dc4_0_31) rfl ?_
  refine own_ret X10 hx Bd.returns Bd.notSynchronized (Or.inr (Or.inr (Or.inr (Or.inr ⟨rfl, rfl, rfl⟩)))) (hb hby dc4_0_32) rfl (by decide) (by decide) ?_
  show Qc4_8 Z ar kc el0 el1 el2 el3 h0 n0 _ T10.heap _
  rw [e10]
  exact ⟨a2, cA2, rfl, trivial, N10, K15, Nat.le_trans y2 (Nat.le_of_eq ga2.symm), E12, A10⟩
theorem pd_2 : parseMethodDescriptor "()V" = some ⟨[], none⟩ := by decide +kernel
theorem di_0 : decode prog_21_method_1_code 0 = .ok (.aload_n 0, 1) := by decide +kernel
theorem di_1 : decode prog_21_method_1_code 1 = .ok (.invokespecial 1, 3) := by decide +kernel
theorem di_4 : decode prog_21_method_1_code 4 = .ok (.aload_n 0, 1) := by decide +kernel
theorem di_5 : decode prog_21_method_1_code 5 = .ok (.iconst 4, 1) := by decide +kernel
theorem di_6 : decode prog_21_method_1_code 6 = .ok (.newarray .int, 2) := by decide +kernel
theorem di_8 : decode prog_21_method_1_code 8 = .ok (.putfield 7, 3) := by decide +kernel
theorem di_11 : decode prog_21_method_1_code 11 = .ok (.return_, 1) := by decide +kernel
theorem pn_1 : plainName "com/example/libpundit/libpundit/core/IntList" = true := by first | (simp [plainName, overriddenIn]; done) | decide +kernel
theorem ef_i (m : MethodId) (x0 : Addr) : entryFrame m #[(.ref x0)] 1 = mkF m 0 #[.val (.ref x0)] [] := by first | (simp [entryFrame, mkF, argsToLocals, Value.category, maxLocals]; done) | rfl
def Qi (Z : State) (a1 : Addr) (h0 : Heap) (n0 : Nat) (v : Option Value) (h : Heap) (L : List Loc) : Prop := ∃ ar : Addr, ∃ kc : ClassId, v = none ∧ (True) ∧ Fr n0 L ∧ Keep h0 h [a1] ∧ h0.size ≤ ar ∧ Exa Z h a1 "com/example/libpundit/libpundit/core/IntList" ∧ Exa Z h ar "[I" ∧ Fld Z h a1 "com/example/libpundit/libpundit/core/IntList" "values" "[I" (.ref ar) ∧ Fld Z h a1 "com/example/libpundit/libpundit/core/IntList" "size" "I" (.int (0 : Int32)) ∧ Arv Z h ar kc .int (4 : Int32) [(.int (0 : Int32)), (.int (0 : Int32)), (.int (0 : Int32)), (.int (0 : Int32))] (.int (0 : Int32))
set_option maxRecDepth 65536 in
set_option maxHeartbeats 40000000 in
theorem rmi (l : Launch) (Z : State) (a0 : Array Value) (hw : ∀ d ∈ tables_1, d.before a0 Z = true) (ws : List Jvm.Cond) (a1 : Addr) (h0 : Heap) (n0 : Nat) (Z0 : n0 ≤ h0.size) (E_a1 : Exa Z h0 a1 "com/example/libpundit/libpundit/core/IntList") (F_values_a1 : Fld Z h0 a1 "com/example/libpundit/libpundit/core/IntList" "values" "[I" .null) (F_size_a1 : Fld Z h0 a1 "com/example/libpundit/libpundit/core/IntList" "size" "I" (.int (0 : Int32))) (g_a1 : n0 ≤ a1) :
    MetFree l (⟨"com/example/libpundit/libpundit/core/IntList", "<init>", "()V"⟩ : MethodName) (head1 (Jvm.Cond.code (⟨"com/example/libpundit/libpundit/core/IntList", "<init>", "()V"⟩ : MethodName) prog_21_method_1_code 1 none :: ws) ({ frames := 1, cells := 1, slots := 4, locals := 12 } : Room)) (fun a U => a = #[(.ref a1)] ∧ Z.Warmed39 U.vm ∧ U.heap = h0) (fun _ _ _ _ _ => True) (fun _ U o U' => ∃ v L, o = .returned v ∧ Qi Z a1 h0 n0 v U'.heap L ∧ FrameEnd U o U' L ({ frames := 1, cells := 1, slots := 4, locals := 12 } : Room).cells ({ frames := 1, cells := 1, slots := 4, locals := 12 } : Room).slots) := by
  refine MetFree.of_bodySF (plainFor_of_name pn_1) hisR ?_
  intro p e s m args below meth c s₁ Bd hml0 hP hK
  obtain ⟨rfl, hZ, hh⟩ := hP
  have hx := Bd.exec
  have hby := Bd.bytes
  have hml : c.maxLocals = 1 := hml0
  have hown : s.vm.findClass "com/example/libpundit/libpundit/core/IntList" = some m.cls := findClass_of_methodNamed Bd.named
  have hnm := (name_of_methodNamed Bd.named Bd.method).1
  have X0 : Stand p l e ({ frames := 1, cells := 1, slots := 4, locals := 12 } : Room) s m #[(.ref a1)] below meth c s₁ [] 0 0 := Stand.of_body Bd
  have e0 : s₁.heap = h0 := by rw [← hh, Bd.state]; rfl
  have N0 := Fr.nil n0
  change own_Go p e below (Qi Z a1 h0 n0) (own_Fr s ({ frames := 1, cells := 1, slots := 4, locals := 12 } : Room).cells ({ frames := 1, cells := 1, slots := 4, locals := 12 } : Room).slots) (s₁.setTop (entryFrame m #[(.ref a1)] 1))
  rw [ef_i m a1]
  have K0 : Keep h0 h0 [a1] := Keep.refl h0 [a1]
  refine own_aloadN (pc' := 1) X0 hx rfl rfl (hb hby di_0) rfl ?_
  obtain ⟨T1, X1, e1, st1⟩ := initO X0 hx hZ hown (hw _ (List.mem_of_getElem? (i := 7) rfl)) (hw _ (List.mem_of_getElem? (i := 8) rfl)) (hw _ (List.mem_of_getElem? (i := 9) rfl)) e0 (g := (mkF m 1 #[.val (.ref a1)] [(.ref a1)])) rfl (by rw [hml]; rfl) rfl (hb hby di_1) (by decide) (W := 0) (by show 2 * 0 + _ ≤ _; exact Nat.le_of_eq rfl) (by decide)
  refine own_by st1 ?_
  show own_Go p e below (Qi Z a1 h0 n0) (own_Fr s ({ frames := 1, cells := 1, slots := 4, locals := 12 } : Room).cells ({ frames := 1, cells := 1, slots := 4, locals := 12 } : Room).slots) (T1.setTop (mkF m 4 #[.val (.ref a1)] []))
  refine own_aloadN (pc' := 5) X1 hx rfl rfl (hb hby di_4) rfl ?_
  refine own_iconst (pc' := 6) X1 hx (4 : Int32) (by decide) (hb hby di_5) rfl ?_
  obtain ⟨T2, h2, cA2, X2, e2, E2, Ar2, Ex2, st2⟩ := newPE X1 hx hZ (hw _ (List.mem_of_getElem? (i := 10) rfl)) e1 (g := (mkF m 6 #[.val (.ref a1)] [(.int (4 : Int32)), (.ref a1)])) rfl (hb hby di_6) (n := (4 : Int32)) rfl (by decide) (cap := 4) (by decide) (by decide) (by decide) (by decide) (ad := "[I") (by decide)
  obtain ⟨a2, ga2⟩ : ∃ z, z = h0.size := ⟨_, rfl⟩
  rw [← ga2] at Ar2 Ex2 st2
  have y2 : h0.size ≤ h0.size := K0.1
  have n3 : a1 ≠ a2 := Nat.ne_of_lt (ga2.symm ▸ E_a1.lt)
  have F4 : Fld Z h2 a1 "com/example/libpundit/libpundit/core/IntList" "values" "[I" .null := F_values_a1.ext E2
  have F5 : Fld Z h2 a1 "com/example/libpundit/libpundit/core/IntList" "size" "I" (.int (0 : Int32)) := F_size_a1.ext E2
  have E6 : Exa Z h2 a1 "com/example/libpundit/libpundit/core/IntList" := E_a1.ext E2
  have fr2 : n0 ≤ a2 := Nat.le_trans Z0 (Nat.le_of_eq ga2.symm)
  have Z7 : n0 ≤ h2.size := Nat.le_trans Z0 E2.1
  have K8 : Keep h0 h2 [a1] := K0.ext E2
  have A2 : Arv Z h2 a2 cA2 .int (4 : Int32) [(.int (0 : Int32)), (.int (0 : Int32)), (.int (0 : Int32)), (.int (0 : Int32))] (.int (0 : Int32)) := (Arv.new Ar2 (by decide)).pad (fun i => pad_rep [] (.int (0 : Int32)) 4 i)
  refine own_by st2 ?_
  show own_Go p e below (Qi Z a1 h0 n0) (own_Fr s ({ frames := 1, cells := 1, slots := 4, locals := 12 } : Room).cells ({ frames := 1, cells := 1, slots := 4, locals := 12 } : Room).slots) (T2.setTop (mkF m 8 #[.val (.ref a1)] [(.ref a2), (.ref a1)]))
  obtain ⟨T9, h9, X9, e9, W9, st9⟩ := putF X2 hx hZ hown (host := "") (Or.inl (hw _ (List.mem_of_getElem? (i := 11) rfl))) Via.refl e2 F4 E6 (Or.inl (hw _ (List.mem_of_getElem? (i := 12) rfl))) (hw _ (List.mem_of_getElem? (i := 2) rfl)) (ty := (.array .int)) (by decide) rfl rfl (g := (mkF m 8 #[.val (.ref a1)] [(.ref a2), (.ref a1)])) rfl rfl (hb hby di_8)
  have Fw9 : Fld Z h9 a1 "com/example/libpundit/libpundit/core/IntList" "values" "[I" (.ref a2) := F4.same W9
  have F10 : Fld Z h9 a1 "com/example/libpundit/libpundit/core/IntList" "size" "I" (.int (0 : Int32)) := F5.other W9 (Or.inr (slot_ne (Or.inl (hw _ (List.mem_of_getElem? (i := 19) rfl))) (Or.inl (hw _ (List.mem_of_getElem? (i := 12) rfl))) (by decide) (t := .int) (by decide) (t' := (.array .int)) (by decide)))
  have E11 : Exa Z h9 a1 "com/example/libpundit/libpundit/core/IntList" := E6.wr W9
  have E12 : Exa Z h9 a2 "[I" := Ex2.wr W9
  have A13 : Arv Z h9 a2 cA2 .int (4 : Int32) [(.int (0 : Int32)), (.int (0 : Int32)), (.int (0 : Int32)), (.int (0 : Int32))] (.int (0 : Int32)) := A2.other W9 (Ne.symm n3)
  have Z14 : n0 ≤ h9.size := Nat.le_trans Z7 (Nat.le_of_eq W9.size.symm)
  have N15 := Fr.snoc X9 N0 g_a1
  have K16 : Keep h0 h9 [a1] := K8.wr W9 (Or.inl (List.mem_of_getElem? (i := 0) rfl))
  refine own_by st9 ?_
  show own_Go p e below (Qi Z a1 h0 n0) (own_Fr s ({ frames := 1, cells := 1, slots := 4, locals := 12 } : Room).cells ({ frames := 1, cells := 1, slots := 4, locals := 12 } : Room).slots) (T9.setTop (mkF m 11 #[.val (.ref a1)] []))
  refine own_ret0 X9 hx Bd.returns Bd.notSynchronized (hb hby di_11) rfl (by decide) (by decide) ?_
  show Qi Z a1 h0 n0 _ T9.heap _
  rw [e9]
  exact ⟨a2, cA2, rfl, trivial, N15, K16, Nat.le_trans y2 (Nat.le_of_eq ga2.symm), E11, E12, Fw9, F10, A13⟩
theorem pd_3 : parseMethodDescriptor "(I)V" = some ⟨[.int], none⟩ := by decide +kernel
theorem da0_0 : decode prog_21_method_2_code 0 = .ok (.aload_n 0, 1) := by decide +kernel
theorem da0_1 : decode prog_21_method_2_code 1 = .ok (.getfield 13, 3) := by decide +kernel
theorem da0_4 : decode prog_21_method_2_code 4 = .ok (.aload_n 0, 1) := by decide +kernel
theorem da0_5 : decode prog_21_method_2_code 5 = .ok (.getfield 7, 3) := by decide +kernel
theorem da0_8 : decode prog_21_method_2_code 8 = .ok (.arraylength, 1) := by decide +kernel
theorem da0_9 : decode prog_21_method_2_code 9 = .ok (.if_icmp .ne 20, 3) := by decide +kernel
theorem da0_12 : decode prog_21_method_2_code 12 = .ok (.aload_n 0, 1) := by decide +kernel
theorem da0_13 : decode prog_21_method_2_code 13 = .ok (.aload_n 0, 1) := by decide +kernel
theorem da0_14 : decode prog_21_method_2_code 14 = .ok (.getfield 7, 3) := by decide +kernel
theorem da0_17 : decode prog_21_method_2_code 17 = .ok (.iconst 2, 1) := by decide +kernel
theorem da0_18 : decode prog_21_method_2_code 18 = .ok (.aload_n 0, 1) := by decide +kernel
theorem da0_19 : decode prog_21_method_2_code 19 = .ok (.getfield 13, 3) := by decide +kernel
theorem da0_22 : decode prog_21_method_2_code 22 = .ok (.imul, 1) := by decide +kernel
theorem da0_23 : decode prog_21_method_2_code 23 = .ok (.invokestatic 17, 3) := by decide +kernel
theorem da0_26 : decode prog_21_method_2_code 26 = .ok (.putfield 7, 3) := by decide +kernel
theorem da0_29 : decode prog_21_method_2_code 29 = .ok (.aload_n 0, 1) := by decide +kernel
theorem da0_30 : decode prog_21_method_2_code 30 = .ok (.getfield 7, 3) := by decide +kernel
theorem da0_33 : decode prog_21_method_2_code 33 = .ok (.aload_n 0, 1) := by decide +kernel
theorem da0_34 : decode prog_21_method_2_code 34 = .ok (.dup, 1) := by decide +kernel
theorem da0_35 : decode prog_21_method_2_code 35 = .ok (.getfield 13, 3) := by decide +kernel
theorem da0_38 : decode prog_21_method_2_code 38 = .ok (.dup_x1, 1) := by decide +kernel
theorem da0_39 : decode prog_21_method_2_code 39 = .ok (.iconst 1, 1) := by decide +kernel
theorem da0_40 : decode prog_21_method_2_code 40 = .ok (.iadd, 1) := by decide +kernel
theorem da0_41 : decode prog_21_method_2_code 41 = .ok (.putfield 13, 3) := by decide +kernel
theorem da0_44 : decode prog_21_method_2_code 44 = .ok (.iload_n 1, 1) := by decide +kernel
theorem da0_45 : decode prog_21_method_2_code 45 = .ok (.iastore, 1) := by decide +kernel
theorem da0_46 : decode prog_21_method_2_code 46 = .ok (.return_, 1) := by decide +kernel
theorem ef_a0 (m : MethodId) (x0 : Addr) (x1 : Int32) : entryFrame m #[(.ref x0), (.int x1)] 2 = mkF m 0 #[.val (.ref x0), .val (.int x1)] [] := by first | (simp [entryFrame, mkF, argsToLocals, Value.category, maxLocals]; done) | rfl
def Qa0 (Z : State) (a1 : Addr) (u : Int32) (ar : Addr) (kc : ClassId) (h0 : Heap) (n0 : Nat) (v : Option Value) (h : Heap) (L : List Loc) : Prop := v = none ∧ (True) ∧ Fr n0 L ∧ Keep h0 h [a1, ar] ∧ Exa Z h a1 "com/example/libpundit/libpundit/core/IntList" ∧ Exa Z h ar "[I" ∧ Fld Z h a1 "com/example/libpundit/libpundit/core/IntList" "values" "[I" (.ref ar) ∧ Fld Z h a1 "com/example/libpundit/libpundit/core/IntList" "size" "I" (.int (1 : Int32)) ∧ Arv Z h ar kc .int (4 : Int32) [(.int u), (.int (0 : Int32)), (.int (0 : Int32)), (.int (0 : Int32))] (.int (0 : Int32))
set_option maxRecDepth 65536 in
set_option maxHeartbeats 40000000 in
theorem rma0 (l : Launch) (Z : State) (a0 : Array Value) (hw : ∀ d ∈ tables_1, d.before a0 Z = true) (ws : List Jvm.Cond) (a1 : Addr) (u : Int32) (ar : Addr) (kc : ClassId) (h0 : Heap) (n0 : Nat) (Z0 : n0 ≤ h0.size) (E_a1 : Exa Z h0 a1 "com/example/libpundit/libpundit/core/IntList") (E_ar : Exa Z h0 ar "[I") (F_values_a1 : Fld Z h0 a1 "com/example/libpundit/libpundit/core/IntList" "values" "[I" (.ref ar)) (F_size_a1 : Fld Z h0 a1 "com/example/libpundit/libpundit/core/IntList" "size" "I" (.int (0 : Int32))) (A_ar : Arv Z h0 ar kc .int (4 : Int32) [(.int (0 : Int32)), (.int (0 : Int32)), (.int (0 : Int32)), (.int (0 : Int32))] (.int (0 : Int32))) (g_a1 : n0 ≤ a1) (g_ar : n0 ≤ ar) (ne_a1_ar : a1 ≠ ar) :
    MetFree l (⟨"com/example/libpundit/libpundit/core/IntList", "add", "(I)V"⟩ : MethodName) (head1 (Jvm.Cond.code (⟨"com/example/libpundit/libpundit/core/IntList", "add", "(I)V"⟩ : MethodName) prog_21_method_2_code 2 none :: ws) ({ frames := 0, cells := 0, slots := 0, locals := 0 } : Room)) (fun a U => a = #[(.ref a1), (.int u)] ∧ Z.Warmed39 U.vm ∧ U.heap = h0) (fun _ _ _ _ _ => True) (fun _ U o U' => ∃ v L, o = .returned v ∧ Qa0 Z a1 u ar kc h0 n0 v U'.heap L ∧ FrameEnd U o U' L ({ frames := 0, cells := 0, slots := 0, locals := 0 } : Room).cells ({ frames := 0, cells := 0, slots := 0, locals := 0 } : Room).slots) := by
  refine MetFree.of_bodySF (plainFor_of_name pn_1) hisR ?_
  intro p e s m args below meth c s₁ Bd hml0 hP hK
  obtain ⟨rfl, hZ, hh⟩ := hP
  have hx := Bd.exec
  have hby := Bd.bytes
  have hml : c.maxLocals = 2 := hml0
  have hown : s.vm.findClass "com/example/libpundit/libpundit/core/IntList" = some m.cls := findClass_of_methodNamed Bd.named
  have hnm := (name_of_methodNamed Bd.named Bd.method).1
  have X0 : Stand p l e ({ frames := 0, cells := 0, slots := 0, locals := 0 } : Room) s m #[(.ref a1), (.int u)] below meth c s₁ [] 0 0 := Stand.of_body Bd
  have e0 : s₁.heap = h0 := by rw [← hh, Bd.state]; rfl
  have N0 := Fr.nil n0
  change own_Go p e below (Qa0 Z a1 u ar kc h0 n0) (own_Fr s ({ frames := 0, cells := 0, slots := 0, locals := 0 } : Room).cells ({ frames := 0, cells := 0, slots := 0, locals := 0 } : Room).slots) (s₁.setTop (entryFrame m #[(.ref a1), (.int u)] 2))
  rw [ef_a0 m a1 u]
  have ru := rng32 u
  have K0 : Keep h0 h0 [a1, ar] := Keep.refl h0 [a1, ar]
  refine own_aloadN (pc' := 1) X0 hx rfl rfl (hb hby da0_0) rfl ?_
  obtain ⟨T1, X1, e1, st1⟩ := getF X0 hx hZ hown (host := "") (Or.inl (hw _ (List.mem_of_getElem? (i := 18) rfl))) Via.refl e0 F_size_a1 (g := (mkF m 1 #[.val (.ref a1), .val (.int u)] [(.ref a1)])) rfl rfl (hb hby da0_1)
  refine own_by st1 ?_
  show own_Go p e below (Qa0 Z a1 u ar kc h0 n0) (own_Fr s ({ frames := 0, cells := 0, slots := 0, locals := 0 } : Room).cells ({ frames := 0, cells := 0, slots := 0, locals := 0 } : Room).slots) (T1.setTop (mkF m 4 #[.val (.ref a1), .val (.int u)] [(.int (0 : Int32))]))
  refine own_aloadN (pc' := 5) X1 hx rfl rfl (hb hby da0_4) rfl ?_
  obtain ⟨T2, X2, e2, st2⟩ := getF X1 hx hZ hown (host := "") (Or.inl (hw _ (List.mem_of_getElem? (i := 11) rfl))) Via.refl e1 F_values_a1 (g := (mkF m 5 #[.val (.ref a1), .val (.int u)] [(.ref a1), (.int (0 : Int32))])) rfl rfl (hb hby da0_5)
  refine own_by st2 ?_
  show own_Go p e below (Qa0 Z a1 u ar kc h0 n0) (own_Fr s ({ frames := 0, cells := 0, slots := 0, locals := 0 } : Room).cells ({ frames := 0, cells := 0, slots := 0, locals := 0 } : Room).slots) (T2.setTop (mkF m 8 #[.val (.ref a1), .val (.int u)] [(.ref ar), (.int (0 : Int32))]))
  obtain ⟨c3, B3, q3, s3, u3, H3, G3⟩ := id A_ar
  refine own_by (X2.arraylength hx (by rw [e2]; exact B3.1) (State.isArrayOf_alike hZ.alike B3.2.1) (g := (mkF m 8 #[.val (.ref a1), .val (.int u)] [(.ref ar), (.int (0 : Int32))])) rfl rfl (hb hby da0_8)) ?_
  rw [len_of s3 u3]
  show own_Go p e below (Qa0 Z a1 u ar kc h0 n0) (own_Fr s ({ frames := 0, cells := 0, slots := 0, locals := 0 } : Room).cells ({ frames := 0, cells := 0, slots := 0, locals := 0 } : Room).slots) (T2.setTop (mkF m 9 #[.val (.ref a1), .val (.int u)] [(.int (4 : Int32)), (.int (0 : Int32))]))
  refine own_icmpYes (pc' := 29) X2 hx (hb hby da0_9) (by decide) (by decide) (by decide) ?_
  refine own_aloadN (pc' := 30) X2 hx rfl rfl (hb hby da0_29) rfl ?_
  obtain ⟨T4, X4, e4, st4⟩ := getF X2 hx hZ hown (host := "") (Or.inl (hw _ (List.mem_of_getElem? (i := 11) rfl))) Via.refl e2 F_values_a1 (g := (mkF m 30 #[.val (.ref a1), .val (.int u)] [(.ref a1)])) rfl rfl (hb hby da0_30)
  refine own_by st4 ?_
  show own_Go p e below (Qa0 Z a1 u ar kc h0 n0) (own_Fr s ({ frames := 0, cells := 0, slots := 0, locals := 0 } : Room).cells ({ frames := 0, cells := 0, slots := 0, locals := 0 } : Room).slots) (T4.setTop (mkF m 33 #[.val (.ref a1), .val (.int u)] [(.ref ar)]))
  refine own_aloadN (pc' := 34) X4 hx rfl rfl (hb hby da0_33) rfl ?_
  refine own_dup (pc' := 35) X4 hx rfl (hb hby da0_34) rfl ?_
  obtain ⟨T5, X5, e5, st5⟩ := getF X4 hx hZ hown (host := "") (Or.inl (hw _ (List.mem_of_getElem? (i := 18) rfl))) Via.refl e4 F_size_a1 (g := (mkF m 35 #[.val (.ref a1), .val (.int u)] [(.ref a1), (.ref a1), (.ref ar)])) rfl rfl (hb hby da0_35)
  refine own_by st5 ?_
  show own_Go p e below (Qa0 Z a1 u ar kc h0 n0) (own_Fr s ({ frames := 0, cells := 0, slots := 0, locals := 0 } : Room).cells ({ frames := 0, cells := 0, slots := 0, locals := 0 } : Room).slots) (T5.setTop (mkF m 38 #[.val (.ref a1), .val (.int u)] [(.int (0 : Int32)), (.ref a1), (.ref ar)]))
  refine own_dupX1 (pc' := 39) X5 hx rfl rfl (hb hby da0_38) rfl ?_
  refine own_iconst (pc' := 40) X5 hx (1 : Int32) (by decide) (hb hby da0_39) rfl ?_
  refine own_iadd (pc' := 41) X5 hx (z := (1 : Int32)) (by decide) (hb hby da0_40) rfl ?_
  obtain ⟨T6, h6, X6, e6, W6, st6⟩ := putF X5 hx hZ hown (host := "") (Or.inl (hw _ (List.mem_of_getElem? (i := 18) rfl))) Via.refl e5 F_size_a1 E_a1 (Or.inl (hw _ (List.mem_of_getElem? (i := 19) rfl))) (hw _ (List.mem_of_getElem? (i := 2) rfl)) (ty := .int) (by decide) rfl rfl (g := (mkF m 41 #[.val (.ref a1), .val (.int u)] [(.int (1 : Int32)), (.ref a1), (.int (0 : Int32)), (.ref ar)])) rfl rfl (hb hby da0_41)
  have Fw6 : Fld Z h6 a1 "com/example/libpundit/libpundit/core/IntList" "size" "I" (.int (1 : Int32)) := F_size_a1.same W6
  have F7 : Fld Z h6 a1 "com/example/libpundit/libpundit/core/IntList" "values" "[I" (.ref ar) := F_values_a1.other W6 (Or.inr (slot_ne (Or.inl (hw _ (List.mem_of_getElem? (i := 12) rfl))) (Or.inl (hw _ (List.mem_of_getElem? (i := 19) rfl))) (by decide) (t := (.array .int)) (by decide) (t' := .int) (by decide)))
  have E8 : Exa Z h6 a1 "com/example/libpundit/libpundit/core/IntList" := E_a1.wr W6
  have E9 : Exa Z h6 ar "[I" := E_ar.wr W6
  have A10 : Arv Z h6 ar kc .int (4 : Int32) [(.int (0 : Int32)), (.int (0 : Int32)), (.int (0 : Int32)), (.int (0 : Int32))] (.int (0 : Int32)) := A_ar.other W6 (Ne.symm ne_a1_ar)
  have Z11 : n0 ≤ h6.size := Nat.le_trans Z0 (Nat.le_of_eq W6.size.symm)
  have N12 := Fr.snoc X6 N0 g_a1
  have K13 : Keep h0 h6 [a1, ar] := K0.wr W6 (Or.inl (List.mem_of_getElem? (i := 0) rfl))
  refine own_by st6 ?_
  show own_Go p e below (Qa0 Z a1 u ar kc h0 n0) (own_Fr s ({ frames := 0, cells := 0, slots := 0, locals := 0 } : Room).cells ({ frames := 0, cells := 0, slots := 0, locals := 0 } : Room).slots) (T6.setTop (mkF m 44 #[.val (.ref a1), .val (.int u)] [(.int (0 : Int32)), (.ref ar)]))
  refine own_iloadN (pc' := 45) X6 hx rfl (hb hby da0_44) rfl ?_
  obtain ⟨c14, B14, q14, s14, u14, H14, G14⟩ := id A10
  obtain ⟨T14, h14, X14, e14, W14, st14⟩ := stI X6 hx hZ e6 B14 (j := (0 : Int32)) (x := u) (inb_of s14 (by decide)) (g := (mkF m 45 #[.val (.ref a1), .val (.int u)] [(.int u), (.int (0 : Int32)), (.ref ar)])) rfl rfl (hb hby da0_45)
  have A14 : Arv Z h14 ar kc .int (4 : Int32) [(.int u), (.int (0 : Int32)), (.int (0 : Int32)), (.int (0 : Int32))] (.int (0 : Int32)) := Arv.set B14 q14 s14 u14 H14 G14 rfl W14 0 (by decide) (by simp)
  have F15 : Fld Z h14 a1 "com/example/libpundit/libpundit/core/IntList" "values" "[I" (.ref ar) := F7.other W14 (Or.inl ne_a1_ar)
  have F16 : Fld Z h14 a1 "com/example/libpundit/libpundit/core/IntList" "size" "I" (.int (1 : Int32)) := Fw6.other W14 (Or.inl ne_a1_ar)
  have E17 : Exa Z h14 a1 "com/example/libpundit/libpundit/core/IntList" := E8.wr W14
  have E18 : Exa Z h14 ar "[I" := E9.wr W14
  have Z19 : n0 ≤ h14.size := Nat.le_trans Z11 (Nat.le_of_eq W14.size.symm)
  have N20 := Fr.snoc X14 N12 g_ar
  have K21 : Keep h0 h14 [a1, ar] := K13.wr W14 (Or.inl (List.mem_of_getElem? (i := 1) rfl))
  refine own_by st14 ?_
  show own_Go p e below (Qa0 Z a1 u ar kc h0 n0) (own_Fr s ({ frames := 0, cells := 0, slots := 0, locals := 0 } : Room).cells ({ frames := 0, cells := 0, slots := 0, locals := 0 } : Room).slots) (T14.setTop (mkF m 46 #[.val (.ref a1), .val (.int u)] []))
  refine own_ret0 X14 hx Bd.returns Bd.notSynchronized (hb hby da0_46) rfl (by decide) (by decide) ?_
  show Qa0 Z a1 u ar kc h0 n0 _ T14.heap _
  rw [e14]
  exact ⟨rfl, trivial, N20, K21, E17, E18, F15, F16, A14⟩
theorem ef_a1 (m : MethodId) (x0 : Addr) (x1 : Int32) : entryFrame m #[(.ref x0), (.int x1)] 2 = mkF m 0 #[.val (.ref x0), .val (.int x1)] [] := by first | (simp [entryFrame, mkF, argsToLocals, Value.category, maxLocals]; done) | rfl
def Qa1 (Z : State) (a1 : Addr) (u : Int32) (ar : Addr) (kc : ClassId) (el0 : Int32) (h0 : Heap) (n0 : Nat) (v : Option Value) (h : Heap) (L : List Loc) : Prop := v = none ∧ (True) ∧ Fr n0 L ∧ Keep h0 h [a1, ar] ∧ Exa Z h a1 "com/example/libpundit/libpundit/core/IntList" ∧ Exa Z h ar "[I" ∧ Fld Z h a1 "com/example/libpundit/libpundit/core/IntList" "values" "[I" (.ref ar) ∧ Fld Z h a1 "com/example/libpundit/libpundit/core/IntList" "size" "I" (.int (2 : Int32)) ∧ Arv Z h ar kc .int (4 : Int32) [(.int el0), (.int u), (.int (0 : Int32)), (.int (0 : Int32))] (.int (0 : Int32))
set_option maxRecDepth 65536 in
set_option maxHeartbeats 40000000 in
theorem rma1 (l : Launch) (Z : State) (a0 : Array Value) (hw : ∀ d ∈ tables_1, d.before a0 Z = true) (ws : List Jvm.Cond) (a1 : Addr) (u : Int32) (ar : Addr) (kc : ClassId) (el0 : Int32) (h0 : Heap) (n0 : Nat) (Z0 : n0 ≤ h0.size) (E_a1 : Exa Z h0 a1 "com/example/libpundit/libpundit/core/IntList") (E_ar : Exa Z h0 ar "[I") (F_values_a1 : Fld Z h0 a1 "com/example/libpundit/libpundit/core/IntList" "values" "[I" (.ref ar)) (F_size_a1 : Fld Z h0 a1 "com/example/libpundit/libpundit/core/IntList" "size" "I" (.int (1 : Int32))) (A_ar : Arv Z h0 ar kc .int (4 : Int32) [(.int el0), (.int (0 : Int32)), (.int (0 : Int32)), (.int (0 : Int32))] (.int (0 : Int32))) (g_a1 : n0 ≤ a1) (g_ar : n0 ≤ ar) (ne_a1_ar : a1 ≠ ar) :
    MetFree l (⟨"com/example/libpundit/libpundit/core/IntList", "add", "(I)V"⟩ : MethodName) (head1 (Jvm.Cond.code (⟨"com/example/libpundit/libpundit/core/IntList", "add", "(I)V"⟩ : MethodName) prog_21_method_2_code 2 none :: ws) ({ frames := 0, cells := 0, slots := 0, locals := 0 } : Room)) (fun a U => a = #[(.ref a1), (.int u)] ∧ Z.Warmed39 U.vm ∧ U.heap = h0) (fun _ _ _ _ _ => True) (fun _ U o U' => ∃ v L, o = .returned v ∧ Qa1 Z a1 u ar kc el0 h0 n0 v U'.heap L ∧ FrameEnd U o U' L ({ frames := 0, cells := 0, slots := 0, locals := 0 } : Room).cells ({ frames := 0, cells := 0, slots := 0, locals := 0 } : Room).slots) := by
  refine MetFree.of_bodySF (plainFor_of_name pn_1) hisR ?_
  intro p e s m args below meth c s₁ Bd hml0 hP hK
  obtain ⟨rfl, hZ, hh⟩ := hP
  have hx := Bd.exec
  have hby := Bd.bytes
  have hml : c.maxLocals = 2 := hml0
  have hown : s.vm.findClass "com/example/libpundit/libpundit/core/IntList" = some m.cls := findClass_of_methodNamed Bd.named
  have hnm := (name_of_methodNamed Bd.named Bd.method).1
  have X0 : Stand p l e ({ frames := 0, cells := 0, slots := 0, locals := 0 } : Room) s m #[(.ref a1), (.int u)] below meth c s₁ [] 0 0 := Stand.of_body Bd
  have e0 : s₁.heap = h0 := by rw [← hh, Bd.state]; rfl
  have N0 := Fr.nil n0
  change own_Go p e below (Qa1 Z a1 u ar kc el0 h0 n0) (own_Fr s ({ frames := 0, cells := 0, slots := 0, locals := 0 } : Room).cells ({ frames := 0, cells := 0, slots := 0, locals := 0 } : Room).slots) (s₁.setTop (entryFrame m #[(.ref a1), (.int u)] 2))
  rw [ef_a1 m a1 u]
  have ru := rng32 u
  have rel0 := rng32 el0
  have K0 : Keep h0 h0 [a1, ar] := Keep.refl h0 [a1, ar]
  refine own_aloadN (pc' := 1) X0 hx rfl rfl (hb hby da0_0) rfl ?_
  obtain ⟨T1, X1, e1, st1⟩ := getF X0 hx hZ hown (host := "") (Or.inl (hw _ (List.mem_of_getElem? (i := 18) rfl))) Via.refl e0 F_size_a1 (g := (mkF m 1 #[.val (.ref a1), .val (.int u)] [(.ref a1)])) rfl rfl (hb hby da0_1)
  refine own_by st1 ?_
  show own_Go p e below (Qa1 Z a1 u ar kc el0 h0 n0) (own_Fr s ({ frames := 0, cells := 0, slots := 0, locals := 0 } : Room).cells ({ frames := 0, cells := 0, slots := 0, locals := 0 } : Room).slots) (T1.setTop (mkF m 4 #[.val (.ref a1), .val (.int u)] [(.int (1 : Int32))]))
  refine own_aloadN (pc' := 5) X1 hx rfl rfl (hb hby da0_4) rfl ?_
  obtain ⟨T2, X2, e2, st2⟩ := getF X1 hx hZ hown (host := "") (Or.inl (hw _ (List.mem_of_getElem? (i := 11) rfl))) Via.refl e1 F_values_a1 (g := (mkF m 5 #[.val (.ref a1), .val (.int u)] [(.ref a1), (.int (1 : Int32))])) rfl rfl (hb hby da0_5)
  refine own_by st2 ?_
  show own_Go p e below (Qa1 Z a1 u ar kc el0 h0 n0) (own_Fr s ({ frames := 0, cells := 0, slots := 0, locals := 0 } : Room).cells ({ frames := 0, cells := 0, slots := 0, locals := 0 } : Room).slots) (T2.setTop (mkF m 8 #[.val (.ref a1), .val (.int u)] [(.ref ar), (.int (1 : Int32))]))
  obtain ⟨c3, B3, q3, s3, u3, H3, G3⟩ := id A_ar
  refine own_by (X2.arraylength hx (by rw [e2]; exact B3.1) (State.isArrayOf_alike hZ.alike B3.2.1) (g := (mkF m 8 #[.val (.ref a1), .val (.int u)] [(.ref ar), (.int (1 : Int32))])) rfl rfl (hb hby da0_8)) ?_
  rw [len_of s3 u3]
  show own_Go p e below (Qa1 Z a1 u ar kc el0 h0 n0) (own_Fr s ({ frames := 0, cells := 0, slots := 0, locals := 0 } : Room).cells ({ frames := 0, cells := 0, slots := 0, locals := 0 } : Room).slots) (T2.setTop (mkF m 9 #[.val (.ref a1), .val (.int u)] [(.int (4 : Int32)), (.int (1 : Int32))]))
  refine own_icmpYes (pc' := 29) X2 hx (hb hby da0_9) (by decide) (by decide) (by decide) ?_
  refine own_aloadN (pc' := 30) X2 hx rfl rfl (hb hby da0_29) rfl ?_
  obtain ⟨T4, X4, e4, st4⟩ := getF X2 hx hZ hown (host := "") (Or.inl (hw _ (List.mem_of_getElem? (i := 11) rfl))) Via.refl e2 F_values_a1 (g := (mkF m 30 #[.val (.ref a1), .val (.int u)] [(.ref a1)])) rfl rfl (hb hby da0_30)
  refine own_by st4 ?_
  show own_Go p e below (Qa1 Z a1 u ar kc el0 h0 n0) (own_Fr s ({ frames := 0, cells := 0, slots := 0, locals := 0 } : Room).cells ({ frames := 0, cells := 0, slots := 0, locals := 0 } : Room).slots) (T4.setTop (mkF m 33 #[.val (.ref a1), .val (.int u)] [(.ref ar)]))
  refine own_aloadN (pc' := 34) X4 hx rfl rfl (hb hby da0_33) rfl ?_
  refine own_dup (pc' := 35) X4 hx rfl (hb hby da0_34) rfl ?_
  obtain ⟨T5, X5, e5, st5⟩ := getF X4 hx hZ hown (host := "") (Or.inl (hw _ (List.mem_of_getElem? (i := 18) rfl))) Via.refl e4 F_size_a1 (g := (mkF m 35 #[.val (.ref a1), .val (.int u)] [(.ref a1), (.ref a1), (.ref ar)])) rfl rfl (hb hby da0_35)
  refine own_by st5 ?_
  show own_Go p e below (Qa1 Z a1 u ar kc el0 h0 n0) (own_Fr s ({ frames := 0, cells := 0, slots := 0, locals := 0 } : Room).cells ({ frames := 0, cells := 0, slots := 0, locals := 0 } : Room).slots) (T5.setTop (mkF m 38 #[.val (.ref a1), .val (.int u)] [(.int (1 : Int32)), (.ref a1), (.ref ar)]))
  refine own_dupX1 (pc' := 39) X5 hx rfl rfl (hb hby da0_38) rfl ?_
  refine own_iconst (pc' := 40) X5 hx (1 : Int32) (by decide) (hb hby da0_39) rfl ?_
  refine own_iadd (pc' := 41) X5 hx (z := (2 : Int32)) (by decide) (hb hby da0_40) rfl ?_
  obtain ⟨T6, h6, X6, e6, W6, st6⟩ := putF X5 hx hZ hown (host := "") (Or.inl (hw _ (List.mem_of_getElem? (i := 18) rfl))) Via.refl e5 F_size_a1 E_a1 (Or.inl (hw _ (List.mem_of_getElem? (i := 19) rfl))) (hw _ (List.mem_of_getElem? (i := 2) rfl)) (ty := .int) (by decide) rfl rfl (g := (mkF m 41 #[.val (.ref a1), .val (.int u)] [(.int (2 : Int32)), (.ref a1), (.int (1 : Int32)), (.ref ar)])) rfl rfl (hb hby da0_41)
  have Fw6 : Fld Z h6 a1 "com/example/libpundit/libpundit/core/IntList" "size" "I" (.int (2 : Int32)) := F_size_a1.same W6
  have F7 : Fld Z h6 a1 "com/example/libpundit/libpundit/core/IntList" "values" "[I" (.ref ar) := F_values_a1.other W6 (Or.inr (slot_ne (Or.inl (hw _ (List.mem_of_getElem? (i := 12) rfl))) (Or.inl (hw _ (List.mem_of_getElem? (i := 19) rfl))) (by decide) (t := (.array .int)) (by decide) (t' := .int) (by decide)))
  have E8 : Exa Z h6 a1 "com/example/libpundit/libpundit/core/IntList" := E_a1.wr W6
  have E9 : Exa Z h6 ar "[I" := E_ar.wr W6
  have A10 : Arv Z h6 ar kc .int (4 : Int32) [(.int el0), (.int (0 : Int32)), (.int (0 : Int32)), (.int (0 : Int32))] (.int (0 : Int32)) := A_ar.other W6 (Ne.symm ne_a1_ar)
  have Z11 : n0 ≤ h6.size := Nat.le_trans Z0 (Nat.le_of_eq W6.size.symm)
  have N12 := Fr.snoc X6 N0 g_a1
  have K13 : Keep h0 h6 [a1, ar] := K0.wr W6 (Or.inl (List.mem_of_getElem? (i := 0) rfl))
  refine own_by st6 ?_
  show own_Go p e below (Qa1 Z a1 u ar kc el0 h0 n0) (own_Fr s ({ frames := 0, cells := 0, slots := 0, locals := 0 } : Room).cells ({ frames := 0, cells := 0, slots := 0, locals := 0 } : Room).slots) (T6.setTop (mkF m 44 #[.val (.ref a1), .val (.int u)] [(.int (1 : Int32)), (.ref ar)]))
  refine own_iloadN (pc' := 45) X6 hx rfl (hb hby da0_44) rfl ?_
  obtain ⟨c14, B14, q14, s14, u14, H14, G14⟩ := id A10
  obtain ⟨T14, h14, X14, e14, W14, st14⟩ := stI X6 hx hZ e6 B14 (j := (1 : Int32)) (x := u) (inb_of s14 (by decide)) (g := (mkF m 45 #[.val (.ref a1), .val (.int u)] [(.int u), (.int (1 : Int32)), (.ref ar)])) rfl rfl (hb hby da0_45)
  have A14 : Arv Z h14 ar kc .int (4 : Int32) [(.int el0), (.int u), (.int (0 : Int32)), (.int (0 : Int32))] (.int (0 : Int32)) := Arv.set B14 q14 s14 u14 H14 G14 rfl W14 1 (by decide) (by simp)
  have F15 : Fld Z h14 a1 "com/example/libpundit/libpundit/core/IntList" "values" "[I" (.ref ar) := F7.other W14 (Or.inl ne_a1_ar)
  have F16 : Fld Z h14 a1 "com/example/libpundit/libpundit/core/IntList" "size" "I" (.int (2 : Int32)) := Fw6.other W14 (Or.inl ne_a1_ar)
  have E17 : Exa Z h14 a1 "com/example/libpundit/libpundit/core/IntList" := E8.wr W14
  have E18 : Exa Z h14 ar "[I" := E9.wr W14
  have Z19 : n0 ≤ h14.size := Nat.le_trans Z11 (Nat.le_of_eq W14.size.symm)
  have N20 := Fr.snoc X14 N12 g_ar
  have K21 : Keep h0 h14 [a1, ar] := K13.wr W14 (Or.inl (List.mem_of_getElem? (i := 1) rfl))
  refine own_by st14 ?_
  show own_Go p e below (Qa1 Z a1 u ar kc el0 h0 n0) (own_Fr s ({ frames := 0, cells := 0, slots := 0, locals := 0 } : Room).cells ({ frames := 0, cells := 0, slots := 0, locals := 0 } : Room).slots) (T14.setTop (mkF m 46 #[.val (.ref a1), .val (.int u)] []))
  refine own_ret0 X14 hx Bd.returns Bd.notSynchronized (hb hby da0_46) rfl (by decide) (by decide) ?_
  show Qa1 Z a1 u ar kc el0 h0 n0 _ T14.heap _
  rw [e14]
  exact ⟨rfl, trivial, N20, K21, E17, E18, F15, F16, A14⟩
theorem ef_a2 (m : MethodId) (x0 : Addr) (x1 : Int32) : entryFrame m #[(.ref x0), (.int x1)] 2 = mkF m 0 #[.val (.ref x0), .val (.int x1)] [] := by first | (simp [entryFrame, mkF, argsToLocals, Value.category, maxLocals]; done) | rfl
def Qa2 (Z : State) (a1 : Addr) (u : Int32) (ar : Addr) (kc : ClassId) (el0 : Int32) (el1 : Int32) (h0 : Heap) (n0 : Nat) (v : Option Value) (h : Heap) (L : List Loc) : Prop := v = none ∧ (True) ∧ Fr n0 L ∧ Keep h0 h [a1, ar] ∧ Exa Z h a1 "com/example/libpundit/libpundit/core/IntList" ∧ Exa Z h ar "[I" ∧ Fld Z h a1 "com/example/libpundit/libpundit/core/IntList" "values" "[I" (.ref ar) ∧ Fld Z h a1 "com/example/libpundit/libpundit/core/IntList" "size" "I" (.int (3 : Int32)) ∧ Arv Z h ar kc .int (4 : Int32) [(.int el0), (.int el1), (.int u), (.int (0 : Int32))] (.int (0 : Int32))
set_option maxRecDepth 65536 in
set_option maxHeartbeats 40000000 in
theorem rma2 (l : Launch) (Z : State) (a0 : Array Value) (hw : ∀ d ∈ tables_1, d.before a0 Z = true) (ws : List Jvm.Cond) (a1 : Addr) (u : Int32) (ar : Addr) (kc : ClassId) (el0 : Int32) (el1 : Int32) (h0 : Heap) (n0 : Nat) (Z0 : n0 ≤ h0.size) (E_a1 : Exa Z h0 a1 "com/example/libpundit/libpundit/core/IntList") (E_ar : Exa Z h0 ar "[I") (F_values_a1 : Fld Z h0 a1 "com/example/libpundit/libpundit/core/IntList" "values" "[I" (.ref ar)) (F_size_a1 : Fld Z h0 a1 "com/example/libpundit/libpundit/core/IntList" "size" "I" (.int (2 : Int32))) (A_ar : Arv Z h0 ar kc .int (4 : Int32) [(.int el0), (.int el1), (.int (0 : Int32)), (.int (0 : Int32))] (.int (0 : Int32))) (g_a1 : n0 ≤ a1) (g_ar : n0 ≤ ar) (ne_a1_ar : a1 ≠ ar) :
    MetFree l (⟨"com/example/libpundit/libpundit/core/IntList", "add", "(I)V"⟩ : MethodName) (head1 (Jvm.Cond.code (⟨"com/example/libpundit/libpundit/core/IntList", "add", "(I)V"⟩ : MethodName) prog_21_method_2_code 2 none :: ws) ({ frames := 0, cells := 0, slots := 0, locals := 0 } : Room)) (fun a U => a = #[(.ref a1), (.int u)] ∧ Z.Warmed39 U.vm ∧ U.heap = h0) (fun _ _ _ _ _ => True) (fun _ U o U' => ∃ v L, o = .returned v ∧ Qa2 Z a1 u ar kc el0 el1 h0 n0 v U'.heap L ∧ FrameEnd U o U' L ({ frames := 0, cells := 0, slots := 0, locals := 0 } : Room).cells ({ frames := 0, cells := 0, slots := 0, locals := 0 } : Room).slots) := by
  refine MetFree.of_bodySF (plainFor_of_name pn_1) hisR ?_
  intro p e s m args below meth c s₁ Bd hml0 hP hK
  obtain ⟨rfl, hZ, hh⟩ := hP
  have hx := Bd.exec
  have hby := Bd.bytes
  have hml : c.maxLocals = 2 := hml0
  have hown : s.vm.findClass "com/example/libpundit/libpundit/core/IntList" = some m.cls := findClass_of_methodNamed Bd.named
  have hnm := (name_of_methodNamed Bd.named Bd.method).1
  have X0 : Stand p l e ({ frames := 0, cells := 0, slots := 0, locals := 0 } : Room) s m #[(.ref a1), (.int u)] below meth c s₁ [] 0 0 := Stand.of_body Bd
  have e0 : s₁.heap = h0 := by rw [← hh, Bd.state]; rfl
  have N0 := Fr.nil n0
  change own_Go p e below (Qa2 Z a1 u ar kc el0 el1 h0 n0) (own_Fr s ({ frames := 0, cells := 0, slots := 0, locals := 0 } : Room).cells ({ frames := 0, cells := 0, slots := 0, locals := 0 } : Room).slots) (s₁.setTop (entryFrame m #[(.ref a1), (.int u)] 2))
  rw [ef_a2 m a1 u]
  have ru := rng32 u
  have rel0 := rng32 el0
  have rel1 := rng32 el1
  have K0 : Keep h0 h0 [a1, ar] := Keep.refl h0 [a1, ar]
  refine own_aloadN (pc' := 1) X0 hx rfl rfl (hb hby da0_0) rfl ?_
  obtain ⟨T1, X1, e1, st1⟩ := getF X0 hx hZ hown (host := "") (Or.inl (hw _ (List.mem_of_getElem? (i := 18) rfl))) Via.refl e0 F_size_a1 (g := (mkF m 1 #[.val (.ref a1), .val (.int u)] [(.ref a1)])) rfl rfl (hb hby da0_1)
  refine own_by st1 ?_
  show own_Go p e below (Qa2 Z a1 u ar kc el0 el1 h0 n0) (own_Fr s ({ frames := 0, cells := 0, slots := 0, locals := 0 } : Room).cells ({ frames := 0, cells := 0, slots := 0, locals := 0 } : Room).slots) (T1.setTop (mkF m 4 #[.val (.ref a1), .val (.int u)] [(.int (2 : Int32))]))
  refine own_aloadN (pc' := 5) X1 hx rfl rfl (hb hby da0_4) rfl ?_
  obtain ⟨T2, X2, e2, st2⟩ := getF X1 hx hZ hown (host := "") (Or.inl (hw _ (List.mem_of_getElem? (i := 11) rfl))) Via.refl e1 F_values_a1 (g := (mkF m 5 #[.val (.ref a1), .val (.int u)] [(.ref a1), (.int (2 : Int32))])) rfl rfl (hb hby da0_5)
  refine own_by st2 ?_
  show own_Go p e below (Qa2 Z a1 u ar kc el0 el1 h0 n0) (own_Fr s ({ frames := 0, cells := 0, slots := 0, locals := 0 } : Room).cells ({ frames := 0, cells := 0, slots := 0, locals := 0 } : Room).slots) (T2.setTop (mkF m 8 #[.val (.ref a1), .val (.int u)] [(.ref ar), (.int (2 : Int32))]))
  obtain ⟨c3, B3, q3, s3, u3, H3, G3⟩ := id A_ar
  refine own_by (X2.arraylength hx (by rw [e2]; exact B3.1) (State.isArrayOf_alike hZ.alike B3.2.1) (g := (mkF m 8 #[.val (.ref a1), .val (.int u)] [(.ref ar), (.int (2 : Int32))])) rfl rfl (hb hby da0_8)) ?_
  rw [len_of s3 u3]
  show own_Go p e below (Qa2 Z a1 u ar kc el0 el1 h0 n0) (own_Fr s ({ frames := 0, cells := 0, slots := 0, locals := 0 } : Room).cells ({ frames := 0, cells := 0, slots := 0, locals := 0 } : Room).slots) (T2.setTop (mkF m 9 #[.val (.ref a1), .val (.int u)] [(.int (4 : Int32)), (.int (2 : Int32))]))
  refine own_icmpYes (pc' := 29) X2 hx (hb hby da0_9) (by decide) (by decide) (by decide) ?_
  refine own_aloadN (pc' := 30) X2 hx rfl rfl (hb hby da0_29) rfl ?_
  obtain ⟨T4, X4, e4, st4⟩ := getF X2 hx hZ hown (host := "") (Or.inl (hw _ (List.mem_of_getElem? (i := 11) rfl))) Via.refl e2 F_values_a1 (g := (mkF m 30 #[.val (.ref a1), .val (.int u)] [(.ref a1)])) rfl rfl (hb hby da0_30)
  refine own_by st4 ?_
  show own_Go p e below (Qa2 Z a1 u ar kc el0 el1 h0 n0) (own_Fr s ({ frames := 0, cells := 0, slots := 0, locals := 0 } : Room).cells ({ frames := 0, cells := 0, slots := 0, locals := 0 } : Room).slots) (T4.setTop (mkF m 33 #[.val (.ref a1), .val (.int u)] [(.ref ar)]))
  refine own_aloadN (pc' := 34) X4 hx rfl rfl (hb hby da0_33) rfl ?_
  refine own_dup (pc' := 35) X4 hx rfl (hb hby da0_34) rfl ?_
  obtain ⟨T5, X5, e5, st5⟩ := getF X4 hx hZ hown (host := "") (Or.inl (hw _ (List.mem_of_getElem? (i := 18) rfl))) Via.refl e4 F_size_a1 (g := (mkF m 35 #[.val (.ref a1), .val (.int u)] [(.ref a1), (.ref a1), (.ref ar)])) rfl rfl (hb hby da0_35)
  refine own_by st5 ?_
  show own_Go p e below (Qa2 Z a1 u ar kc el0 el1 h0 n0) (own_Fr s ({ frames := 0, cells := 0, slots := 0, locals := 0 } : Room).cells ({ frames := 0, cells := 0, slots := 0, locals := 0 } : Room).slots) (T5.setTop (mkF m 38 #[.val (.ref a1), .val (.int u)] [(.int (2 : Int32)), (.ref a1), (.ref ar)]))
  refine own_dupX1 (pc' := 39) X5 hx rfl rfl (hb hby da0_38) rfl ?_
  refine own_iconst (pc' := 40) X5 hx (1 : Int32) (by decide) (hb hby da0_39) rfl ?_
  refine own_iadd (pc' := 41) X5 hx (z := (3 : Int32)) (by decide) (hb hby da0_40) rfl ?_
  obtain ⟨T6, h6, X6, e6, W6, st6⟩ := putF X5 hx hZ hown (host := "") (Or.inl (hw _ (List.mem_of_getElem? (i := 18) rfl))) Via.refl e5 F_size_a1 E_a1 (Or.inl (hw _ (List.mem_of_getElem? (i := 19) rfl))) (hw _ (List.mem_of_getElem? (i := 2) rfl)) (ty := .int) (by decide) rfl rfl (g := (mkF m 41 #[.val (.ref a1), .val (.int u)] [(.int (3 : Int32)), (.ref a1), (.int (2 : Int32)), (.ref ar)])) rfl rfl (hb hby da0_41)
  have Fw6 : Fld Z h6 a1 "com/example/libpundit/libpundit/core/IntList" "size" "I" (.int (3 : Int32)) := F_size_a1.same W6
  have F7 : Fld Z h6 a1 "com/example/libpundit/libpundit/core/IntList" "values" "[I" (.ref ar) := F_values_a1.other W6 (Or.inr (slot_ne (Or.inl (hw _ (List.mem_of_getElem? (i := 12) rfl))) (Or.inl (hw _ (List.mem_of_getElem? (i := 19) rfl))) (by decide) (t := (.array .int)) (by decide) (t' := .int) (by decide)))
  have E8 : Exa Z h6 a1 "com/example/libpundit/libpundit/core/IntList" := E_a1.wr W6
  have E9 : Exa Z h6 ar "[I" := E_ar.wr W6
  have A10 : Arv Z h6 ar kc .int (4 : Int32) [(.int el0), (.int el1), (.int (0 : Int32)), (.int (0 : Int32))] (.int (0 : Int32)) := A_ar.other W6 (Ne.symm ne_a1_ar)
  have Z11 : n0 ≤ h6.size := Nat.le_trans Z0 (Nat.le_of_eq W6.size.symm)
  have N12 := Fr.snoc X6 N0 g_a1
  have K13 : Keep h0 h6 [a1, ar] := K0.wr W6 (Or.inl (List.mem_of_getElem? (i := 0) rfl))
  refine own_by st6 ?_
  show own_Go p e below (Qa2 Z a1 u ar kc el0 el1 h0 n0) (own_Fr s ({ frames := 0, cells := 0, slots := 0, locals := 0 } : Room).cells ({ frames := 0, cells := 0, slots := 0, locals := 0 } : Room).slots) (T6.setTop (mkF m 44 #[.val (.ref a1), .val (.int u)] [(.int (2 : Int32)), (.ref ar)]))
  refine own_iloadN (pc' := 45) X6 hx rfl (hb hby da0_44) rfl ?_
  obtain ⟨c14, B14, q14, s14, u14, H14, G14⟩ := id A10
  obtain ⟨T14, h14, X14, e14, W14, st14⟩ := stI X6 hx hZ e6 B14 (j := (2 : Int32)) (x := u) (inb_of s14 (by decide)) (g := (mkF m 45 #[.val (.ref a1), .val (.int u)] [(.int u), (.int (2 : Int32)), (.ref ar)])) rfl rfl (hb hby da0_45)
  have A14 : Arv Z h14 ar kc .int (4 : Int32) [(.int el0), (.int el1), (.int u), (.int (0 : Int32))] (.int (0 : Int32)) := Arv.set B14 q14 s14 u14 H14 G14 rfl W14 2 (by decide) (by simp)
  have F15 : Fld Z h14 a1 "com/example/libpundit/libpundit/core/IntList" "values" "[I" (.ref ar) := F7.other W14 (Or.inl ne_a1_ar)
  have F16 : Fld Z h14 a1 "com/example/libpundit/libpundit/core/IntList" "size" "I" (.int (3 : Int32)) := Fw6.other W14 (Or.inl ne_a1_ar)
  have E17 : Exa Z h14 a1 "com/example/libpundit/libpundit/core/IntList" := E8.wr W14
  have E18 : Exa Z h14 ar "[I" := E9.wr W14
  have Z19 : n0 ≤ h14.size := Nat.le_trans Z11 (Nat.le_of_eq W14.size.symm)
  have N20 := Fr.snoc X14 N12 g_ar
  have K21 : Keep h0 h14 [a1, ar] := K13.wr W14 (Or.inl (List.mem_of_getElem? (i := 1) rfl))
  refine own_by st14 ?_
  show own_Go p e below (Qa2 Z a1 u ar kc el0 el1 h0 n0) (own_Fr s ({ frames := 0, cells := 0, slots := 0, locals := 0 } : Room).cells ({ frames := 0, cells := 0, slots := 0, locals := 0 } : Room).slots) (T14.setTop (mkF m 46 #[.val (.ref a1), .val (.int u)] []))
  refine own_ret0 X14 hx Bd.returns Bd.notSynchronized (hb hby da0_46) rfl (by decide) (by decide) ?_
  show Qa2 Z a1 u ar kc el0 el1 h0 n0 _ T14.heap _
  rw [e14]
  exact ⟨rfl, trivial, N20, K21, E17, E18, F15, F16, A14⟩
theorem ef_a3 (m : MethodId) (x0 : Addr) (x1 : Int32) : entryFrame m #[(.ref x0), (.int x1)] 2 = mkF m 0 #[.val (.ref x0), .val (.int x1)] [] := by first | (simp [entryFrame, mkF, argsToLocals, Value.category, maxLocals]; done) | rfl
def Qa3 (Z : State) (a1 : Addr) (u : Int32) (ar : Addr) (kc : ClassId) (el0 : Int32) (el1 : Int32) (el2 : Int32) (h0 : Heap) (n0 : Nat) (v : Option Value) (h : Heap) (L : List Loc) : Prop := v = none ∧ (True) ∧ Fr n0 L ∧ Keep h0 h [a1, ar] ∧ Exa Z h a1 "com/example/libpundit/libpundit/core/IntList" ∧ Exa Z h ar "[I" ∧ Fld Z h a1 "com/example/libpundit/libpundit/core/IntList" "values" "[I" (.ref ar) ∧ Fld Z h a1 "com/example/libpundit/libpundit/core/IntList" "size" "I" (.int (4 : Int32)) ∧ Arv Z h ar kc .int (4 : Int32) [(.int el0), (.int el1), (.int el2), (.int u)] (.int (0 : Int32))
set_option maxRecDepth 65536 in
set_option maxHeartbeats 40000000 in
theorem rma3 (l : Launch) (Z : State) (a0 : Array Value) (hw : ∀ d ∈ tables_1, d.before a0 Z = true) (ws : List Jvm.Cond) (a1 : Addr) (u : Int32) (ar : Addr) (kc : ClassId) (el0 : Int32) (el1 : Int32) (el2 : Int32) (h0 : Heap) (n0 : Nat) (Z0 : n0 ≤ h0.size) (E_a1 : Exa Z h0 a1 "com/example/libpundit/libpundit/core/IntList") (E_ar : Exa Z h0 ar "[I") (F_values_a1 : Fld Z h0 a1 "com/example/libpundit/libpundit/core/IntList" "values" "[I" (.ref ar)) (F_size_a1 : Fld Z h0 a1 "com/example/libpundit/libpundit/core/IntList" "size" "I" (.int (3 : Int32))) (A_ar : Arv Z h0 ar kc .int (4 : Int32) [(.int el0), (.int el1), (.int el2), (.int (0 : Int32))] (.int (0 : Int32))) (g_a1 : n0 ≤ a1) (g_ar : n0 ≤ ar) (ne_a1_ar : a1 ≠ ar) :
    MetFree l (⟨"com/example/libpundit/libpundit/core/IntList", "add", "(I)V"⟩ : MethodName) (head1 (Jvm.Cond.code (⟨"com/example/libpundit/libpundit/core/IntList", "add", "(I)V"⟩ : MethodName) prog_21_method_2_code 2 none :: ws) ({ frames := 0, cells := 0, slots := 0, locals := 0 } : Room)) (fun a U => a = #[(.ref a1), (.int u)] ∧ Z.Warmed39 U.vm ∧ U.heap = h0) (fun _ _ _ _ _ => True) (fun _ U o U' => ∃ v L, o = .returned v ∧ Qa3 Z a1 u ar kc el0 el1 el2 h0 n0 v U'.heap L ∧ FrameEnd U o U' L ({ frames := 0, cells := 0, slots := 0, locals := 0 } : Room).cells ({ frames := 0, cells := 0, slots := 0, locals := 0 } : Room).slots) := by
  refine MetFree.of_bodySF (plainFor_of_name pn_1) hisR ?_
  intro p e s m args below meth c s₁ Bd hml0 hP hK
  obtain ⟨rfl, hZ, hh⟩ := hP
  have hx := Bd.exec
  have hby := Bd.bytes
  have hml : c.maxLocals = 2 := hml0
  have hown : s.vm.findClass "com/example/libpundit/libpundit/core/IntList" = some m.cls := findClass_of_methodNamed Bd.named
  have hnm := (name_of_methodNamed Bd.named Bd.method).1
  have X0 : Stand p l e ({ frames := 0, cells := 0, slots := 0, locals := 0 } : Room) s m #[(.ref a1), (.int u)] below meth c s₁ [] 0 0 := Stand.of_body Bd
  have e0 : s₁.heap = h0 := by rw [← hh, Bd.state]; rfl
  have N0 := Fr.nil n0
  change own_Go p e below (Qa3 Z a1 u ar kc el0 el1 el2 h0 n0) (own_Fr s ({ frames := 0, cells := 0, slots := 0, locals := 0 } : Room).cells ({ frames := 0, cells := 0, slots := 0, locals := 0 } : Room).slots) (s₁.setTop (entryFrame m #[(.ref a1), (.int u)] 2))
  rw [ef_a3 m a1 u]
  have ru := rng32 u
  have rel0 := rng32 el0
  have rel1 := rng32 el1
  have rel2 := rng32 el2
  have K0 : Keep h0 h0 [a1, ar] := Keep.refl h0 [a1, ar]
  refine own_aloadN (pc' := 1) X0 hx rfl rfl (hb hby da0_0) rfl ?_
  obtain ⟨T1, X1, e1, st1⟩ := getF X0 hx hZ hown (host := "") (Or.inl (hw _ (List.mem_of_getElem? (i := 18) rfl))) Via.refl e0 F_size_a1 (g := (mkF m 1 #[.val (.ref a1), .val (.int u)] [(.ref a1)])) rfl rfl (hb hby da0_1)
  refine own_by st1 ?_
  show own_Go p e below (Qa3 Z a1 u ar kc el0 el1 el2 h0 n0) (own_Fr s ({ frames := 0, cells := 0, slots := 0, locals := 0 } : Room).cells ({ frames := 0, cells := 0, slots := 0, locals := 0 } : Room).slots) (T1.setTop (mkF m 4 #[.val (.ref a1), .val (.int u)] [(.int (3 : Int32))]))
  refine own_aloadN (pc' := 5) X1 hx rfl rfl (hb hby da0_4) rfl ?_
  obtain ⟨T2, X2, e2, st2⟩ := getF X1 hx hZ hown (host := "") (Or.inl (hw _ (List.mem_of_getElem? (i := 11) rfl))) Via.refl e1 F_values_a1 (g := (mkF m 5 #[.val (.ref a1), .val (.int u)] [(.ref a1), (.int (3 : Int32))])) rfl rfl (hb hby da0_5)
  refine own_by st2 ?_
  show own_Go p e below (Qa3 Z a1 u ar kc el0 el1 el2 h0 n0) (own_Fr s ({ frames := 0, cells := 0, slots := 0, locals := 0 } : Room).cells ({ frames := 0, cells := 0, slots := 0, locals := 0 } : Room).slots) (T2.setTop (mkF m 8 #[.val (.ref a1), .val (.int u)] [(.ref ar), (.int (3 : Int32))]))
  obtain ⟨c3, B3, q3, s3, u3, H3, G3⟩ := id A_ar
  refine own_by (X2.arraylength hx (by rw [e2]; exact B3.1) (State.isArrayOf_alike hZ.alike B3.2.1) (g := (mkF m 8 #[.val (.ref a1), .val (.int u)] [(.ref ar), (.int (3 : Int32))])) rfl rfl (hb hby da0_8)) ?_
  rw [len_of s3 u3]
  show own_Go p e below (Qa3 Z a1 u ar kc el0 el1 el2 h0 n0) (own_Fr s ({ frames := 0, cells := 0, slots := 0, locals := 0 } : Room).cells ({ frames := 0, cells := 0, slots := 0, locals := 0 } : Room).slots) (T2.setTop (mkF m 9 #[.val (.ref a1), .val (.int u)] [(.int (4 : Int32)), (.int (3 : Int32))]))
  refine own_icmpYes (pc' := 29) X2 hx (hb hby da0_9) (by decide) (by decide) (by decide) ?_
  refine own_aloadN (pc' := 30) X2 hx rfl rfl (hb hby da0_29) rfl ?_
  obtain ⟨T4, X4, e4, st4⟩ := getF X2 hx hZ hown (host := "") (Or.inl (hw _ (List.mem_of_getElem? (i := 11) rfl))) Via.refl e2 F_values_a1 (g := (mkF m 30 #[.val (.ref a1), .val (.int u)] [(.ref a1)])) rfl rfl (hb hby da0_30)
  refine own_by st4 ?_
  show own_Go p e below (Qa3 Z a1 u ar kc el0 el1 el2 h0 n0) (own_Fr s ({ frames := 0, cells := 0, slots := 0, locals := 0 } : Room).cells ({ frames := 0, cells := 0, slots := 0, locals := 0 } : Room).slots) (T4.setTop (mkF m 33 #[.val (.ref a1), .val (.int u)] [(.ref ar)]))
  refine own_aloadN (pc' := 34) X4 hx rfl rfl (hb hby da0_33) rfl ?_
  refine own_dup (pc' := 35) X4 hx rfl (hb hby da0_34) rfl ?_
  obtain ⟨T5, X5, e5, st5⟩ := getF X4 hx hZ hown (host := "") (Or.inl (hw _ (List.mem_of_getElem? (i := 18) rfl))) Via.refl e4 F_size_a1 (g := (mkF m 35 #[.val (.ref a1), .val (.int u)] [(.ref a1), (.ref a1), (.ref ar)])) rfl rfl (hb hby da0_35)
  refine own_by st5 ?_
  show own_Go p e below (Qa3 Z a1 u ar kc el0 el1 el2 h0 n0) (own_Fr s ({ frames := 0, cells := 0, slots := 0, locals := 0 } : Room).cells ({ frames := 0, cells := 0, slots := 0, locals := 0 } : Room).slots) (T5.setTop (mkF m 38 #[.val (.ref a1), .val (.int u)] [(.int (3 : Int32)), (.ref a1), (.ref ar)]))
  refine own_dupX1 (pc' := 39) X5 hx rfl rfl (hb hby da0_38) rfl ?_
  refine own_iconst (pc' := 40) X5 hx (1 : Int32) (by decide) (hb hby da0_39) rfl ?_
  refine own_iadd (pc' := 41) X5 hx (z := (4 : Int32)) (by decide) (hb hby da0_40) rfl ?_
  obtain ⟨T6, h6, X6, e6, W6, st6⟩ := putF X5 hx hZ hown (host := "") (Or.inl (hw _ (List.mem_of_getElem? (i := 18) rfl))) Via.refl e5 F_size_a1 E_a1 (Or.inl (hw _ (List.mem_of_getElem? (i := 19) rfl))) (hw _ (List.mem_of_getElem? (i := 2) rfl)) (ty := .int) (by decide) rfl rfl (g := (mkF m 41 #[.val (.ref a1), .val (.int u)] [(.int (4 : Int32)), (.ref a1), (.int (3 : Int32)), (.ref ar)])) rfl rfl (hb hby da0_41)
  have Fw6 : Fld Z h6 a1 "com/example/libpundit/libpundit/core/IntList" "size" "I" (.int (4 : Int32)) := F_size_a1.same W6
  have F7 : Fld Z h6 a1 "com/example/libpundit/libpundit/core/IntList" "values" "[I" (.ref ar) := F_values_a1.other W6 (Or.inr (slot_ne (Or.inl (hw _ (List.mem_of_getElem? (i := 12) rfl))) (Or.inl (hw _ (List.mem_of_getElem? (i := 19) rfl))) (by decide) (t := (.array .int)) (by decide) (t' := .int) (by decide)))
  have E8 : Exa Z h6 a1 "com/example/libpundit/libpundit/core/IntList" := E_a1.wr W6
  have E9 : Exa Z h6 ar "[I" := E_ar.wr W6
  have A10 : Arv Z h6 ar kc .int (4 : Int32) [(.int el0), (.int el1), (.int el2), (.int (0 : Int32))] (.int (0 : Int32)) := A_ar.other W6 (Ne.symm ne_a1_ar)
  have Z11 : n0 ≤ h6.size := Nat.le_trans Z0 (Nat.le_of_eq W6.size.symm)
  have N12 := Fr.snoc X6 N0 g_a1
  have K13 : Keep h0 h6 [a1, ar] := K0.wr W6 (Or.inl (List.mem_of_getElem? (i := 0) rfl))
  refine own_by st6 ?_
  show own_Go p e below (Qa3 Z a1 u ar kc el0 el1 el2 h0 n0) (own_Fr s ({ frames := 0, cells := 0, slots := 0, locals := 0 } : Room).cells ({ frames := 0, cells := 0, slots := 0, locals := 0 } : Room).slots) (T6.setTop (mkF m 44 #[.val (.ref a1), .val (.int u)] [(.int (3 : Int32)), (.ref ar)]))
  refine own_iloadN (pc' := 45) X6 hx rfl (hb hby da0_44) rfl ?_
  obtain ⟨c14, B14, q14, s14, u14, H14, G14⟩ := id A10
  obtain ⟨T14, h14, X14, e14, W14, st14⟩ := stI X6 hx hZ e6 B14 (j := (3 : Int32)) (x := u) (inb_of s14 (by decide)) (g := (mkF m 45 #[.val (.ref a1), .val (.int u)] [(.int u), (.int (3 : Int32)), (.ref ar)])) rfl rfl (hb hby da0_45)
  have A14 : Arv Z h14 ar kc .int (4 : Int32) [(.int el0), (.int el1), (.int el2), (.int u)] (.int (0 : Int32)) := Arv.set B14 q14 s14 u14 H14 G14 rfl W14 3 (by decide) (by simp)
  have F15 : Fld Z h14 a1 "com/example/libpundit/libpundit/core/IntList" "values" "[I" (.ref ar) := F7.other W14 (Or.inl ne_a1_ar)
  have F16 : Fld Z h14 a1 "com/example/libpundit/libpundit/core/IntList" "size" "I" (.int (4 : Int32)) := Fw6.other W14 (Or.inl ne_a1_ar)
  have E17 : Exa Z h14 a1 "com/example/libpundit/libpundit/core/IntList" := E8.wr W14
  have E18 : Exa Z h14 ar "[I" := E9.wr W14
  have Z19 : n0 ≤ h14.size := Nat.le_trans Z11 (Nat.le_of_eq W14.size.symm)
  have N20 := Fr.snoc X14 N12 g_ar
  have K21 : Keep h0 h14 [a1, ar] := K13.wr W14 (Or.inl (List.mem_of_getElem? (i := 1) rfl))
  refine own_by st14 ?_
  show own_Go p e below (Qa3 Z a1 u ar kc el0 el1 el2 h0 n0) (own_Fr s ({ frames := 0, cells := 0, slots := 0, locals := 0 } : Room).cells ({ frames := 0, cells := 0, slots := 0, locals := 0 } : Room).slots) (T14.setTop (mkF m 46 #[.val (.ref a1), .val (.int u)] []))
  refine own_ret0 X14 hx Bd.returns Bd.notSynchronized (hb hby da0_46) rfl (by decide) (by decide) ?_
  show Qa3 Z a1 u ar kc el0 el1 el2 h0 n0 _ T14.heap _
  rw [e14]
  exact ⟨rfl, trivial, N20, K21, E17, E18, F15, F16, A14⟩
theorem ef_a4 (m : MethodId) (x0 : Addr) (x1 : Int32) : entryFrame m #[(.ref x0), (.int x1)] 2 = mkF m 0 #[.val (.ref x0), .val (.int x1)] [] := by first | (simp [entryFrame, mkF, argsToLocals, Value.category, maxLocals]; done) | rfl
def Qa4 (Z : State) (a1 : Addr) (u : Int32) (ar : Addr) (kc : ClassId) (el0 : Int32) (el1 : Int32) (el2 : Int32) (el3 : Int32) (h0 : Heap) (n0 : Nat) (v : Option Value) (h : Heap) (L : List Loc) : Prop := ∃ q : Addr, ∃ kd : ClassId, v = none ∧ (True) ∧ Fr n0 L ∧ Keep h0 h [a1] ∧ h0.size ≤ q ∧ Exa Z h a1 "com/example/libpundit/libpundit/core/IntList" ∧ Exa Z h q "[I" ∧ Fld Z h a1 "com/example/libpundit/libpundit/core/IntList" "values" "[I" (.ref q) ∧ Fld Z h a1 "com/example/libpundit/libpundit/core/IntList" "size" "I" (.int (5 : Int32)) ∧ Arv Z h q kd .int (8 : Int32) [(.int el0), (.int el1), (.int el2), (.int el3), (.int u), (.int (0 : Int32)), (.int (0 : Int32)), (.int (0 : Int32))] (.int (0 : Int32))
set_option maxRecDepth 65536 in
set_option maxHeartbeats 40000000 in
theorem rma4 (l : Launch) (Z : State) (a0 : Array Value) (hw : ∀ d ∈ tables_1, d.before a0 Z = true) (ws : List Jvm.Cond) (a1 : Addr) (u : Int32) (ar : Addr) (kc : ClassId) (el0 : Int32) (el1 : Int32) (el2 : Int32) (el3 : Int32) (h0 : Heap) (n0 : Nat) (Z0 : n0 ≤ h0.size) (E_a1 : Exa Z h0 a1 "com/example/libpundit/libpundit/core/IntList") (E_ar : Exa Z h0 ar "[I") (F_values_a1 : Fld Z h0 a1 "com/example/libpundit/libpundit/core/IntList" "values" "[I" (.ref ar)) (F_size_a1 : Fld Z h0 a1 "com/example/libpundit/libpundit/core/IntList" "size" "I" (.int (4 : Int32))) (A_ar : Arv Z h0 ar kc .int (4 : Int32) [(.int el0), (.int el1), (.int el2), (.int el3)] (.int (0 : Int32))) (g_a1 : n0 ≤ a1) (ne_a1_ar : a1 ≠ ar) :
    MetFree l (⟨"com/example/libpundit/libpundit/core/IntList", "add", "(I)V"⟩ : MethodName) (head1 (Jvm.Cond.code (⟨"com/example/libpundit/libpundit/core/IntList", "add", "(I)V"⟩ : MethodName) prog_21_method_2_code 2 none :: ws) ({ frames := 2, cells := 1, slots := 8, locals := 64 } : Room)) (fun a U => a = #[(.ref a1), (.int u)] ∧ Z.Warmed39 U.vm ∧ U.heap = h0) (fun _ _ _ _ _ => True) (fun _ U o U' => ∃ v L, o = .returned v ∧ Qa4 Z a1 u ar kc el0 el1 el2 el3 h0 n0 v U'.heap L ∧ FrameEnd U o U' L ({ frames := 2, cells := 1, slots := 8, locals := 64 } : Room).cells ({ frames := 2, cells := 1, slots := 8, locals := 64 } : Room).slots) := by
  refine MetFree.of_bodySF (plainFor_of_name pn_1) hisR ?_
  intro p e s m args below meth c s₁ Bd hml0 hP hK
  obtain ⟨rfl, hZ, hh⟩ := hP
  have hx := Bd.exec
  have hby := Bd.bytes
  have hml : c.maxLocals = 2 := hml0
  have hown : s.vm.findClass "com/example/libpundit/libpundit/core/IntList" = some m.cls := findClass_of_methodNamed Bd.named
  have hnm := (name_of_methodNamed Bd.named Bd.method).1
  have X0 : Stand p l e ({ frames := 2, cells := 1, slots := 8, locals := 64 } : Room) s m #[(.ref a1), (.int u)] below meth c s₁ [] 0 0 := Stand.of_body Bd
  have e0 : s₁.heap = h0 := by rw [← hh, Bd.state]; rfl
  have N0 := Fr.nil n0
  change own_Go p e below (Qa4 Z a1 u ar kc el0 el1 el2 el3 h0 n0) (own_Fr s ({ frames := 2, cells := 1, slots := 8, locals := 64 } : Room).cells ({ frames := 2, cells := 1, slots := 8, locals := 64 } : Room).slots) (s₁.setTop (entryFrame m #[(.ref a1), (.int u)] 2))
  rw [ef_a4 m a1 u]
  have ru := rng32 u
  have rel0 := rng32 el0
  have rel1 := rng32 el1
  have rel2 := rng32 el2
  have rel3 := rng32 el3
  have K0 : Keep h0 h0 [a1] := Keep.refl h0 [a1]
  refine own_aloadN (pc' := 1) X0 hx rfl rfl (hb hby da0_0) rfl ?_
  obtain ⟨T1, X1, e1, st1⟩ := getF X0 hx hZ hown (host := "") (Or.inl (hw _ (List.mem_of_getElem? (i := 18) rfl))) Via.refl e0 F_size_a1 (g := (mkF m 1 #[.val (.ref a1), .val (.int u)] [(.ref a1)])) rfl rfl (hb hby da0_1)
  refine own_by st1 ?_
  show own_Go p e below (Qa4 Z a1 u ar kc el0 el1 el2 el3 h0 n0) (own_Fr s ({ frames := 2, cells := 1, slots := 8, locals := 64 } : Room).cells ({ frames := 2, cells := 1, slots := 8, locals := 64 } : Room).slots) (T1.setTop (mkF m 4 #[.val (.ref a1), .val (.int u)] [(.int (4 : Int32))]))
  refine own_aloadN (pc' := 5) X1 hx rfl rfl (hb hby da0_4) rfl ?_
  obtain ⟨T2, X2, e2, st2⟩ := getF X1 hx hZ hown (host := "") (Or.inl (hw _ (List.mem_of_getElem? (i := 11) rfl))) Via.refl e1 F_values_a1 (g := (mkF m 5 #[.val (.ref a1), .val (.int u)] [(.ref a1), (.int (4 : Int32))])) rfl rfl (hb hby da0_5)
  refine own_by st2 ?_
  show own_Go p e below (Qa4 Z a1 u ar kc el0 el1 el2 el3 h0 n0) (own_Fr s ({ frames := 2, cells := 1, slots := 8, locals := 64 } : Room).cells ({ frames := 2, cells := 1, slots := 8, locals := 64 } : Room).slots) (T2.setTop (mkF m 8 #[.val (.ref a1), .val (.int u)] [(.ref ar), (.int (4 : Int32))]))
  obtain ⟨c3, B3, q3, s3, u3, H3, G3⟩ := id A_ar
  refine own_by (X2.arraylength hx (by rw [e2]; exact B3.1) (State.isArrayOf_alike hZ.alike B3.2.1) (g := (mkF m 8 #[.val (.ref a1), .val (.int u)] [(.ref ar), (.int (4 : Int32))])) rfl rfl (hb hby da0_8)) ?_
  rw [len_of s3 u3]
  show own_Go p e below (Qa4 Z a1 u ar kc el0 el1 el2 el3 h0 n0) (own_Fr s ({ frames := 2, cells := 1, slots := 8, locals := 64 } : Room).cells ({ frames := 2, cells := 1, slots := 8, locals := 64 } : Room).slots) (T2.setTop (mkF m 9 #[.val (.ref a1), .val (.int u)] [(.int (4 : Int32)), (.int (4 : Int32))]))
  refine own_icmpNo (pc' := 12) X2 hx (by decide) (hb hby da0_9) rfl ?_
  refine own_aloadN (pc' := 13) X2 hx rfl rfl (hb hby da0_12) rfl ?_
  refine own_aloadN (pc' := 14) X2 hx rfl rfl (hb hby da0_13) rfl ?_
  obtain ⟨T4, X4, e4, st4⟩ := getF X2 hx hZ hown (host := "") (Or.inl (hw _ (List.mem_of_getElem? (i := 11) rfl))) Via.refl e2 F_values_a1 (g := (mkF m 14 #[.val (.ref a1), .val (.int u)] [(.ref a1), (.ref a1)])) rfl rfl (hb hby da0_14)
  refine own_by st4 ?_
  show own_Go p e below (Qa4 Z a1 u ar kc el0 el1 el2 el3 h0 n0) (own_Fr s ({ frames := 2, cells := 1, slots := 8, locals := 64 } : Room).cells ({ frames := 2, cells := 1, slots := 8, locals := 64 } : Room).slots) (T4.setTop (mkF m 17 #[.val (.ref a1), .val (.int u)] [(.ref ar), (.ref a1)]))
  refine own_iconst (pc' := 18) X4 hx (2 : Int32) (by decide) (hb hby da0_17) rfl ?_
  refine own_aloadN (pc' := 19) X4 hx rfl rfl (hb hby da0_18) rfl ?_
  obtain ⟨T5, X5, e5, st5⟩ := getF X4 hx hZ hown (host := "") (Or.inl (hw _ (List.mem_of_getElem? (i := 18) rfl))) Via.refl e4 F_size_a1 (g := (mkF m 19 #[.val (.ref a1), .val (.int u)] [(.ref a1), (.int (2 : Int32)), (.ref ar), (.ref a1)])) rfl rfl (hb hby da0_19)
  refine own_by st5 ?_
  show own_Go p e below (Qa4 Z a1 u ar kc el0 el1 el2 el3 h0 n0) (own_Fr s ({ frames := 2, cells := 1, slots := 8, locals := 64 } : Room).cells ({ frames := 2, cells := 1, slots := 8, locals := 64 } : Room).slots) (T5.setTop (mkF m 22 #[.val (.ref a1), .val (.int u)] [(.int (4 : Int32)), (.int (2 : Int32)), (.ref ar), (.ref a1)]))
  refine own_imul (pc' := 23) X5 hx (z := (8 : Int32)) (by decide) (hb hby da0_22) rfl ?_
  obtain ⟨_, _, ⟨T6, L6, k6, n6⟩, -, X6, ⟨Lc6, hQ6, l6, y6, z6⟩, st6⟩ := Jvm.LawKit.callS X5 hx (y := (⟨"java/util/Arrays", "copyOf", "([II)[I"⟩ : MethodName)) hown (mvT hZ (hw _ (List.mem_of_getElem? (i := 25) rfl))) (mvT hZ (hw _ (List.mem_of_getElem? (i := 26) rfl))) (mvT hZ (hw _ (List.mem_of_getElem? (i := 27) rfl))) (mvT hZ (hw _ (List.mem_of_getElem? (i := 28) rfl))) (by decide) (backOf (W := 1) (rmc4_8 l Z a0 hw [] ar kc el0 el1 el2 el3 h0 n0 Z0 E_ar A_ar) hZ (hw _ (List.mem_of_getElem? (i := 28) rfl)) (hw _ (List.mem_of_getElem? (i := 27) rfl)) (by decide) (by decide)) (g := (mkF m 23 #[.val (.ref a1), .val (.int u)] [(.int (8 : Int32)), (.ref ar), (.ref a1)])) rfl (by rw [hml]; rfl) (argsL := [(.ref ar), (.int (8 : Int32))]) (rest := [(.ref a1)]) (lenOf pd_1 rfl) rfl (by show 2 * 0 + _ ≤ _; exact Nat.le_of_eq rfl) (hb hby da0_23) (fun _ _ => ⟨rfl, e5, (by decide : 0 + 1 ≤ _), (by decide : 0 + 8 ≤ _)⟩)
  dsimp only [Pt.U, Pt.locs, Pt.cells, Pt.slots] at X6 l6 y6 z6 st6 hQ6
  subst l6 y6 z6
  obtain ⟨q_6, kd_6, rfl, pp6, N6, Kc6, gc6_q, Ec6_q, Ac6_q⟩ := hQ6
  have n7 : a1 ≠ q_6 := Nat.ne_of_lt (Nat.lt_of_lt_of_le E_a1.lt gc6_q)
  have n8 : ar ≠ q_6 := Nat.ne_of_lt (Nat.lt_of_lt_of_le E_ar.lt gc6_q)
  have frq_6 : n0 ≤ q_6 := Nat.le_trans Z0 gc6_q
  have y9 : h0.size ≤ q_6 := Nat.le_trans K0.1 gc6_q
  have F10 : Fld Z T6.heap a1 "com/example/libpundit/libpundit/core/IntList" "values" "[I" (.ref ar) := F_values_a1.keep Kc6 nin0
  have F11 : Fld Z T6.heap a1 "com/example/libpundit/libpundit/core/IntList" "size" "I" (.int (4 : Int32)) := F_size_a1.keep Kc6 nin0
  have E12 : Exa Z T6.heap a1 "com/example/libpundit/libpundit/core/IntList" := E_a1.keep Kc6
  have E13 : Exa Z T6.heap ar "[I" := E_ar.keep Kc6
  have A14 : Arv Z T6.heap ar kc .int (4 : Int32) [(.int el0), (.int el1), (.int el2), (.int el3)] (.int (0 : Int32)) := A_ar.keep Kc6 nin0
  have Z15 : n0 ≤ T6.heap.size := Nat.le_trans Z0 Kc6.1
  have K16 : Keep h0 T6.heap [a1] := K0.trans Kc6 all0
  have N6a := Fr.app N0 N6
  refine own_by st6 ?_
  show own_Go p e below (Qa4 Z a1 u ar kc el0 el1 el2 el3 h0 n0) (own_Fr s ({ frames := 2, cells := 1, slots := 8, locals := 64 } : Room).cells ({ frames := 2, cells := 1, slots := 8, locals := 64 } : Room).slots) (T6.setTop (mkF m 26 #[.val (.ref a1), .val (.int u)] [(.ref q_6), (.ref a1)]))
  obtain ⟨T17, h17, X17, e17, W17, st17⟩ := putF X6 hx hZ hown (host := "") (Or.inl (hw _ (List.mem_of_getElem? (i := 11) rfl))) Via.refl rfl F10 E12 (Or.inl (hw _ (List.mem_of_getElem? (i := 12) rfl))) (hw _ (List.mem_of_getElem? (i := 2) rfl)) (ty := (.array .int)) (by decide) rfl rfl (g := (mkF m 26 #[.val (.ref a1), .val (.int u)] [(.ref q_6), (.ref a1)])) rfl rfl (hb hby da0_26)
  have Fw17 : Fld Z h17 a1 "com/example/libpundit/libpundit/core/IntList" "values" "[I" (.ref q_6) := F10.same W17
  have F18 : Fld Z h17 a1 "com/example/libpundit/libpundit/core/IntList" "size" "I" (.int (4 : Int32)) := F11.other W17 (Or.inr (slot_ne (Or.inl (hw _ (List.mem_of_getElem? (i := 19) rfl))) (Or.inl (hw _ (List.mem_of_getElem? (i := 12) rfl))) (by decide) (t := .int) (by decide) (t' := (.array .int)) (by decide)))
  have E19 : Exa Z h17 a1 "com/example/libpundit/libpundit/core/IntList" := E12.wr W17
  have E20 : Exa Z h17 ar "[I" := E13.wr W17
  have E21 : Exa Z h17 q_6 "[I" := Ec6_q.wr W17
  have A22 : Arv Z h17 ar kc .int (4 : Int32) [(.int el0), (.int el1), (.int el2), (.int el3)] (.int (0 : Int32)) := A14.other W17 (Ne.symm ne_a1_ar)
  have A23 : Arv Z h17 q_6 kd_6 .int (8 : Int32) [(.int el0), (.int el1), (.int el2), (.int el3), (.int (0 : Int32)), (.int (0 : Int32)), (.int (0 : Int32)), (.int (0 : Int32))] (.int (0 : Int32)) := Ac6_q.other W17 (Ne.symm n7)
  have Z24 : n0 ≤ h17.size := Nat.le_trans Z15 (Nat.le_of_eq W17.size.symm)
  have N25 := Fr.snoc X17 N6a g_a1
  have K26 : Keep h0 h17 [a1] := K16.wr W17 (Or.inl (List.mem_of_getElem? (i := 0) rfl))
  refine own_by st17 ?_
  show own_Go p e below (Qa4 Z a1 u ar kc el0 el1 el2 el3 h0 n0) (own_Fr s ({ frames := 2, cells := 1, slots := 8, locals := 64 } : Room).cells ({ frames := 2, cells := 1, slots := 8, locals := 64 } : Room).slots) (T17.setTop (mkF m 29 #[.val (.ref a1), .val (.int u)] []))
  refine own_aloadN (pc' := 30) X17 hx rfl rfl (hb hby da0_29) rfl ?_
  obtain ⟨T27, X27, e27, st27⟩ := getF X17 hx hZ hown (host := "") (Or.inl (hw _ (List.mem_of_getElem? (i := 11) rfl))) Via.refl e17 Fw17 (g := (mkF m 30 #[.val (.ref a1), .val (.int u)] [(.ref a1)])) rfl rfl (hb hby da0_30)
  refine own_by st27 ?_
  show own_Go p e below (Qa4 Z a1 u ar kc el0 el1 el2 el3 h0 n0) (own_Fr s ({ frames := 2, cells := 1, slots := 8, locals := 64 } : Room).cells ({ frames := 2, cells := 1, slots := 8, locals := 64 } : Room).slots) (T27.setTop (mkF m 33 #[.val (.ref a1), .val (.int u)] [(.ref q_6)]))
  refine own_aloadN (pc' := 34) X27 hx rfl rfl (hb hby da0_33) rfl ?_
  refine own_dup (pc' := 35) X27 hx rfl (hb hby da0_34) rfl ?_
  obtain ⟨T28, X28, e28, st28⟩ := getF X27 hx hZ hown (host := "") (Or.inl (hw _ (List.mem_of_getElem? (i := 18) rfl))) Via.refl e27 F18 (g := (mkF m 35 #[.val (.ref a1), .val (.int u)] [(.ref a1), (.ref a1), (.ref q_6)])) rfl rfl (hb hby da0_35)
  refine own_by st28 ?_
  show own_Go p e below (Qa4 Z a1 u ar kc el0 el1 el2 el3 h0 n0) (own_Fr s ({ frames := 2, cells := 1, slots := 8, locals := 64 } : Room).cells ({ frames := 2, cells := 1, slots := 8, locals := 64 } : Room).slots) (T28.setTop (mkF m 38 #[.val (.ref a1), .val (.int u)] [(.int (4 : Int32)), (.ref a1), (.ref q_6)]))
  refine own_dupX1 (pc' := 39) X28 hx rfl rfl (hb hby da0_38) rfl ?_
  refine own_iconst (pc' := 40) X28 hx (1 : Int32) (by decide) (hb hby da0_39) rfl ?_
  refine own_iadd (pc' := 41) X28 hx (z := (5 : Int32)) (by decide) (hb hby da0_40) rfl ?_
  obtain ⟨T29, h29, X29, e29, W29, st29⟩ := putF X28 hx hZ hown (host := "") (Or.inl (hw _ (List.mem_of_getElem? (i := 18) rfl))) Via.refl e28 F18 E19 (Or.inl (hw _ (List.mem_of_getElem? (i := 19) rfl))) (hw _ (List.mem_of_getElem? (i := 2) rfl)) (ty := .int) (by decide) rfl rfl (g := (mkF m 41 #[.val (.ref a1), .val (.int u)] [(.int (5 : Int32)), (.ref a1), (.int (4 : Int32)), (.ref q_6)])) rfl rfl (hb hby da0_41)
  have Fw29 : Fld Z h29 a1 "com/example/libpundit/libpundit/core/IntList" "size" "I" (.int (5 : Int32)) := F18.same W29
  have F30 : Fld Z h29 a1 "com/example/libpundit/libpundit/core/IntList" "values" "[I" (.ref q_6) := Fw17.other W29 (Or.inr (slot_ne (Or.inl (hw _ (List.mem_of_getElem? (i := 12) rfl))) (Or.inl (hw _ (List.mem_of_getElem? (i := 19) rfl))) (by decide) (t := (.array .int)) (by decide) (t' := .int) (by decide)))
  have E31 : Exa Z h29 a1 "com/example/libpundit/libpundit/core/IntList" := E19.wr W29
  have E32 : Exa Z h29 ar "[I" := E20.wr W29
  have E33 : Exa Z h29 q_6 "[I" := E21.wr W29
  have A34 : Arv Z h29 ar kc .int (4 : Int32) [(.int el0), (.int el1), (.int el2), (.int el3)] (.int (0 : Int32)) := A22.other W29 (Ne.symm ne_a1_ar)
  have A35 : Arv Z h29 q_6 kd_6 .int (8 : Int32) [(.int el0), (.int el1), (.int el2), (.int el3), (.int (0 : Int32)), (.int (0 : Int32)), (.int (0 : Int32)), (.int (0 : Int32))] (.int (0 : Int32)) := A23.other W29 (Ne.symm n7)
  have Z36 : n0 ≤ h29.size := Nat.le_trans Z24 (Nat.le_of_eq W29.size.symm)
  have N37 := Fr.snoc X29 N25 g_a1
  have K38 : Keep h0 h29 [a1] := K26.wr W29 (Or.inl (List.mem_of_getElem? (i := 0) rfl))
  refine own_by st29 ?_
  show own_Go p e below (Qa4 Z a1 u ar kc el0 el1 el2 el3 h0 n0) (own_Fr s ({ frames := 2, cells := 1, slots := 8, locals := 64 } : Room).cells ({ frames := 2, cells := 1, slots := 8, locals := 64 } : Room).slots) (T29.setTop (mkF m 44 #[.val (.ref a1), .val (.int u)] [(.int (4 : Int32)), (.ref q_6)]))
  refine own_iloadN (pc' := 45) X29 hx rfl (hb hby da0_44) rfl ?_
  obtain ⟨c39, B39, q39, s39, u39, H39, G39⟩ := id A35
  obtain ⟨T39, h39, X39, e39, W39, st39⟩ := stI X29 hx hZ e29 B39 (j := (4 : Int32)) (x := u) (inb_of s39 (by decide)) (g := (mkF m 45 #[.val (.ref a1), .val (.int u)] [(.int u), (.int (4 : Int32)), (.ref q_6)])) rfl rfl (hb hby da0_45)
  have A39 : Arv Z h39 q_6 kd_6 .int (8 : Int32) [(.int el0), (.int el1), (.int el2), (.int el3), (.int u), (.int (0 : Int32)), (.int (0 : Int32)), (.int (0 : Int32))] (.int (0 : Int32)) := Arv.set B39 q39 s39 u39 H39 G39 rfl W39 4 (by decide) (by simp)
  have F40 : Fld Z h39 a1 "com/example/libpundit/libpundit/core/IntList" "values" "[I" (.ref q_6) := F30.other W39 (Or.inl n7)
  have F41 : Fld Z h39 a1 "com/example/libpundit/libpundit/core/IntList" "size" "I" (.int (5 : Int32)) := Fw29.other W39 (Or.inl n7)
  have E42 : Exa Z h39 a1 "com/example/libpundit/libpundit/core/IntList" := E31.wr W39
  have E43 : Exa Z h39 ar "[I" := E32.wr W39
  have E44 : Exa Z h39 q_6 "[I" := E33.wr W39
  have A45 : Arv Z h39 ar kc .int (4 : Int32) [(.int el0), (.int el1), (.int el2), (.int el3)] (.int (0 : Int32)) := A34.other W39 n8
  have Z46 : n0 ≤ h39.size := Nat.le_trans Z36 (Nat.le_of_eq W39.size.symm)
  have N47 := Fr.snoc X39 N37 frq_6
  have K48 : Keep h0 h39 [a1] := K38.wr W39 (Or.inr y9)
  refine own_by st39 ?_
  show own_Go p e below (Qa4 Z a1 u ar kc el0 el1 el2 el3 h0 n0) (own_Fr s ({ frames := 2, cells := 1, slots := 8, locals := 64 } : Room).cells ({ frames := 2, cells := 1, slots := 8, locals := 64 } : Room).slots) (T39.setTop (mkF m 46 #[.val (.ref a1), .val (.int u)] []))
  refine own_ret0 X39 hx Bd.returns Bd.notSynchronized (hb hby da0_46) rfl (by decide) (by decide) ?_
  show Qa4 Z a1 u ar kc el0 el1 el2 el3 h0 n0 _ T39.heap _
  rw [e39]
  exact ⟨q_6, kd_6, rfl, trivial, N47, K48, y9, E42, E44, F40, F41, A39⟩
theorem pd_4 : parseMethodDescriptor "()[I" = some ⟨[], some (.array .int)⟩ := by decide +kernel
theorem dt0_0 : decode prog_21_method_5_code 0 = .ok (.aload_n 0, 1) := by decide +kernel
theorem dt0_1 : decode prog_21_method_5_code 1 = .ok (.getfield 7, 3) := by decide +kernel
theorem dt0_4 : decode prog_21_method_5_code 4 = .ok (.aload_n 0, 1) := by decide +kernel
theorem dt0_5 : decode prog_21_method_5_code 5 = .ok (.getfield 13, 3) := by decide +kernel
theorem dt0_8 : decode prog_21_method_5_code 8 = .ok (.invokestatic 17, 3) := by decide +kernel
theorem dt0_11 : decode prog_21_method_5_code 11 = .ok (.areturn, 1) := by decide +kernel
theorem ef_t0 (m : MethodId) (x0 : Addr) : entryFrame m #[(.ref x0)] 1 = mkF m 0 #[.val (.ref x0)] [] := by first | (simp [entryFrame, mkF, argsToLocals, Value.category, maxLocals]; done) | rfl
def Qt0 (Z : State) (a1 : Addr) (ar : Addr) (kc : ClassId) (h0 : Heap) (n0 : Nat) (v : Option Value) (h : Heap) (L : List Loc) : Prop := ∃ q : Addr, ∃ kd : ClassId, v = some (.ref q) ∧ (True) ∧ Fr n0 L ∧ Keep h0 h [] ∧ h0.size ≤ q ∧ Exa Z h q "[I" ∧ Arv Z h q kd .int (0 : Int32) [] (.int (0 : Int32))
set_option maxRecDepth 65536 in
set_option maxHeartbeats 40000000 in
theorem rmt0 (l : Launch) (Z : State) (a0 : Array Value) (hw : ∀ d ∈ tables_1, d.before a0 Z = true) (ws : List Jvm.Cond) (a1 : Addr) (ar : Addr) (kc : ClassId) (h0 : Heap) (n0 : Nat) (Z0 : n0 ≤ h0.size) (E_ar : Exa Z h0 ar "[I") (F_values_a1 : Fld Z h0 a1 "com/example/libpundit/libpundit/core/IntList" "values" "[I" (.ref ar)) (F_size_a1 : Fld Z h0 a1 "com/example/libpundit/libpundit/core/IntList" "size" "I" (.int (0 : Int32))) (A_ar : Arv Z h0 ar kc .int (4 : Int32) [(.int (0 : Int32)), (.int (0 : Int32)), (.int (0 : Int32)), (.int (0 : Int32))] (.int (0 : Int32))) :
    MetFree l (⟨"com/example/libpundit/libpundit/core/IntList", "toArray", "()[I"⟩ : MethodName) (head1 (Jvm.Cond.code (⟨"com/example/libpundit/libpundit/core/IntList", "toArray", "()[I"⟩ : MethodName) prog_21_method_5_code 1 (some (.array .int)) :: ws) ({ frames := 2, cells := 1, slots := 0, locals := 60 } : Room)) (fun a U => a = #[(.ref a1)] ∧ Z.Warmed39 U.vm ∧ U.heap = h0) (fun _ _ _ _ _ => True) (fun _ U o U' => ∃ v L, o = .returned v ∧ Qt0 Z a1 ar kc h0 n0 v U'.heap L ∧ FrameEnd U o U' L ({ frames := 2, cells := 1, slots := 0, locals := 60 } : Room).cells ({ frames := 2, cells := 1, slots := 0, locals := 60 } : Room).slots) := by
  refine MetFree.of_bodySF (plainFor_of_name pn_1) hisR ?_
  intro p e s m args below meth c s₁ Bd hml0 hP hK
  obtain ⟨rfl, hZ, hh⟩ := hP
  have hx := Bd.exec
  have hby := Bd.bytes
  have hml : c.maxLocals = 1 := hml0
  have hown : s.vm.findClass "com/example/libpundit/libpundit/core/IntList" = some m.cls := findClass_of_methodNamed Bd.named
  have hnm := (name_of_methodNamed Bd.named Bd.method).1
  have X0 : Stand p l e ({ frames := 2, cells := 1, slots := 0, locals := 60 } : Room) s m #[(.ref a1)] below meth c s₁ [] 0 0 := Stand.of_body Bd
  have e0 : s₁.heap = h0 := by rw [← hh, Bd.state]; rfl
  have N0 := Fr.nil n0
  change own_Go p e below (Qt0 Z a1 ar kc h0 n0) (own_Fr s ({ frames := 2, cells := 1, slots := 0, locals := 60 } : Room).cells ({ frames := 2, cells := 1, slots := 0, locals := 60 } : Room).slots) (s₁.setTop (entryFrame m #[(.ref a1)] 1))
  rw [ef_t0 m a1]
  have K0 : Keep h0 h0 [] := Keep.refl h0 []
  refine own_aloadN (pc' := 1) X0 hx rfl rfl (hb hby dt0_0) rfl ?_
  obtain ⟨T1, X1, e1, st1⟩ := getF X0 hx hZ hown (host := "") (Or.inl (hw _ (List.mem_of_getElem? (i := 11) rfl))) Via.refl e0 F_values_a1 (g := (mkF m 1 #[.val (.ref a1)] [(.ref a1)])) rfl rfl (hb hby dt0_1)
  refine own_by st1 ?_
  show own_Go p e below (Qt0 Z a1 ar kc h0 n0) (own_Fr s ({ frames := 2, cells := 1, slots := 0, locals := 60 } : Room).cells ({ frames := 2, cells := 1, slots := 0, locals := 60 } : Room).slots) (T1.setTop (mkF m 4 #[.val (.ref a1)] [(.ref ar)]))
  refine own_aloadN (pc' := 5) X1 hx rfl rfl (hb hby dt0_4) rfl ?_
  obtain ⟨T2, X2, e2, st2⟩ := getF X1 hx hZ hown (host := "") (Or.inl (hw _ (List.mem_of_getElem? (i := 18) rfl))) Via.refl e1 F_size_a1 (g := (mkF m 5 #[.val (.ref a1)] [(.ref a1), (.ref ar)])) rfl rfl (hb hby dt0_5)
  refine own_by st2 ?_
  show own_Go p e below (Qt0 Z a1 ar kc h0 n0) (own_Fr s ({ frames := 2, cells := 1, slots := 0, locals := 60 } : Room).cells ({ frames := 2, cells := 1, slots := 0, locals := 60 } : Room).slots) (T2.setTop (mkF m 8 #[.val (.ref a1)] [(.int (0 : Int32)), (.ref ar)]))
  have kq4 : (0 : Int32).toInt = 0 := by decide
  obtain ⟨_, _, ⟨T3, L3, k3, n3⟩, -, X3, ⟨Lc3, hQ3, l3, y3, z3⟩, st3⟩ := Jvm.LawKit.callS X2 hx (y := (⟨"java/util/Arrays", "copyOf", "([II)[I"⟩ : MethodName)) hown (mvT hZ (hw _ (List.mem_of_getElem? (i := 25) rfl))) (mvT hZ (hw _ (List.mem_of_getElem? (i := 26) rfl))) (mvT hZ (hw _ (List.mem_of_getElem? (i := 27) rfl))) (mvT hZ (hw _ (List.mem_of_getElem? (i := 28) rfl))) (by decide) (backOf (W := 0) (rmc4_0 l Z a0 hw [] ar kc (0 : Int32) (0 : Int32) (0 : Int32) (0 : Int32) h0 n0 Z0 E_ar A_ar) hZ (hw _ (List.mem_of_getElem? (i := 28) rfl)) (hw _ (List.mem_of_getElem? (i := 27) rfl)) (by decide) (by decide)) (g := (mkF m 8 #[.val (.ref a1)] [(.int (0 : Int32)), (.ref ar)])) rfl (by rw [hml]; rfl) (argsL := [(.ref ar), (.int (0 : Int32))]) (rest := []) (lenOf pd_1 rfl) rfl (by show 2 * 0 + _ ≤ _; exact Nat.le_of_eq rfl) (hb hby dt0_8) (fun _ _ => ⟨rfl, e2, (by decide : 0 + 1 ≤ _), (by decide : 0 + 0 ≤ _)⟩)
  dsimp only [Pt.U, Pt.locs, Pt.cells, Pt.slots] at X3 l3 y3 z3 st3 hQ3
  subst l3 y3 z3
  obtain ⟨q_3, kd_3, rfl, pp3, N3, Kc3, gc3_q, Ec3_q, Ac3_q⟩ := hQ3
  have n5 : ar ≠ q_3 := Nat.ne_of_lt (Nat.lt_of_lt_of_le E_ar.lt gc3_q)
  have n6 : a1 ≠ q_3 := Nat.ne_of_lt (Nat.lt_of_lt_of_le F_values_a1.lt gc3_q)
  have frq_3 : n0 ≤ q_3 := Nat.le_trans Z0 gc3_q
  have y7 : h0.size ≤ q_3 := Nat.le_trans K0.1 gc3_q
  have F8 : Fld Z T3.heap a1 "com/example/libpundit/libpundit/core/IntList" "values" "[I" (.ref ar) := F_values_a1.keep Kc3 nin0
  have F9 : Fld Z T3.heap a1 "com/example/libpundit/libpundit/core/IntList" "size" "I" (.int (0 : Int32)) := F_size_a1.keep Kc3 nin0
  have E10 : Exa Z T3.heap ar "[I" := E_ar.keep Kc3
  have A11 : Arv Z T3.heap ar kc .int (4 : Int32) [(.int (0 : Int32)), (.int (0 : Int32)), (.int (0 : Int32)), (.int (0 : Int32))] (.int (0 : Int32)) := A_ar.keep Kc3 nin0
  have Z12 : n0 ≤ T3.heap.size := Nat.le_trans Z0 Kc3.1
  have K13 : Keep h0 T3.heap [] := K0.trans Kc3 all0
  have N3a := Fr.app N0 N3
  refine own_by st3 ?_
  show own_Go p e below (Qt0 Z a1 ar kc h0 n0) (own_Fr s ({ frames := 2, cells := 1, slots := 0, locals := 60 } : Room).cells ({ frames := 2, cells := 1, slots := 0, locals := 60 } : Room).slots) (T3.setTop (mkF m 11 #[.val (.ref a1)] [(.ref q_3)]))
  refine own_ret X3 hx Bd.returns Bd.notSynchronized (Or.inr (Or.inr (Or.inr (Or.inr ⟨rfl, rfl, rfl⟩)))) (hb hby dt0_11) rfl (by decide) (by decide) ?_
  show Qt0 Z a1 ar kc h0 n0 _ T3.heap _
  exact ⟨q_3, kd_3, rfl, trivial, N3a, K13, y7, Ec3_q, Ac3_q⟩
theorem pd_5 : parseMethodDescriptor "()I" = some ⟨[], some .int⟩ := by decide +kernel
theorem dz0_0 : decode prog_21_method_3_code 0 = .ok (.aload_n 0, 1) := by decide +kernel
theorem dz0_1 : decode prog_21_method_3_code 1 = .ok (.getfield 13, 3) := by decide +kernel
theorem dz0_4 : decode prog_21_method_3_code 4 = .ok (.ireturn, 1) := by decide +kernel
theorem ef_z0 (m : MethodId) (x0 : Addr) : entryFrame m #[(.ref x0)] 1 = mkF m 0 #[.val (.ref x0)] [] := by first | (simp [entryFrame, mkF, argsToLocals, Value.category, maxLocals]; done) | rfl
def Qz0 (Z : State) (a1 : Addr) (h0 : Heap) (n0 : Nat) (v : Option Value) (h : Heap) (L : List Loc) : Prop := v = some (.int (0 : Int32)) ∧ (True) ∧ Fr n0 L ∧ h = h0
set_option maxRecDepth 65536 in
set_option maxHeartbeats 40000000 in
theorem rmz0 (l : Launch) (Z : State) (a0 : Array Value) (hw : ∀ d ∈ tables_1, d.before a0 Z = true) (ws : List Jvm.Cond) (a1 : Addr) (h0 : Heap) (n0 : Nat) (Z0 : n0 ≤ h0.size) (F_size_a1 : Fld Z h0 a1 "com/example/libpundit/libpundit/core/IntList" "size" "I" (.int (0 : Int32))) :
    MetFree l (⟨"com/example/libpundit/libpundit/core/IntList", "size", "()I"⟩ : MethodName) (head1 (Jvm.Cond.code (⟨"com/example/libpundit/libpundit/core/IntList", "size", "()I"⟩ : MethodName) prog_21_method_3_code 1 (some .int) :: ws) ({ frames := 0, cells := 0, slots := 0, locals := 0 } : Room)) (fun a U => a = #[(.ref a1)] ∧ Z.Warmed39 U.vm ∧ U.heap = h0) (fun _ _ _ _ _ => True) (fun _ U o U' => ∃ v L, o = .returned v ∧ Qz0 Z a1 h0 n0 v U'.heap L ∧ FrameEnd U o U' L ({ frames := 0, cells := 0, slots := 0, locals := 0 } : Room).cells ({ frames := 0, cells := 0, slots := 0, locals := 0 } : Room).slots) := by
  refine MetFree.of_bodySF (plainFor_of_name pn_1) hisR ?_
  intro p e s m args below meth c s₁ Bd hml0 hP hK
  obtain ⟨rfl, hZ, hh⟩ := hP
  have hx := Bd.exec
  have hby := Bd.bytes
  have hml : c.maxLocals = 1 := hml0
  have hown : s.vm.findClass "com/example/libpundit/libpundit/core/IntList" = some m.cls := findClass_of_methodNamed Bd.named
  have hnm := (name_of_methodNamed Bd.named Bd.method).1
  have X0 : Stand p l e ({ frames := 0, cells := 0, slots := 0, locals := 0 } : Room) s m #[(.ref a1)] below meth c s₁ [] 0 0 := Stand.of_body Bd
  have e0 : s₁.heap = h0 := by rw [← hh, Bd.state]; rfl
  have N0 := Fr.nil n0
  change own_Go p e below (Qz0 Z a1 h0 n0) (own_Fr s ({ frames := 0, cells := 0, slots := 0, locals := 0 } : Room).cells ({ frames := 0, cells := 0, slots := 0, locals := 0 } : Room).slots) (s₁.setTop (entryFrame m #[(.ref a1)] 1))
  rw [ef_z0 m a1]
  refine own_aloadN (pc' := 1) X0 hx rfl rfl (hb hby dz0_0) rfl ?_
  obtain ⟨T1, X1, e1, st1⟩ := getF X0 hx hZ hown (host := "") (Or.inl (hw _ (List.mem_of_getElem? (i := 18) rfl))) Via.refl e0 F_size_a1 (g := (mkF m 1 #[.val (.ref a1)] [(.ref a1)])) rfl rfl (hb hby dz0_1)
  refine own_by st1 ?_
  show own_Go p e below (Qz0 Z a1 h0 n0) (own_Fr s ({ frames := 0, cells := 0, slots := 0, locals := 0 } : Room).cells ({ frames := 0, cells := 0, slots := 0, locals := 0 } : Room).slots) (T1.setTop (mkF m 4 #[.val (.ref a1)] [(.int (0 : Int32))]))
  refine own_ret X1 hx Bd.returns Bd.notSynchronized (Or.inl ⟨rfl, by simp, _, rfl⟩) (hb hby dz0_4) rfl (by decide) (by decide) ?_
  show Qz0 Z a1 h0 n0 _ T1.heap _
  rw [e1]
  exact ⟨rfl, trivial, N0, rfl⟩
theorem ef_t1 (m : MethodId) (x0 : Addr) : entryFrame m #[(.ref x0)] 1 = mkF m 0 #[.val (.ref x0)] [] := by first | (simp [entryFrame, mkF, argsToLocals, Value.category, maxLocals]; done) | rfl
def Qt1 (Z : State) (a1 : Addr) (ar : Addr) (kc : ClassId) (el0 : Int32) (h0 : Heap) (n0 : Nat) (v : Option Value) (h : Heap) (L : List Loc) : Prop := ∃ q : Addr, ∃ kd : ClassId, v = some (.ref q) ∧ (True) ∧ Fr n0 L ∧ Keep h0 h [] ∧ h0.size ≤ q ∧ Exa Z h q "[I" ∧ Arv Z h q kd .int (1 : Int32) [(.int el0)] (.int (0 : Int32))
set_option maxRecDepth 65536 in
set_option maxHeartbeats 40000000 in
theorem rmt1 (l : Launch) (Z : State) (a0 : Array Value) (hw : ∀ d ∈ tables_1, d.before a0 Z = true) (ws : List Jvm.Cond) (a1 : Addr) (ar : Addr) (kc : ClassId) (el0 : Int32) (h0 : Heap) (n0 : Nat) (Z0 : n0 ≤ h0.size) (E_ar : Exa Z h0 ar "[I") (F_values_a1 : Fld Z h0 a1 "com/example/libpundit/libpundit/core/IntList" "values" "[I" (.ref ar)) (F_size_a1 : Fld Z h0 a1 "com/example/libpundit/libpundit/core/IntList" "size" "I" (.int (1 : Int32))) (A_ar : Arv Z h0 ar kc .int (4 : Int32) [(.int el0), (.int (0 : Int32)), (.int (0 : Int32)), (.int (0 : Int32))] (.int (0 : Int32))) :
    MetFree l (⟨"com/example/libpundit/libpundit/core/IntList", "toArray", "()[I"⟩ : MethodName) (head1 (Jvm.Cond.code (⟨"com/example/libpundit/libpundit/core/IntList", "toArray", "()[I"⟩ : MethodName) prog_21_method_5_code 1 (some (.array .int)) :: ws) ({ frames := 2, cells := 1, slots := 1, locals := 60 } : Room)) (fun a U => a = #[(.ref a1)] ∧ Z.Warmed39 U.vm ∧ U.heap = h0) (fun _ _ _ _ _ => True) (fun _ U o U' => ∃ v L, o = .returned v ∧ Qt1 Z a1 ar kc el0 h0 n0 v U'.heap L ∧ FrameEnd U o U' L ({ frames := 2, cells := 1, slots := 1, locals := 60 } : Room).cells ({ frames := 2, cells := 1, slots := 1, locals := 60 } : Room).slots) := by
  refine MetFree.of_bodySF (plainFor_of_name pn_1) hisR ?_
  intro p e s m args below meth c s₁ Bd hml0 hP hK
  obtain ⟨rfl, hZ, hh⟩ := hP
  have hx := Bd.exec
  have hby := Bd.bytes
  have hml : c.maxLocals = 1 := hml0
  have hown : s.vm.findClass "com/example/libpundit/libpundit/core/IntList" = some m.cls := findClass_of_methodNamed Bd.named
  have hnm := (name_of_methodNamed Bd.named Bd.method).1
  have X0 : Stand p l e ({ frames := 2, cells := 1, slots := 1, locals := 60 } : Room) s m #[(.ref a1)] below meth c s₁ [] 0 0 := Stand.of_body Bd
  have e0 : s₁.heap = h0 := by rw [← hh, Bd.state]; rfl
  have N0 := Fr.nil n0
  change own_Go p e below (Qt1 Z a1 ar kc el0 h0 n0) (own_Fr s ({ frames := 2, cells := 1, slots := 1, locals := 60 } : Room).cells ({ frames := 2, cells := 1, slots := 1, locals := 60 } : Room).slots) (s₁.setTop (entryFrame m #[(.ref a1)] 1))
  rw [ef_t1 m a1]
  have rel0 := rng32 el0
  have K0 : Keep h0 h0 [] := Keep.refl h0 []
  refine own_aloadN (pc' := 1) X0 hx rfl rfl (hb hby dt0_0) rfl ?_
  obtain ⟨T1, X1, e1, st1⟩ := getF X0 hx hZ hown (host := "") (Or.inl (hw _ (List.mem_of_getElem? (i := 11) rfl))) Via.refl e0 F_values_a1 (g := (mkF m 1 #[.val (.ref a1)] [(.ref a1)])) rfl rfl (hb hby dt0_1)
  refine own_by st1 ?_
  show own_Go p e below (Qt1 Z a1 ar kc el0 h0 n0) (own_Fr s ({ frames := 2, cells := 1, slots := 1, locals := 60 } : Room).cells ({ frames := 2, cells := 1, slots := 1, locals := 60 } : Room).slots) (T1.setTop (mkF m 4 #[.val (.ref a1)] [(.ref ar)]))
  refine own_aloadN (pc' := 5) X1 hx rfl rfl (hb hby dt0_4) rfl ?_
  obtain ⟨T2, X2, e2, st2⟩ := getF X1 hx hZ hown (host := "") (Or.inl (hw _ (List.mem_of_getElem? (i := 18) rfl))) Via.refl e1 F_size_a1 (g := (mkF m 5 #[.val (.ref a1)] [(.ref a1), (.ref ar)])) rfl rfl (hb hby dt0_5)
  refine own_by st2 ?_
  show own_Go p e below (Qt1 Z a1 ar kc el0 h0 n0) (own_Fr s ({ frames := 2, cells := 1, slots := 1, locals := 60 } : Room).cells ({ frames := 2, cells := 1, slots := 1, locals := 60 } : Room).slots) (T2.setTop (mkF m 8 #[.val (.ref a1)] [(.int (1 : Int32)), (.ref ar)]))
  have kq4 : (0 : Int32).toInt = 0 := by decide
  obtain ⟨_, _, ⟨T3, L3, k3, n3⟩, -, X3, ⟨Lc3, hQ3, l3, y3, z3⟩, st3⟩ := Jvm.LawKit.callS X2 hx (y := (⟨"java/util/Arrays", "copyOf", "([II)[I"⟩ : MethodName)) hown (mvT hZ (hw _ (List.mem_of_getElem? (i := 25) rfl))) (mvT hZ (hw _ (List.mem_of_getElem? (i := 26) rfl))) (mvT hZ (hw _ (List.mem_of_getElem? (i := 27) rfl))) (mvT hZ (hw _ (List.mem_of_getElem? (i := 28) rfl))) (by decide) (backOf (W := 0) (rmc4_1 l Z a0 hw [] ar kc el0 (0 : Int32) (0 : Int32) (0 : Int32) h0 n0 Z0 E_ar A_ar) hZ (hw _ (List.mem_of_getElem? (i := 28) rfl)) (hw _ (List.mem_of_getElem? (i := 27) rfl)) (by decide) (by decide)) (g := (mkF m 8 #[.val (.ref a1)] [(.int (1 : Int32)), (.ref ar)])) rfl (by rw [hml]; rfl) (argsL := [(.ref ar), (.int (1 : Int32))]) (rest := []) (lenOf pd_1 rfl) rfl (by show 2 * 0 + _ ≤ _; exact Nat.le_of_eq rfl) (hb hby dt0_8) (fun _ _ => ⟨rfl, e2, (by decide : 0 + 1 ≤ _), (by decide : 0 + 1 ≤ _)⟩)
  dsimp only [Pt.U, Pt.locs, Pt.cells, Pt.slots] at X3 l3 y3 z3 st3 hQ3
  subst l3 y3 z3
  obtain ⟨q_3, kd_3, rfl, pp3, N3, Kc3, gc3_q, Ec3_q, Ac3_q⟩ := hQ3
  have n5 : ar ≠ q_3 := Nat.ne_of_lt (Nat.lt_of_lt_of_le E_ar.lt gc3_q)
  have n6 : a1 ≠ q_3 := Nat.ne_of_lt (Nat.lt_of_lt_of_le F_values_a1.lt gc3_q)
  have frq_3 : n0 ≤ q_3 := Nat.le_trans Z0 gc3_q
  have y7 : h0.size ≤ q_3 := Nat.le_trans K0.1 gc3_q
  have F8 : Fld Z T3.heap a1 "com/example/libpundit/libpundit/core/IntList" "values" "[I" (.ref ar) := F_values_a1.keep Kc3 nin0
  have F9 : Fld Z T3.heap a1 "com/example/libpundit/libpundit/core/IntList" "size" "I" (.int (1 : Int32)) := F_size_a1.keep Kc3 nin0
  have E10 : Exa Z T3.heap ar "[I" := E_ar.keep Kc3
  have A11 : Arv Z T3.heap ar kc .int (4 : Int32) [(.int el0), (.int (0 : Int32)), (.int (0 : Int32)), (.int (0 : Int32))] (.int (0 : Int32)) := A_ar.keep Kc3 nin0
  have Z12 : n0 ≤ T3.heap.size := Nat.le_trans Z0 Kc3.1
  have K13 : Keep h0 T3.heap [] := K0.trans Kc3 all0
  have N3a := Fr.app N0 N3
  refine own_by st3 ?_
  show own_Go p e below (Qt1 Z a1 ar kc el0 h0 n0) (own_Fr s ({ frames := 2, cells := 1, slots := 1, locals := 60 } : Room).cells ({ frames := 2, cells := 1, slots := 1, locals := 60 } : Room).slots) (T3.setTop (mkF m 11 #[.val (.ref a1)] [(.ref q_3)]))
  refine own_ret X3 hx Bd.returns Bd.notSynchronized (Or.inr (Or.inr (Or.inr (Or.inr ⟨rfl, rfl, rfl⟩)))) (hb hby dt0_11) rfl (by decide) (by decide) ?_
  show Qt1 Z a1 ar kc el0 h0 n0 _ T3.heap _
  exact ⟨q_3, kd_3, rfl, trivial, N3a, K13, y7, Ec3_q, Ac3_q⟩
theorem ef_z1 (m : MethodId) (x0 : Addr) : entryFrame m #[(.ref x0)] 1 = mkF m 0 #[.val (.ref x0)] [] := by first | (simp [entryFrame, mkF, argsToLocals, Value.category, maxLocals]; done) | rfl
def Qz1 (Z : State) (a1 : Addr) (h0 : Heap) (n0 : Nat) (v : Option Value) (h : Heap) (L : List Loc) : Prop := v = some (.int (1 : Int32)) ∧ (True) ∧ Fr n0 L ∧ h = h0
set_option maxRecDepth 65536 in
set_option maxHeartbeats 40000000 in
theorem rmz1 (l : Launch) (Z : State) (a0 : Array Value) (hw : ∀ d ∈ tables_1, d.before a0 Z = true) (ws : List Jvm.Cond) (a1 : Addr) (h0 : Heap) (n0 : Nat) (Z0 : n0 ≤ h0.size) (F_size_a1 : Fld Z h0 a1 "com/example/libpundit/libpundit/core/IntList" "size" "I" (.int (1 : Int32))) :
    MetFree l (⟨"com/example/libpundit/libpundit/core/IntList", "size", "()I"⟩ : MethodName) (head1 (Jvm.Cond.code (⟨"com/example/libpundit/libpundit/core/IntList", "size", "()I"⟩ : MethodName) prog_21_method_3_code 1 (some .int) :: ws) ({ frames := 0, cells := 0, slots := 0, locals := 0 } : Room)) (fun a U => a = #[(.ref a1)] ∧ Z.Warmed39 U.vm ∧ U.heap = h0) (fun _ _ _ _ _ => True) (fun _ U o U' => ∃ v L, o = .returned v ∧ Qz1 Z a1 h0 n0 v U'.heap L ∧ FrameEnd U o U' L ({ frames := 0, cells := 0, slots := 0, locals := 0 } : Room).cells ({ frames := 0, cells := 0, slots := 0, locals := 0 } : Room).slots) := by
  refine MetFree.of_bodySF (plainFor_of_name pn_1) hisR ?_
  intro p e s m args below meth c s₁ Bd hml0 hP hK
  obtain ⟨rfl, hZ, hh⟩ := hP
  have hx := Bd.exec
  have hby := Bd.bytes
  have hml : c.maxLocals = 1 := hml0
  have hown : s.vm.findClass "com/example/libpundit/libpundit/core/IntList" = some m.cls := findClass_of_methodNamed Bd.named
  have hnm := (name_of_methodNamed Bd.named Bd.method).1
  have X0 : Stand p l e ({ frames := 0, cells := 0, slots := 0, locals := 0 } : Room) s m #[(.ref a1)] below meth c s₁ [] 0 0 := Stand.of_body Bd
  have e0 : s₁.heap = h0 := by rw [← hh, Bd.state]; rfl
  have N0 := Fr.nil n0
  change own_Go p e below (Qz1 Z a1 h0 n0) (own_Fr s ({ frames := 0, cells := 0, slots := 0, locals := 0 } : Room).cells ({ frames := 0, cells := 0, slots := 0, locals := 0 } : Room).slots) (s₁.setTop (entryFrame m #[(.ref a1)] 1))
  rw [ef_z1 m a1]
  refine own_aloadN (pc' := 1) X0 hx rfl rfl (hb hby dz0_0) rfl ?_
  obtain ⟨T1, X1, e1, st1⟩ := getF X0 hx hZ hown (host := "") (Or.inl (hw _ (List.mem_of_getElem? (i := 18) rfl))) Via.refl e0 F_size_a1 (g := (mkF m 1 #[.val (.ref a1)] [(.ref a1)])) rfl rfl (hb hby dz0_1)
  refine own_by st1 ?_
  show own_Go p e below (Qz1 Z a1 h0 n0) (own_Fr s ({ frames := 0, cells := 0, slots := 0, locals := 0 } : Room).cells ({ frames := 0, cells := 0, slots := 0, locals := 0 } : Room).slots) (T1.setTop (mkF m 4 #[.val (.ref a1)] [(.int (1 : Int32))]))
  refine own_ret X1 hx Bd.returns Bd.notSynchronized (Or.inl ⟨rfl, by simp, _, rfl⟩) (hb hby dz0_4) rfl (by decide) (by decide) ?_
  show Qz1 Z a1 h0 n0 _ T1.heap _
  rw [e1]
  exact ⟨rfl, trivial, N0, rfl⟩
theorem ef_t2 (m : MethodId) (x0 : Addr) : entryFrame m #[(.ref x0)] 1 = mkF m 0 #[.val (.ref x0)] [] := by first | (simp [entryFrame, mkF, argsToLocals, Value.category, maxLocals]; done) | rfl
def Qt2 (Z : State) (a1 : Addr) (ar : Addr) (kc : ClassId) (el0 : Int32) (el1 : Int32) (h0 : Heap) (n0 : Nat) (v : Option Value) (h : Heap) (L : List Loc) : Prop := ∃ q : Addr, ∃ kd : ClassId, v = some (.ref q) ∧ (True) ∧ Fr n0 L ∧ Keep h0 h [] ∧ h0.size ≤ q ∧ Exa Z h q "[I" ∧ Arv Z h q kd .int (2 : Int32) [(.int el0), (.int el1)] (.int (0 : Int32))
set_option maxRecDepth 65536 in
set_option maxHeartbeats 40000000 in
theorem rmt2 (l : Launch) (Z : State) (a0 : Array Value) (hw : ∀ d ∈ tables_1, d.before a0 Z = true) (ws : List Jvm.Cond) (a1 : Addr) (ar : Addr) (kc : ClassId) (el0 : Int32) (el1 : Int32) (h0 : Heap) (n0 : Nat) (Z0 : n0 ≤ h0.size) (E_ar : Exa Z h0 ar "[I") (F_values_a1 : Fld Z h0 a1 "com/example/libpundit/libpundit/core/IntList" "values" "[I" (.ref ar)) (F_size_a1 : Fld Z h0 a1 "com/example/libpundit/libpundit/core/IntList" "size" "I" (.int (2 : Int32))) (A_ar : Arv Z h0 ar kc .int (4 : Int32) [(.int el0), (.int el1), (.int (0 : Int32)), (.int (0 : Int32))] (.int (0 : Int32))) :
    MetFree l (⟨"com/example/libpundit/libpundit/core/IntList", "toArray", "()[I"⟩ : MethodName) (head1 (Jvm.Cond.code (⟨"com/example/libpundit/libpundit/core/IntList", "toArray", "()[I"⟩ : MethodName) prog_21_method_5_code 1 (some (.array .int)) :: ws) ({ frames := 2, cells := 1, slots := 2, locals := 60 } : Room)) (fun a U => a = #[(.ref a1)] ∧ Z.Warmed39 U.vm ∧ U.heap = h0) (fun _ _ _ _ _ => True) (fun _ U o U' => ∃ v L, o = .returned v ∧ Qt2 Z a1 ar kc el0 el1 h0 n0 v U'.heap L ∧ FrameEnd U o U' L ({ frames := 2, cells := 1, slots := 2, locals := 60 } : Room).cells ({ frames := 2, cells := 1, slots := 2, locals := 60 } : Room).slots) := by
  refine MetFree.of_bodySF (plainFor_of_name pn_1) hisR ?_
  intro p e s m args below meth c s₁ Bd hml0 hP hK
  obtain ⟨rfl, hZ, hh⟩ := hP
  have hx := Bd.exec
  have hby := Bd.bytes
  have hml : c.maxLocals = 1 := hml0
  have hown : s.vm.findClass "com/example/libpundit/libpundit/core/IntList" = some m.cls := findClass_of_methodNamed Bd.named
  have hnm := (name_of_methodNamed Bd.named Bd.method).1
  have X0 : Stand p l e ({ frames := 2, cells := 1, slots := 2, locals := 60 } : Room) s m #[(.ref a1)] below meth c s₁ [] 0 0 := Stand.of_body Bd
  have e0 : s₁.heap = h0 := by rw [← hh, Bd.state]; rfl
  have N0 := Fr.nil n0
  change own_Go p e below (Qt2 Z a1 ar kc el0 el1 h0 n0) (own_Fr s ({ frames := 2, cells := 1, slots := 2, locals := 60 } : Room).cells ({ frames := 2, cells := 1, slots := 2, locals := 60 } : Room).slots) (s₁.setTop (entryFrame m #[(.ref a1)] 1))
  rw [ef_t2 m a1]
  have rel0 := rng32 el0
  have rel1 := rng32 el1
  have K0 : Keep h0 h0 [] := Keep.refl h0 []
  refine own_aloadN (pc' := 1) X0 hx rfl rfl (hb hby dt0_0) rfl ?_
  obtain ⟨T1, X1, e1, st1⟩ := getF X0 hx hZ hown (host := "") (Or.inl (hw _ (List.mem_of_getElem? (i := 11) rfl))) Via.refl e0 F_values_a1 (g := (mkF m 1 #[.val (.ref a1)] [(.ref a1)])) rfl rfl (hb hby dt0_1)
  refine own_by st1 ?_
  show own_Go p e below (Qt2 Z a1 ar kc el0 el1 h0 n0) (own_Fr s ({ frames := 2, cells := 1, slots := 2, locals := 60 } : Room).cells ({ frames := 2, cells := 1, slots := 2, locals := 60 } : Room).slots) (T1.setTop (mkF m 4 #[.val (.ref a1)] [(.ref ar)]))
  refine own_aloadN (pc' := 5) X1 hx rfl rfl (hb hby dt0_4) rfl ?_
  obtain ⟨T2, X2, e2, st2⟩ := getF X1 hx hZ hown (host := "") (Or.inl (hw _ (List.mem_of_getElem? (i := 18) rfl))) Via.refl e1 F_size_a1 (g := (mkF m 5 #[.val (.ref a1)] [(.ref a1), (.ref ar)])) rfl rfl (hb hby dt0_5)
  refine own_by st2 ?_
  show own_Go p e below (Qt2 Z a1 ar kc el0 el1 h0 n0) (own_Fr s ({ frames := 2, cells := 1, slots := 2, locals := 60 } : Room).cells ({ frames := 2, cells := 1, slots := 2, locals := 60 } : Room).slots) (T2.setTop (mkF m 8 #[.val (.ref a1)] [(.int (2 : Int32)), (.ref ar)]))
  have kq4 : (0 : Int32).toInt = 0 := by decide
  obtain ⟨_, _, ⟨T3, L3, k3, n3⟩, -, X3, ⟨Lc3, hQ3, l3, y3, z3⟩, st3⟩ := Jvm.LawKit.callS X2 hx (y := (⟨"java/util/Arrays", "copyOf", "([II)[I"⟩ : MethodName)) hown (mvT hZ (hw _ (List.mem_of_getElem? (i := 25) rfl))) (mvT hZ (hw _ (List.mem_of_getElem? (i := 26) rfl))) (mvT hZ (hw _ (List.mem_of_getElem? (i := 27) rfl))) (mvT hZ (hw _ (List.mem_of_getElem? (i := 28) rfl))) (by decide) (backOf (W := 0) (rmc4_2 l Z a0 hw [] ar kc el0 el1 (0 : Int32) (0 : Int32) h0 n0 Z0 E_ar A_ar) hZ (hw _ (List.mem_of_getElem? (i := 28) rfl)) (hw _ (List.mem_of_getElem? (i := 27) rfl)) (by decide) (by decide)) (g := (mkF m 8 #[.val (.ref a1)] [(.int (2 : Int32)), (.ref ar)])) rfl (by rw [hml]; rfl) (argsL := [(.ref ar), (.int (2 : Int32))]) (rest := []) (lenOf pd_1 rfl) rfl (by show 2 * 0 + _ ≤ _; exact Nat.le_of_eq rfl) (hb hby dt0_8) (fun _ _ => ⟨rfl, e2, (by decide : 0 + 1 ≤ _), (by decide : 0 + 2 ≤ _)⟩)
  dsimp only [Pt.U, Pt.locs, Pt.cells, Pt.slots] at X3 l3 y3 z3 st3 hQ3
  subst l3 y3 z3
  obtain ⟨q_3, kd_3, rfl, pp3, N3, Kc3, gc3_q, Ec3_q, Ac3_q⟩ := hQ3
  have n5 : ar ≠ q_3 := Nat.ne_of_lt (Nat.lt_of_lt_of_le E_ar.lt gc3_q)
  have n6 : a1 ≠ q_3 := Nat.ne_of_lt (Nat.lt_of_lt_of_le F_values_a1.lt gc3_q)
  have frq_3 : n0 ≤ q_3 := Nat.le_trans Z0 gc3_q
  have y7 : h0.size ≤ q_3 := Nat.le_trans K0.1 gc3_q
  have F8 : Fld Z T3.heap a1 "com/example/libpundit/libpundit/core/IntList" "values" "[I" (.ref ar) := F_values_a1.keep Kc3 nin0
  have F9 : Fld Z T3.heap a1 "com/example/libpundit/libpundit/core/IntList" "size" "I" (.int (2 : Int32)) := F_size_a1.keep Kc3 nin0
  have E10 : Exa Z T3.heap ar "[I" := E_ar.keep Kc3
  have A11 : Arv Z T3.heap ar kc .int (4 : Int32) [(.int el0), (.int el1), (.int (0 : Int32)), (.int (0 : Int32))] (.int (0 : Int32)) := A_ar.keep Kc3 nin0
  have Z12 : n0 ≤ T3.heap.size := Nat.le_trans Z0 Kc3.1
  have K13 : Keep h0 T3.heap [] := K0.trans Kc3 all0
  have N3a := Fr.app N0 N3
  refine own_by st3 ?_
  show own_Go p e below (Qt2 Z a1 ar kc el0 el1 h0 n0) (own_Fr s ({ frames := 2, cells := 1, slots := 2, locals := 60 } : Room).cells ({ frames := 2, cells := 1, slots := 2, locals := 60 } : Room).slots) (T3.setTop (mkF m 11 #[.val (.ref a1)] [(.ref q_3)]))
  refine own_ret X3 hx Bd.returns Bd.notSynchronized (Or.inr (Or.inr (Or.inr (Or.inr ⟨rfl, rfl, rfl⟩)))) (hb hby dt0_11) rfl (by decide) (by decide) ?_
  show Qt2 Z a1 ar kc el0 el1 h0 n0 _ T3.heap _
  exact ⟨q_3, kd_3, rfl, trivial, N3a, K13, y7, Ec3_q, Ac3_q⟩
theorem ef_z2 (m : MethodId) (x0 : Addr) : entryFrame m #[(.ref x0)] 1 = mkF m 0 #[.val (.ref x0)] [] := by first | (simp [entryFrame, mkF, argsToLocals, Value.category, maxLocals]; done) | rfl
def Qz2 (Z : State) (a1 : Addr) (h0 : Heap) (n0 : Nat) (v : Option Value) (h : Heap) (L : List Loc) : Prop := v = some (.int (2 : Int32)) ∧ (True) ∧ Fr n0 L ∧ h = h0
set_option maxRecDepth 65536 in
set_option maxHeartbeats 40000000 in
theorem rmz2 (l : Launch) (Z : State) (a0 : Array Value) (hw : ∀ d ∈ tables_1, d.before a0 Z = true) (ws : List Jvm.Cond) (a1 : Addr) (h0 : Heap) (n0 : Nat) (Z0 : n0 ≤ h0.size) (F_size_a1 : Fld Z h0 a1 "com/example/libpundit/libpundit/core/IntList" "size" "I" (.int (2 : Int32))) :
    MetFree l (⟨"com/example/libpundit/libpundit/core/IntList", "size", "()I"⟩ : MethodName) (head1 (Jvm.Cond.code (⟨"com/example/libpundit/libpundit/core/IntList", "size", "()I"⟩ : MethodName) prog_21_method_3_code 1 (some .int) :: ws) ({ frames := 0, cells := 0, slots := 0, locals := 0 } : Room)) (fun a U => a = #[(.ref a1)] ∧ Z.Warmed39 U.vm ∧ U.heap = h0) (fun _ _ _ _ _ => True) (fun _ U o U' => ∃ v L, o = .returned v ∧ Qz2 Z a1 h0 n0 v U'.heap L ∧ FrameEnd U o U' L ({ frames := 0, cells := 0, slots := 0, locals := 0 } : Room).cells ({ frames := 0, cells := 0, slots := 0, locals := 0 } : Room).slots) := by
  refine MetFree.of_bodySF (plainFor_of_name pn_1) hisR ?_
  intro p e s m args below meth c s₁ Bd hml0 hP hK
  obtain ⟨rfl, hZ, hh⟩ := hP
  have hx := Bd.exec
  have hby := Bd.bytes
  have hml : c.maxLocals = 1 := hml0
  have hown : s.vm.findClass "com/example/libpundit/libpundit/core/IntList" = some m.cls := findClass_of_methodNamed Bd.named
  have hnm := (name_of_methodNamed Bd.named Bd.method).1
  have X0 : Stand p l e ({ frames := 0, cells := 0, slots := 0, locals := 0 } : Room) s m #[(.ref a1)] below meth c s₁ [] 0 0 := Stand.of_body Bd
  have e0 : s₁.heap = h0 := by rw [← hh, Bd.state]; rfl
  have N0 := Fr.nil n0
  change own_Go p e below (Qz2 Z a1 h0 n0) (own_Fr s ({ frames := 0, cells := 0, slots := 0, locals := 0 } : Room).cells ({ frames := 0, cells := 0, slots := 0, locals := 0 } : Room).slots) (s₁.setTop (entryFrame m #[(.ref a1)] 1))
  rw [ef_z2 m a1]
  refine own_aloadN (pc' := 1) X0 hx rfl rfl (hb hby dz0_0) rfl ?_
  obtain ⟨T1, X1, e1, st1⟩ := getF X0 hx hZ hown (host := "") (Or.inl (hw _ (List.mem_of_getElem? (i := 18) rfl))) Via.refl e0 F_size_a1 (g := (mkF m 1 #[.val (.ref a1)] [(.ref a1)])) rfl rfl (hb hby dz0_1)
  refine own_by st1 ?_
  show own_Go p e below (Qz2 Z a1 h0 n0) (own_Fr s ({ frames := 0, cells := 0, slots := 0, locals := 0 } : Room).cells ({ frames := 0, cells := 0, slots := 0, locals := 0 } : Room).slots) (T1.setTop (mkF m 4 #[.val (.ref a1)] [(.int (2 : Int32))]))
  refine own_ret X1 hx Bd.returns Bd.notSynchronized (Or.inl ⟨rfl, by simp, _, rfl⟩) (hb hby dz0_4) rfl (by decide) (by decide) ?_
  show Qz2 Z a1 h0 n0 _ T1.heap _
  rw [e1]
  exact ⟨rfl, trivial, N0, rfl⟩
theorem ef_t3 (m : MethodId) (x0 : Addr) : entryFrame m #[(.ref x0)] 1 = mkF m 0 #[.val (.ref x0)] [] := by first | (simp [entryFrame, mkF, argsToLocals, Value.category, maxLocals]; done) | rfl
def Qt3 (Z : State) (a1 : Addr) (ar : Addr) (kc : ClassId) (el0 : Int32) (el1 : Int32) (el2 : Int32) (h0 : Heap) (n0 : Nat) (v : Option Value) (h : Heap) (L : List Loc) : Prop := ∃ q : Addr, ∃ kd : ClassId, v = some (.ref q) ∧ (True) ∧ Fr n0 L ∧ Keep h0 h [] ∧ h0.size ≤ q ∧ Exa Z h q "[I" ∧ Arv Z h q kd .int (3 : Int32) [(.int el0), (.int el1), (.int el2)] (.int (0 : Int32))
set_option maxRecDepth 65536 in
set_option maxHeartbeats 40000000 in
theorem rmt3 (l : Launch) (Z : State) (a0 : Array Value) (hw : ∀ d ∈ tables_1, d.before a0 Z = true) (ws : List Jvm.Cond) (a1 : Addr) (ar : Addr) (kc : ClassId) (el0 : Int32) (el1 : Int32) (el2 : Int32) (h0 : Heap) (n0 : Nat) (Z0 : n0 ≤ h0.size) (E_ar : Exa Z h0 ar "[I") (F_values_a1 : Fld Z h0 a1 "com/example/libpundit/libpundit/core/IntList" "values" "[I" (.ref ar)) (F_size_a1 : Fld Z h0 a1 "com/example/libpundit/libpundit/core/IntList" "size" "I" (.int (3 : Int32))) (A_ar : Arv Z h0 ar kc .int (4 : Int32) [(.int el0), (.int el1), (.int el2), (.int (0 : Int32))] (.int (0 : Int32))) :
    MetFree l (⟨"com/example/libpundit/libpundit/core/IntList", "toArray", "()[I"⟩ : MethodName) (head1 (Jvm.Cond.code (⟨"com/example/libpundit/libpundit/core/IntList", "toArray", "()[I"⟩ : MethodName) prog_21_method_5_code 1 (some (.array .int)) :: ws) ({ frames := 2, cells := 1, slots := 3, locals := 60 } : Room)) (fun a U => a = #[(.ref a1)] ∧ Z.Warmed39 U.vm ∧ U.heap = h0) (fun _ _ _ _ _ => True) (fun _ U o U' => ∃ v L, o = .returned v ∧ Qt3 Z a1 ar kc el0 el1 el2 h0 n0 v U'.heap L ∧ FrameEnd U o U' L ({ frames := 2, cells := 1, slots := 3, locals := 60 } : Room).cells ({ frames := 2, cells := 1, slots := 3, locals := 60 } : Room).slots) := by
  refine MetFree.of_bodySF (plainFor_of_name pn_1) hisR ?_
  intro p e s m args below meth c s₁ Bd hml0 hP hK
  obtain ⟨rfl, hZ, hh⟩ := hP
  have hx := Bd.exec
  have hby := Bd.bytes
  have hml : c.maxLocals = 1 := hml0
  have hown : s.vm.findClass "com/example/libpundit/libpundit/core/IntList" = some m.cls := findClass_of_methodNamed Bd.named
  have hnm := (name_of_methodNamed Bd.named Bd.method).1
  have X0 : Stand p l e ({ frames := 2, cells := 1, slots := 3, locals := 60 } : Room) s m #[(.ref a1)] below meth c s₁ [] 0 0 := Stand.of_body Bd
  have e0 : s₁.heap = h0 := by rw [← hh, Bd.state]; rfl
  have N0 := Fr.nil n0
  change own_Go p e below (Qt3 Z a1 ar kc el0 el1 el2 h0 n0) (own_Fr s ({ frames := 2, cells := 1, slots := 3, locals := 60 } : Room).cells ({ frames := 2, cells := 1, slots := 3, locals := 60 } : Room).slots) (s₁.setTop (entryFrame m #[(.ref a1)] 1))
  rw [ef_t3 m a1]
  have rel0 := rng32 el0
  have rel1 := rng32 el1
  have rel2 := rng32 el2
  have K0 : Keep h0 h0 [] := Keep.refl h0 []
  refine own_aloadN (pc' := 1) X0 hx rfl rfl (hb hby dt0_0) rfl ?_
  obtain ⟨T1, X1, e1, st1⟩ := getF X0 hx hZ hown (host := "") (Or.inl (hw _ (List.mem_of_getElem? (i := 11) rfl))) Via.refl e0 F_values_a1 (g := (mkF m 1 #[.val (.ref a1)] [(.ref a1)])) rfl rfl (hb hby dt0_1)
  refine own_by st1 ?_
  show own_Go p e below (Qt3 Z a1 ar kc el0 el1 el2 h0 n0) (own_Fr s ({ frames := 2, cells := 1, slots := 3, locals := 60 } : Room).cells ({ frames := 2, cells := 1, slots := 3, locals := 60 } : Room).slots) (T1.setTop (mkF m 4 #[.val (.ref a1)] [(.ref ar)]))
  refine own_aloadN (pc' := 5) X1 hx rfl rfl (hb hby dt0_4) rfl ?_
  obtain ⟨T2, X2, e2, st2⟩ := getF X1 hx hZ hown (host := "") (Or.inl (hw _ (List.mem_of_getElem? (i := 18) rfl))) Via.refl e1 F_size_a1 (g := (mkF m 5 #[.val (.ref a1)] [(.ref a1), (.ref ar)])) rfl rfl (hb hby dt0_5)
  refine own_by st2 ?_
  show own_Go p e below (Qt3 Z a1 ar kc el0 el1 el2 h0 n0) (own_Fr s ({ frames := 2, cells := 1, slots := 3, locals := 60 } : Room).cells ({ frames := 2, cells := 1, slots := 3, locals := 60 } : Room).slots) (T2.setTop (mkF m 8 #[.val (.ref a1)] [(.int (3 : Int32)), (.ref ar)]))
  have kq4 : (0 : Int32).toInt = 0 := by decide
  obtain ⟨_, _, ⟨T3, L3, k3, n3⟩, -, X3, ⟨Lc3, hQ3, l3, y3, z3⟩, st3⟩ := Jvm.LawKit.callS X2 hx (y := (⟨"java/util/Arrays", "copyOf", "([II)[I"⟩ : MethodName)) hown (mvT hZ (hw _ (List.mem_of_getElem? (i := 25) rfl))) (mvT hZ (hw _ (List.mem_of_getElem? (i := 26) rfl))) (mvT hZ (hw _ (List.mem_of_getElem? (i := 27) rfl))) (mvT hZ (hw _ (List.mem_of_getElem? (i := 28) rfl))) (by decide) (backOf (W := 0) (rmc4_3 l Z a0 hw [] ar kc el0 el1 el2 (0 : Int32) h0 n0 Z0 E_ar A_ar) hZ (hw _ (List.mem_of_getElem? (i := 28) rfl)) (hw _ (List.mem_of_getElem? (i := 27) rfl)) (by decide) (by decide)) (g := (mkF m 8 #[.val (.ref a1)] [(.int (3 : Int32)), (.ref ar)])) rfl (by rw [hml]; rfl) (argsL := [(.ref ar), (.int (3 : Int32))]) (rest := []) (lenOf pd_1 rfl) rfl (by show 2 * 0 + _ ≤ _; exact Nat.le_of_eq rfl) (hb hby dt0_8) (fun _ _ => ⟨rfl, e2, (by decide : 0 + 1 ≤ _), (by decide : 0 + 3 ≤ _)⟩)
  dsimp only [Pt.U, Pt.locs, Pt.cells, Pt.slots] at X3 l3 y3 z3 st3 hQ3
  subst l3 y3 z3
  obtain ⟨q_3, kd_3, rfl, pp3, N3, Kc3, gc3_q, Ec3_q, Ac3_q⟩ := hQ3
  have n5 : ar ≠ q_3 := Nat.ne_of_lt (Nat.lt_of_lt_of_le E_ar.lt gc3_q)
  have n6 : a1 ≠ q_3 := Nat.ne_of_lt (Nat.lt_of_lt_of_le F_values_a1.lt gc3_q)
  have frq_3 : n0 ≤ q_3 := Nat.le_trans Z0 gc3_q
  have y7 : h0.size ≤ q_3 := Nat.le_trans K0.1 gc3_q
  have F8 : Fld Z T3.heap a1 "com/example/libpundit/libpundit/core/IntList" "values" "[I" (.ref ar) := F_values_a1.keep Kc3 nin0
  have F9 : Fld Z T3.heap a1 "com/example/libpundit/libpundit/core/IntList" "size" "I" (.int (3 : Int32)) := F_size_a1.keep Kc3 nin0
  have E10 : Exa Z T3.heap ar "[I" := E_ar.keep Kc3
  have A11 : Arv Z T3.heap ar kc .int (4 : Int32) [(.int el0), (.int el1), (.int el2), (.int (0 : Int32))] (.int (0 : Int32)) := A_ar.keep Kc3 nin0
  have Z12 : n0 ≤ T3.heap.size := Nat.le_trans Z0 Kc3.1
  have K13 : Keep h0 T3.heap [] := K0.trans Kc3 all0
  have N3a := Fr.app N0 N3
  refine own_by st3 ?_
  show own_Go p e below (Qt3 Z a1 ar kc el0 el1 el2 h0 n0) (own_Fr s ({ frames := 2, cells := 1, slots := 3, locals := 60 } : Room).cells ({ frames := 2, cells := 1, slots := 3, locals := 60 } : Room).slots) (T3.setTop (mkF m 11 #[.val (.ref a1)] [(.ref q_3)]))
  refine own_ret X3 hx Bd.returns Bd.notSynchronized (Or.inr (Or.inr (Or.inr (Or.inr ⟨rfl, rfl, rfl⟩)))) (hb hby dt0_11) rfl (by decide) (by decide) ?_
  show Qt3 Z a1 ar kc el0 el1 el2 h0 n0 _ T3.heap _
  exact ⟨q_3, kd_3, rfl, trivial, N3a, K13, y7, Ec3_q, Ac3_q⟩
theorem ef_z3 (m : MethodId) (x0 : Addr) : entryFrame m #[(.ref x0)] 1 = mkF m 0 #[.val (.ref x0)] [] := by first | (simp [entryFrame, mkF, argsToLocals, Value.category, maxLocals]; done) | rfl
def Qz3 (Z : State) (a1 : Addr) (h0 : Heap) (n0 : Nat) (v : Option Value) (h : Heap) (L : List Loc) : Prop := v = some (.int (3 : Int32)) ∧ (True) ∧ Fr n0 L ∧ h = h0
set_option maxRecDepth 65536 in
set_option maxHeartbeats 40000000 in
theorem rmz3 (l : Launch) (Z : State) (a0 : Array Value) (hw : ∀ d ∈ tables_1, d.before a0 Z = true) (ws : List Jvm.Cond) (a1 : Addr) (h0 : Heap) (n0 : Nat) (Z0 : n0 ≤ h0.size) (F_size_a1 : Fld Z h0 a1 "com/example/libpundit/libpundit/core/IntList" "size" "I" (.int (3 : Int32))) :
    MetFree l (⟨"com/example/libpundit/libpundit/core/IntList", "size", "()I"⟩ : MethodName) (head1 (Jvm.Cond.code (⟨"com/example/libpundit/libpundit/core/IntList", "size", "()I"⟩ : MethodName) prog_21_method_3_code 1 (some .int) :: ws) ({ frames := 0, cells := 0, slots := 0, locals := 0 } : Room)) (fun a U => a = #[(.ref a1)] ∧ Z.Warmed39 U.vm ∧ U.heap = h0) (fun _ _ _ _ _ => True) (fun _ U o U' => ∃ v L, o = .returned v ∧ Qz3 Z a1 h0 n0 v U'.heap L ∧ FrameEnd U o U' L ({ frames := 0, cells := 0, slots := 0, locals := 0 } : Room).cells ({ frames := 0, cells := 0, slots := 0, locals := 0 } : Room).slots) := by
  refine MetFree.of_bodySF (plainFor_of_name pn_1) hisR ?_
  intro p e s m args below meth c s₁ Bd hml0 hP hK
  obtain ⟨rfl, hZ, hh⟩ := hP
  have hx := Bd.exec
  have hby := Bd.bytes
  have hml : c.maxLocals = 1 := hml0
  have hown : s.vm.findClass "com/example/libpundit/libpundit/core/IntList" = some m.cls := findClass_of_methodNamed Bd.named
  have hnm := (name_of_methodNamed Bd.named Bd.method).1
  have X0 : Stand p l e ({ frames := 0, cells := 0, slots := 0, locals := 0 } : Room) s m #[(.ref a1)] below meth c s₁ [] 0 0 := Stand.of_body Bd
  have e0 : s₁.heap = h0 := by rw [← hh, Bd.state]; rfl
  have N0 := Fr.nil n0
  change own_Go p e below (Qz3 Z a1 h0 n0) (own_Fr s ({ frames := 0, cells := 0, slots := 0, locals := 0 } : Room).cells ({ frames := 0, cells := 0, slots := 0, locals := 0 } : Room).slots) (s₁.setTop (entryFrame m #[(.ref a1)] 1))
  rw [ef_z3 m a1]
  refine own_aloadN (pc' := 1) X0 hx rfl rfl (hb hby dz0_0) rfl ?_
  obtain ⟨T1, X1, e1, st1⟩ := getF X0 hx hZ hown (host := "") (Or.inl (hw _ (List.mem_of_getElem? (i := 18) rfl))) Via.refl e0 F_size_a1 (g := (mkF m 1 #[.val (.ref a1)] [(.ref a1)])) rfl rfl (hb hby dz0_1)
  refine own_by st1 ?_
  show own_Go p e below (Qz3 Z a1 h0 n0) (own_Fr s ({ frames := 0, cells := 0, slots := 0, locals := 0 } : Room).cells ({ frames := 0, cells := 0, slots := 0, locals := 0 } : Room).slots) (T1.setTop (mkF m 4 #[.val (.ref a1)] [(.int (3 : Int32))]))
  refine own_ret X1 hx Bd.returns Bd.notSynchronized (Or.inl ⟨rfl, by simp, _, rfl⟩) (hb hby dz0_4) rfl (by decide) (by decide) ?_
  show Qz3 Z a1 h0 n0 _ T1.heap _
  rw [e1]
  exact ⟨rfl, trivial, N0, rfl⟩
theorem ef_t4 (m : MethodId) (x0 : Addr) : entryFrame m #[(.ref x0)] 1 = mkF m 0 #[.val (.ref x0)] [] := by first | (simp [entryFrame, mkF, argsToLocals, Value.category, maxLocals]; done) | rfl
def Qt4 (Z : State) (a1 : Addr) (ar : Addr) (kc : ClassId) (el0 : Int32) (el1 : Int32) (el2 : Int32) (el3 : Int32) (h0 : Heap) (n0 : Nat) (v : Option Value) (h : Heap) (L : List Loc) : Prop := ∃ q : Addr, ∃ kd : ClassId, v = some (.ref q) ∧ (True) ∧ Fr n0 L ∧ Keep h0 h [] ∧ h0.size ≤ q ∧ Exa Z h q "[I" ∧ Arv Z h q kd .int (4 : Int32) [(.int el0), (.int el1), (.int el2), (.int el3)] (.int (0 : Int32))
set_option maxRecDepth 65536 in
set_option maxHeartbeats 40000000 in
theorem rmt4 (l : Launch) (Z : State) (a0 : Array Value) (hw : ∀ d ∈ tables_1, d.before a0 Z = true) (ws : List Jvm.Cond) (a1 : Addr) (ar : Addr) (kc : ClassId) (el0 : Int32) (el1 : Int32) (el2 : Int32) (el3 : Int32) (h0 : Heap) (n0 : Nat) (Z0 : n0 ≤ h0.size) (E_ar : Exa Z h0 ar "[I") (F_values_a1 : Fld Z h0 a1 "com/example/libpundit/libpundit/core/IntList" "values" "[I" (.ref ar)) (F_size_a1 : Fld Z h0 a1 "com/example/libpundit/libpundit/core/IntList" "size" "I" (.int (4 : Int32))) (A_ar : Arv Z h0 ar kc .int (4 : Int32) [(.int el0), (.int el1), (.int el2), (.int el3)] (.int (0 : Int32))) :
    MetFree l (⟨"com/example/libpundit/libpundit/core/IntList", "toArray", "()[I"⟩ : MethodName) (head1 (Jvm.Cond.code (⟨"com/example/libpundit/libpundit/core/IntList", "toArray", "()[I"⟩ : MethodName) prog_21_method_5_code 1 (some (.array .int)) :: ws) ({ frames := 2, cells := 1, slots := 4, locals := 60 } : Room)) (fun a U => a = #[(.ref a1)] ∧ Z.Warmed39 U.vm ∧ U.heap = h0) (fun _ _ _ _ _ => True) (fun _ U o U' => ∃ v L, o = .returned v ∧ Qt4 Z a1 ar kc el0 el1 el2 el3 h0 n0 v U'.heap L ∧ FrameEnd U o U' L ({ frames := 2, cells := 1, slots := 4, locals := 60 } : Room).cells ({ frames := 2, cells := 1, slots := 4, locals := 60 } : Room).slots) := by
  refine MetFree.of_bodySF (plainFor_of_name pn_1) hisR ?_
  intro p e s m args below meth c s₁ Bd hml0 hP hK
  obtain ⟨rfl, hZ, hh⟩ := hP
  have hx := Bd.exec
  have hby := Bd.bytes
  have hml : c.maxLocals = 1 := hml0
  have hown : s.vm.findClass "com/example/libpundit/libpundit/core/IntList" = some m.cls := findClass_of_methodNamed Bd.named
  have hnm := (name_of_methodNamed Bd.named Bd.method).1
  have X0 : Stand p l e ({ frames := 2, cells := 1, slots := 4, locals := 60 } : Room) s m #[(.ref a1)] below meth c s₁ [] 0 0 := Stand.of_body Bd
  have e0 : s₁.heap = h0 := by rw [← hh, Bd.state]; rfl
  have N0 := Fr.nil n0
  change own_Go p e below (Qt4 Z a1 ar kc el0 el1 el2 el3 h0 n0) (own_Fr s ({ frames := 2, cells := 1, slots := 4, locals := 60 } : Room).cells ({ frames := 2, cells := 1, slots := 4, locals := 60 } : Room).slots) (s₁.setTop (entryFrame m #[(.ref a1)] 1))
  rw [ef_t4 m a1]
  have rel0 := rng32 el0
  have rel1 := rng32 el1
  have rel2 := rng32 el2
  have rel3 := rng32 el3
  have K0 : Keep h0 h0 [] := Keep.refl h0 []
  refine own_aloadN (pc' := 1) X0 hx rfl rfl (hb hby dt0_0) rfl ?_
  obtain ⟨T1, X1, e1, st1⟩ := getF X0 hx hZ hown (host := "") (Or.inl (hw _ (List.mem_of_getElem? (i := 11) rfl))) Via.refl e0 F_values_a1 (g := (mkF m 1 #[.val (.ref a1)] [(.ref a1)])) rfl rfl (hb hby dt0_1)
  refine own_by st1 ?_
  show own_Go p e below (Qt4 Z a1 ar kc el0 el1 el2 el3 h0 n0) (own_Fr s ({ frames := 2, cells := 1, slots := 4, locals := 60 } : Room).cells ({ frames := 2, cells := 1, slots := 4, locals := 60 } : Room).slots) (T1.setTop (mkF m 4 #[.val (.ref a1)] [(.ref ar)]))
  refine own_aloadN (pc' := 5) X1 hx rfl rfl (hb hby dt0_4) rfl ?_
  obtain ⟨T2, X2, e2, st2⟩ := getF X1 hx hZ hown (host := "") (Or.inl (hw _ (List.mem_of_getElem? (i := 18) rfl))) Via.refl e1 F_size_a1 (g := (mkF m 5 #[.val (.ref a1)] [(.ref a1), (.ref ar)])) rfl rfl (hb hby dt0_5)
  refine own_by st2 ?_
  show own_Go p e below (Qt4 Z a1 ar kc el0 el1 el2 el3 h0 n0) (own_Fr s ({ frames := 2, cells := 1, slots := 4, locals := 60 } : Room).cells ({ frames := 2, cells := 1, slots := 4, locals := 60 } : Room).slots) (T2.setTop (mkF m 8 #[.val (.ref a1)] [(.int (4 : Int32)), (.ref ar)]))
  obtain ⟨_, _, ⟨T3, L3, k3, n3⟩, -, X3, ⟨Lc3, hQ3, l3, y3, z3⟩, st3⟩ := Jvm.LawKit.callS X2 hx (y := (⟨"java/util/Arrays", "copyOf", "([II)[I"⟩ : MethodName)) hown (mvT hZ (hw _ (List.mem_of_getElem? (i := 25) rfl))) (mvT hZ (hw _ (List.mem_of_getElem? (i := 26) rfl))) (mvT hZ (hw _ (List.mem_of_getElem? (i := 27) rfl))) (mvT hZ (hw _ (List.mem_of_getElem? (i := 28) rfl))) (by decide) (backOf (W := 0) (rmc4_4 l Z a0 hw [] ar kc el0 el1 el2 el3 h0 n0 Z0 E_ar A_ar) hZ (hw _ (List.mem_of_getElem? (i := 28) rfl)) (hw _ (List.mem_of_getElem? (i := 27) rfl)) (by decide) (by decide)) (g := (mkF m 8 #[.val (.ref a1)] [(.int (4 : Int32)), (.ref ar)])) rfl (by rw [hml]; rfl) (argsL := [(.ref ar), (.int (4 : Int32))]) (rest := []) (lenOf pd_1 rfl) rfl (by show 2 * 0 + _ ≤ _; exact Nat.le_of_eq rfl) (hb hby dt0_8) (fun _ _ => ⟨rfl, e2, (by decide : 0 + 1 ≤ _), (by decide : 0 + 4 ≤ _)⟩)
  dsimp only [Pt.U, Pt.locs, Pt.cells, Pt.slots] at X3 l3 y3 z3 st3 hQ3
  subst l3 y3 z3
  obtain ⟨q_3, kd_3, rfl, pp3, N3, Kc3, gc3_q, Ec3_q, Ac3_q⟩ := hQ3
  have n4 : ar ≠ q_3 := Nat.ne_of_lt (Nat.lt_of_lt_of_le E_ar.lt gc3_q)
  have n5 : a1 ≠ q_3 := Nat.ne_of_lt (Nat.lt_of_lt_of_le F_values_a1.lt gc3_q)
  have frq_3 : n0 ≤ q_3 := Nat.le_trans Z0 gc3_q
  have y6 : h0.size ≤ q_3 := Nat.le_trans K0.1 gc3_q
  have F7 : Fld Z T3.heap a1 "com/example/libpundit/libpundit/core/IntList" "values" "[I" (.ref ar) := F_values_a1.keep Kc3 nin0
  have F8 : Fld Z T3.heap a1 "com/example/libpundit/libpundit/core/IntList" "size" "I" (.int (4 : Int32)) := F_size_a1.keep Kc3 nin0
  have E9 : Exa Z T3.heap ar "[I" := E_ar.keep Kc3
  have A10 : Arv Z T3.heap ar kc .int (4 : Int32) [(.int el0), (.int el1), (.int el2), (.int el3)] (.int (0 : Int32)) := A_ar.keep Kc3 nin0
  have Z11 : n0 ≤ T3.heap.size := Nat.le_trans Z0 Kc3.1
  have K12 : Keep h0 T3.heap [] := K0.trans Kc3 all0
  have N3a := Fr.app N0 N3
  refine own_by st3 ?_
  show own_Go p e below (Qt4 Z a1 ar kc el0 el1 el2 el3 h0 n0) (own_Fr s ({ frames := 2, cells := 1, slots := 4, locals := 60 } : Room).cells ({ frames := 2, cells := 1, slots := 4, locals := 60 } : Room).slots) (T3.setTop (mkF m 11 #[.val (.ref a1)] [(.ref q_3)]))
  refine own_ret X3 hx Bd.returns Bd.notSynchronized (Or.inr (Or.inr (Or.inr (Or.inr ⟨rfl, rfl, rfl⟩)))) (hb hby dt0_11) rfl (by decide) (by decide) ?_
  show Qt4 Z a1 ar kc el0 el1 el2 el3 h0 n0 _ T3.heap _
  exact ⟨q_3, kd_3, rfl, trivial, N3a, K12, y6, Ec3_q, Ac3_q⟩
theorem ef_z4 (m : MethodId) (x0 : Addr) : entryFrame m #[(.ref x0)] 1 = mkF m 0 #[.val (.ref x0)] [] := by first | (simp [entryFrame, mkF, argsToLocals, Value.category, maxLocals]; done) | rfl
def Qz4 (Z : State) (a1 : Addr) (h0 : Heap) (n0 : Nat) (v : Option Value) (h : Heap) (L : List Loc) : Prop := v = some (.int (4 : Int32)) ∧ (True) ∧ Fr n0 L ∧ h = h0
set_option maxRecDepth 65536 in
set_option maxHeartbeats 40000000 in
theorem rmz4 (l : Launch) (Z : State) (a0 : Array Value) (hw : ∀ d ∈ tables_1, d.before a0 Z = true) (ws : List Jvm.Cond) (a1 : Addr) (h0 : Heap) (n0 : Nat) (Z0 : n0 ≤ h0.size) (F_size_a1 : Fld Z h0 a1 "com/example/libpundit/libpundit/core/IntList" "size" "I" (.int (4 : Int32))) :
    MetFree l (⟨"com/example/libpundit/libpundit/core/IntList", "size", "()I"⟩ : MethodName) (head1 (Jvm.Cond.code (⟨"com/example/libpundit/libpundit/core/IntList", "size", "()I"⟩ : MethodName) prog_21_method_3_code 1 (some .int) :: ws) ({ frames := 0, cells := 0, slots := 0, locals := 0 } : Room)) (fun a U => a = #[(.ref a1)] ∧ Z.Warmed39 U.vm ∧ U.heap = h0) (fun _ _ _ _ _ => True) (fun _ U o U' => ∃ v L, o = .returned v ∧ Qz4 Z a1 h0 n0 v U'.heap L ∧ FrameEnd U o U' L ({ frames := 0, cells := 0, slots := 0, locals := 0 } : Room).cells ({ frames := 0, cells := 0, slots := 0, locals := 0 } : Room).slots) := by
  refine MetFree.of_bodySF (plainFor_of_name pn_1) hisR ?_
  intro p e s m args below meth c s₁ Bd hml0 hP hK
  obtain ⟨rfl, hZ, hh⟩ := hP
  have hx := Bd.exec
  have hby := Bd.bytes
  have hml : c.maxLocals = 1 := hml0
  have hown : s.vm.findClass "com/example/libpundit/libpundit/core/IntList" = some m.cls := findClass_of_methodNamed Bd.named
  have hnm := (name_of_methodNamed Bd.named Bd.method).1
  have X0 : Stand p l e ({ frames := 0, cells := 0, slots := 0, locals := 0 } : Room) s m #[(.ref a1)] below meth c s₁ [] 0 0 := Stand.of_body Bd
  have e0 : s₁.heap = h0 := by rw [← hh, Bd.state]; rfl
  have N0 := Fr.nil n0
  change own_Go p e below (Qz4 Z a1 h0 n0) (own_Fr s ({ frames := 0, cells := 0, slots := 0, locals := 0 } : Room).cells ({ frames := 0, cells := 0, slots := 0, locals := 0 } : Room).slots) (s₁.setTop (entryFrame m #[(.ref a1)] 1))
  rw [ef_z4 m a1]
  refine own_aloadN (pc' := 1) X0 hx rfl rfl (hb hby dz0_0) rfl ?_
  obtain ⟨T1, X1, e1, st1⟩ := getF X0 hx hZ hown (host := "") (Or.inl (hw _ (List.mem_of_getElem? (i := 18) rfl))) Via.refl e0 F_size_a1 (g := (mkF m 1 #[.val (.ref a1)] [(.ref a1)])) rfl rfl (hb hby dz0_1)
  refine own_by st1 ?_
  show own_Go p e below (Qz4 Z a1 h0 n0) (own_Fr s ({ frames := 0, cells := 0, slots := 0, locals := 0 } : Room).cells ({ frames := 0, cells := 0, slots := 0, locals := 0 } : Room).slots) (T1.setTop (mkF m 4 #[.val (.ref a1)] [(.int (4 : Int32))]))
  refine own_ret X1 hx Bd.returns Bd.notSynchronized (Or.inl ⟨rfl, by simp, _, rfl⟩) (hb hby dz0_4) rfl (by decide) (by decide) ?_
  show Qz4 Z a1 h0 n0 _ T1.heap _
  rw [e1]
  exact ⟨rfl, trivial, N0, rfl⟩
theorem ef_t5 (m : MethodId) (x0 : Addr) : entryFrame m #[(.ref x0)] 1 = mkF m 0 #[.val (.ref x0)] [] := by first | (simp [entryFrame, mkF, argsToLocals, Value.category, maxLocals]; done) | rfl
def Qt5 (Z : State) (a1 : Addr) (ar : Addr) (kc : ClassId) (el0 : Int32) (el1 : Int32) (el2 : Int32) (el3 : Int32) (el4 : Int32) (h0 : Heap) (n0 : Nat) (v : Option Value) (h : Heap) (L : List Loc) : Prop := ∃ q : Addr, ∃ kd : ClassId, v = some (.ref q) ∧ (True) ∧ Fr n0 L ∧ Keep h0 h [] ∧ h0.size ≤ q ∧ Exa Z h q "[I" ∧ Arv Z h q kd .int (5 : Int32) [(.int el0), (.int el1), (.int el2), (.int el3), (.int el4)] (.int (0 : Int32))
set_option maxRecDepth 65536 in
set_option maxHeartbeats 40000000 in
theorem rmt5 (l : Launch) (Z : State) (a0 : Array Value) (hw : ∀ d ∈ tables_1, d.before a0 Z = true) (ws : List Jvm.Cond) (a1 : Addr) (ar : Addr) (kc : ClassId) (el0 : Int32) (el1 : Int32) (el2 : Int32) (el3 : Int32) (el4 : Int32) (h0 : Heap) (n0 : Nat) (Z0 : n0 ≤ h0.size) (E_ar : Exa Z h0 ar "[I") (F_values_a1 : Fld Z h0 a1 "com/example/libpundit/libpundit/core/IntList" "values" "[I" (.ref ar)) (F_size_a1 : Fld Z h0 a1 "com/example/libpundit/libpundit/core/IntList" "size" "I" (.int (5 : Int32))) (A_ar : Arv Z h0 ar kc .int (8 : Int32) [(.int el0), (.int el1), (.int el2), (.int el3), (.int el4), (.int (0 : Int32)), (.int (0 : Int32)), (.int (0 : Int32))] (.int (0 : Int32))) :
    MetFree l (⟨"com/example/libpundit/libpundit/core/IntList", "toArray", "()[I"⟩ : MethodName) (head1 (Jvm.Cond.code (⟨"com/example/libpundit/libpundit/core/IntList", "toArray", "()[I"⟩ : MethodName) prog_21_method_5_code 1 (some (.array .int)) :: ws) ({ frames := 2, cells := 1, slots := 5, locals := 60 } : Room)) (fun a U => a = #[(.ref a1)] ∧ Z.Warmed39 U.vm ∧ U.heap = h0) (fun _ _ _ _ _ => True) (fun _ U o U' => ∃ v L, o = .returned v ∧ Qt5 Z a1 ar kc el0 el1 el2 el3 el4 h0 n0 v U'.heap L ∧ FrameEnd U o U' L ({ frames := 2, cells := 1, slots := 5, locals := 60 } : Room).cells ({ frames := 2, cells := 1, slots := 5, locals := 60 } : Room).slots) := by
  refine MetFree.of_bodySF (plainFor_of_name pn_1) hisR ?_
  intro p e s m args below meth c s₁ Bd hml0 hP hK
  obtain ⟨rfl, hZ, hh⟩ := hP
  have hx := Bd.exec
  have hby := Bd.bytes
  have hml : c.maxLocals = 1 := hml0
  have hown : s.vm.findClass "com/example/libpundit/libpundit/core/IntList" = some m.cls := findClass_of_methodNamed Bd.named
  have hnm := (name_of_methodNamed Bd.named Bd.method).1
  have X0 : Stand p l e ({ frames := 2, cells := 1, slots := 5, locals := 60 } : Room) s m #[(.ref a1)] below meth c s₁ [] 0 0 := Stand.of_body Bd
  have e0 : s₁.heap = h0 := by rw [← hh, Bd.state]; rfl
  have N0 := Fr.nil n0
  change own_Go p e below (Qt5 Z a1 ar kc el0 el1 el2 el3 el4 h0 n0) (own_Fr s ({ frames := 2, cells := 1, slots := 5, locals := 60 } : Room).cells ({ frames := 2, cells := 1, slots := 5, locals := 60 } : Room).slots) (s₁.setTop (entryFrame m #[(.ref a1)] 1))
  rw [ef_t5 m a1]
  have rel0 := rng32 el0
  have rel1 := rng32 el1
  have rel2 := rng32 el2
  have rel3 := rng32 el3
  have rel4 := rng32 el4
  have K0 : Keep h0 h0 [] := Keep.refl h0 []
  refine own_aloadN (pc' := 1) X0 hx rfl rfl (hb hby dt0_0) rfl ?_
  obtain ⟨T1, X1, e1, st1⟩ := getF X0 hx hZ hown (host := "") (Or.inl (hw _ (List.mem_of_getElem? (i := 11) rfl))) Via.refl e0 F_values_a1 (g := (mkF m 1 #[.val (.ref a1)] [(.ref a1)])) rfl rfl (hb hby dt0_1)
  refine own_by st1 ?_
  show own_Go p e below (Qt5 Z a1 ar kc el0 el1 el2 el3 el4 h0 n0) (own_Fr s ({ frames := 2, cells := 1, slots := 5, locals := 60 } : Room).cells ({ frames := 2, cells := 1, slots := 5, locals := 60 } : Room).slots) (T1.setTop (mkF m 4 #[.val (.ref a1)] [(.ref ar)]))
  refine own_aloadN (pc' := 5) X1 hx rfl rfl (hb hby dt0_4) rfl ?_
  obtain ⟨T2, X2, e2, st2⟩ := getF X1 hx hZ hown (host := "") (Or.inl (hw _ (List.mem_of_getElem? (i := 18) rfl))) Via.refl e1 F_size_a1 (g := (mkF m 5 #[.val (.ref a1)] [(.ref a1), (.ref ar)])) rfl rfl (hb hby dt0_5)
  refine own_by st2 ?_
  show own_Go p e below (Qt5 Z a1 ar kc el0 el1 el2 el3 el4 h0 n0) (own_Fr s ({ frames := 2, cells := 1, slots := 5, locals := 60 } : Room).cells ({ frames := 2, cells := 1, slots := 5, locals := 60 } : Room).slots) (T2.setTop (mkF m 8 #[.val (.ref a1)] [(.int (5 : Int32)), (.ref ar)]))
  have kq4 : (0 : Int32).toInt = 0 := by decide
  obtain ⟨_, _, ⟨T3, L3, k3, n3⟩, -, X3, ⟨Lc3, hQ3, l3, y3, z3⟩, st3⟩ := Jvm.LawKit.callS X2 hx (y := (⟨"java/util/Arrays", "copyOf", "([II)[I"⟩ : MethodName)) hown (mvT hZ (hw _ (List.mem_of_getElem? (i := 25) rfl))) (mvT hZ (hw _ (List.mem_of_getElem? (i := 26) rfl))) (mvT hZ (hw _ (List.mem_of_getElem? (i := 27) rfl))) (mvT hZ (hw _ (List.mem_of_getElem? (i := 28) rfl))) (by decide) (backOf (W := 0) (rmc8_5 l Z a0 hw [] ar kc el0 el1 el2 el3 el4 (0 : Int32) (0 : Int32) (0 : Int32) h0 n0 Z0 E_ar A_ar) hZ (hw _ (List.mem_of_getElem? (i := 28) rfl)) (hw _ (List.mem_of_getElem? (i := 27) rfl)) (by decide) (by decide)) (g := (mkF m 8 #[.val (.ref a1)] [(.int (5 : Int32)), (.ref ar)])) rfl (by rw [hml]; rfl) (argsL := [(.ref ar), (.int (5 : Int32))]) (rest := []) (lenOf pd_1 rfl) rfl (by show 2 * 0 + _ ≤ _; exact Nat.le_of_eq rfl) (hb hby dt0_8) (fun _ _ => ⟨rfl, e2, (by decide : 0 + 1 ≤ _), (by decide : 0 + 5 ≤ _)⟩)
  dsimp only [Pt.U, Pt.locs, Pt.cells, Pt.slots] at X3 l3 y3 z3 st3 hQ3
  subst l3 y3 z3
  obtain ⟨q_3, kd_3, rfl, pp3, N3, Kc3, gc3_q, Ec3_q, Ac3_q⟩ := hQ3
  have n5 : ar ≠ q_3 := Nat.ne_of_lt (Nat.lt_of_lt_of_le E_ar.lt gc3_q)
  have n6 : a1 ≠ q_3 := Nat.ne_of_lt (Nat.lt_of_lt_of_le F_values_a1.lt gc3_q)
  have frq_3 : n0 ≤ q_3 := Nat.le_trans Z0 gc3_q
  have y7 : h0.size ≤ q_3 := Nat.le_trans K0.1 gc3_q
  have F8 : Fld Z T3.heap a1 "com/example/libpundit/libpundit/core/IntList" "values" "[I" (.ref ar) := F_values_a1.keep Kc3 nin0
  have F9 : Fld Z T3.heap a1 "com/example/libpundit/libpundit/core/IntList" "size" "I" (.int (5 : Int32)) := F_size_a1.keep Kc3 nin0
  have E10 : Exa Z T3.heap ar "[I" := E_ar.keep Kc3
  have A11 : Arv Z T3.heap ar kc .int (8 : Int32) [(.int el0), (.int el1), (.int el2), (.int el3), (.int el4), (.int (0 : Int32)), (.int (0 : Int32)), (.int (0 : Int32))] (.int (0 : Int32)) := A_ar.keep Kc3 nin0
  have Z12 : n0 ≤ T3.heap.size := Nat.le_trans Z0 Kc3.1
  have K13 : Keep h0 T3.heap [] := K0.trans Kc3 all0
  have N3a := Fr.app N0 N3
  refine own_by st3 ?_
  show own_Go p e below (Qt5 Z a1 ar kc el0 el1 el2 el3 el4 h0 n0) (own_Fr s ({ frames := 2, cells := 1, slots := 5, locals := 60 } : Room).cells ({ frames := 2, cells := 1, slots := 5, locals := 60 } : Room).slots) (T3.setTop (mkF m 11 #[.val (.ref a1)] [(.ref q_3)]))
  refine own_ret X3 hx Bd.returns Bd.notSynchronized (Or.inr (Or.inr (Or.inr (Or.inr ⟨rfl, rfl, rfl⟩)))) (hb hby dt0_11) rfl (by decide) (by decide) ?_
  show Qt5 Z a1 ar kc el0 el1 el2 el3 el4 h0 n0 _ T3.heap _
  exact ⟨q_3, kd_3, rfl, trivial, N3a, K13, y7, Ec3_q, Ac3_q⟩
theorem ef_z5 (m : MethodId) (x0 : Addr) : entryFrame m #[(.ref x0)] 1 = mkF m 0 #[.val (.ref x0)] [] := by first | (simp [entryFrame, mkF, argsToLocals, Value.category, maxLocals]; done) | rfl
def Qz5 (Z : State) (a1 : Addr) (h0 : Heap) (n0 : Nat) (v : Option Value) (h : Heap) (L : List Loc) : Prop := v = some (.int (5 : Int32)) ∧ (True) ∧ Fr n0 L ∧ h = h0
set_option maxRecDepth 65536 in
set_option maxHeartbeats 40000000 in
theorem rmz5 (l : Launch) (Z : State) (a0 : Array Value) (hw : ∀ d ∈ tables_1, d.before a0 Z = true) (ws : List Jvm.Cond) (a1 : Addr) (h0 : Heap) (n0 : Nat) (Z0 : n0 ≤ h0.size) (F_size_a1 : Fld Z h0 a1 "com/example/libpundit/libpundit/core/IntList" "size" "I" (.int (5 : Int32))) :
    MetFree l (⟨"com/example/libpundit/libpundit/core/IntList", "size", "()I"⟩ : MethodName) (head1 (Jvm.Cond.code (⟨"com/example/libpundit/libpundit/core/IntList", "size", "()I"⟩ : MethodName) prog_21_method_3_code 1 (some .int) :: ws) ({ frames := 0, cells := 0, slots := 0, locals := 0 } : Room)) (fun a U => a = #[(.ref a1)] ∧ Z.Warmed39 U.vm ∧ U.heap = h0) (fun _ _ _ _ _ => True) (fun _ U o U' => ∃ v L, o = .returned v ∧ Qz5 Z a1 h0 n0 v U'.heap L ∧ FrameEnd U o U' L ({ frames := 0, cells := 0, slots := 0, locals := 0 } : Room).cells ({ frames := 0, cells := 0, slots := 0, locals := 0 } : Room).slots) := by
  refine MetFree.of_bodySF (plainFor_of_name pn_1) hisR ?_
  intro p e s m args below meth c s₁ Bd hml0 hP hK
  obtain ⟨rfl, hZ, hh⟩ := hP
  have hx := Bd.exec
  have hby := Bd.bytes
  have hml : c.maxLocals = 1 := hml0
  have hown : s.vm.findClass "com/example/libpundit/libpundit/core/IntList" = some m.cls := findClass_of_methodNamed Bd.named
  have hnm := (name_of_methodNamed Bd.named Bd.method).1
  have X0 : Stand p l e ({ frames := 0, cells := 0, slots := 0, locals := 0 } : Room) s m #[(.ref a1)] below meth c s₁ [] 0 0 := Stand.of_body Bd
  have e0 : s₁.heap = h0 := by rw [← hh, Bd.state]; rfl
  have N0 := Fr.nil n0
  change own_Go p e below (Qz5 Z a1 h0 n0) (own_Fr s ({ frames := 0, cells := 0, slots := 0, locals := 0 } : Room).cells ({ frames := 0, cells := 0, slots := 0, locals := 0 } : Room).slots) (s₁.setTop (entryFrame m #[(.ref a1)] 1))
  rw [ef_z5 m a1]
  refine own_aloadN (pc' := 1) X0 hx rfl rfl (hb hby dz0_0) rfl ?_
  obtain ⟨T1, X1, e1, st1⟩ := getF X0 hx hZ hown (host := "") (Or.inl (hw _ (List.mem_of_getElem? (i := 18) rfl))) Via.refl e0 F_size_a1 (g := (mkF m 1 #[.val (.ref a1)] [(.ref a1)])) rfl rfl (hb hby dz0_1)
  refine own_by st1 ?_
  show own_Go p e below (Qz5 Z a1 h0 n0) (own_Fr s ({ frames := 0, cells := 0, slots := 0, locals := 0 } : Room).cells ({ frames := 0, cells := 0, slots := 0, locals := 0 } : Room).slots) (T1.setTop (mkF m 4 #[.val (.ref a1)] [(.int (5 : Int32))]))
  refine own_ret X1 hx Bd.returns Bd.notSynchronized (Or.inl ⟨rfl, by simp, _, rfl⟩) (hb hby dz0_4) rfl (by decide) (by decide) ?_
  show Qz5 Z a1 h0 n0 _ T1.heap _
  rw [e1]
  exact ⟨rfl, trivial, N0, rfl⟩
theorem pn_2 : plainName "com/example/libpundit/libpundit/core/IntListAddPinLaw" = true := by first | (simp [plainName, overriddenIn]; done) | decide +kernel
theorem ef_0 (m : MethodId) (x0 : Int32) (x1 : Int32) (x2 : Int32) (x3 : Int32) (x4 : Int32) (x5 : Int32) : entryFrame m #[(.int x0), (.int x1), (.int x2), (.int x3), (.int x4), (.int x5)] maxLocals = mkF m 0 #[.val (.int x0), .val (.int x1), .val (.int x2), .val (.int x3), .val (.int x4), .val (.int x5), .unset, .unset, .unset, .unset] [] := by first | (simp [entryFrame, mkF, argsToLocals, Value.category, maxLocals]; done) | rfl
def Q0 (Z : State) (p1 : Int32) (p2 : Int32) (p3 : Int32) (p4 : Int32) (p5 : Int32) (p6 : Int32) (h0 : Heap) (n0 : Nat) (v : Option Value) (h : Heap) (L : List Loc) : Prop := v = some (.int 1) ∧ Fr n0 L
set_option maxRecDepth 65536 in
set_option maxHeartbeats 40000000 in
theorem rm0 (l : Launch) (Z : State) (a0 : Array Value) (hw : ∀ d ∈ tables_1, d.before a0 Z = true) (ws : List Jvm.Cond) (p1 : Int32) (p2 : Int32) (p3 : Int32) (p4 : Int32) (p5 : Int32) (p6 : Int32) (h0 : Heap) (n0 : Nat) (Z0 : n0 ≤ h0.size) :
    MetFree l x (head1 (Jvm.Cond.code x code maxLocals ret :: ws) room_1) (fun a U => a = #[(.int p1), (.int p2), (.int p3), (.int p4), (.int p5), (.int p6)] ∧ Z.Warmed39 U.vm ∧ U.heap = h0) (fun _ _ _ _ _ => True) (fun _ U o U' => ∃ v L, o = .returned v ∧ Q0 Z p1 p2 p3 p4 p5 p6 h0 n0 v U'.heap L ∧ FrameEnd U o U' L room_1.cells room_1.slots) := by
  refine MetFree.of_bodySF (plainFor_of_name pn_2) hisR ?_
  intro p e s m args below meth c s₁ Bd hml0 hP hK
  obtain ⟨rfl, hZ, hh⟩ := hP
  have hx := Bd.exec
  have hby := Bd.bytes
  have hml : c.maxLocals = 10 := hml0
  have hown : s.vm.findClass "com/example/libpundit/libpundit/core/IntListAddPinLaw" = some m.cls := findClass_of_methodNamed Bd.named
  have hnm := (name_of_methodNamed Bd.named Bd.method).1
  have X0 : Stand p l e room_1 s m #[(.int p1), (.int p2), (.int p3), (.int p4), (.int p5), (.int p6)] below meth c s₁ [] 0 0 := Stand.of_body Bd
  have e0 : s₁.heap = h0 := by rw [← hh, Bd.state]; rfl
  have N0 := Fr.nil n0
  change own_Go p e below (Q0 Z p1 p2 p3 p4 p5 p6 h0 n0) (own_Fr s room_1.cells room_1.slots) (s₁.setTop (entryFrame m #[(.int p1), (.int p2), (.int p3), (.int p4), (.int p5), (.int p6)] maxLocals))
  rw [ef_0 m p1 p2 p3 p4 p5 p6]
  have rp1 := rng32 p1
  have rp2 := rng32 p2
  have rp3 := rng32 p3
  have rp4 := rng32 p4
  have rp5 := rng32 p5
  have rp6 := rng32 p6
  refine own_iload (pc' := 2) X0 hx rfl (hb hby at_0) rfl ?_
  refine own_ldcInt (pc' := 4) X0 hx hZ hown (hw _ (List.mem_of_getElem? (i := 0) rfl)) (hb hby at_2) rfl ?_
  obtain ⟨v1, hv1⟩ : ∃ z, p6 &&& (2147483647 : Int32) = z := ⟨_, rfl⟩
  have f2 : v1.toInt = p6.toInt % 2147483648 := by rw [← hv1]; exact c_mask p6 (2147483647 : Int32) 31 (by decide) (by decide)
  refine own_iand (pc' := 5) X0 hx (z := v1) hv1 (hb hby at_4) rfl ?_
  refine own_bipush (pc' := 7) X0 hx (6 : Int32) (by decide) (hb hby at_5) rfl ?_
  obtain ⟨v3, hv3⟩ : ∃ z, v1 % (6 : Int32) = z := ⟨_, rfl⟩
  have f4 : v3.toInt = v1.toInt % 6 := by rw [← hv3]; exact (c_irem v1 (6 : Int32) 6 (by decide)).1 (by omega)
  refine own_irem (pc' := 8) X0 hx (z := v3) (by decide) hv3 (hb hby at_7) rfl ?_
  refine own_istore (pc' := 10) X0 hx #[.val (.int p1), .val (.int p2), .val (.int p3), .val (.int p4), .val (.int p5), .val (.int p6), .val (.int v3), .unset, .unset, .unset] rfl (hb hby at_8) rfl ?_
  have b5 : v3.toInt = 0 ∨ v3.toInt = 1 ∨ v3.toInt = 2 ∨ v3.toInt = 3 ∨ v3.toInt = 4 ∨ v3.toInt = 5 := by omega
  rcases b5 with b5 | b5 | b5 | b5 | b5 | b5
  · obtain rfl : v3 = (0 : Int32) := Int32.toInt_inj.mp b5
    have kz6 : (0 : Int32).toInt = 0 := by decide
    obtain ⟨T7, h7, X7, e7, E7, A7, D7, -, st7⟩ := newO X0 hx hZ hown (hw _ (List.mem_of_getElem? (i := 1) rfl)) (hw _ (List.mem_of_getElem? (i := 2) rfl)) (hw _ (List.mem_of_getElem? (i := 3) rfl)) e0 (g := (mkF m 10 #[.val (.int p1), .val (.int p2), .val (.int p3), .val (.int p4), .val (.int p5), .val (.int p6), .val (.int (0 : Int32)), .unset, .unset, .unset] [])) rfl (hb hby at_10) (by decide) (by decide)
    obtain ⟨a7, ga7⟩ : ∃ z, z = h0.size := ⟨_, rfl⟩
    rw [← ga7] at A7 D7 st7
    have fr7 : n0 ≤ a7 := Nat.le_trans Z0 (Nat.le_of_eq ga7.symm)
    have Z8 : n0 ≤ h7.size := Nat.le_trans Z0 E7.1
    have F9 : Fld Z h7 a7 "com/example/libpundit/libpundit/core/IntList" "values" "[I" .null := D7 (Or.inl (hw _ (List.mem_of_getElem? (i := 12) rfl))) (ty := (.array .int)) (by decide)
    have F10 : Fld Z h7 a7 "com/example/libpundit/libpundit/core/IntList" "size" "I" (.int (0 : Int32)) := D7 (Or.inl (hw _ (List.mem_of_getElem? (i := 19) rfl))) (ty := .int) (by decide)
    refine own_by st7 ?_
    show own_Go p e below (Q0 Z p1 p2 p3 p4 p5 p6 h0 n0) (own_Fr s room_1.cells room_1.slots) (T7.setTop (mkF m 13 #[.val (.int p1), .val (.int p2), .val (.int p3), .val (.int p4), .val (.int p5), .val (.int p6), .val (.int (0 : Int32)), .unset, .unset, .unset] [(.ref a7)]))
    refine own_dup (pc' := 14) X7 hx rfl (hb hby at_13) rfl ?_
    obtain ⟨_, _, ⟨T11, L11, k11, n11⟩, -, X11, ⟨Lc11, hQ11, l11, y11, z11⟩, st11⟩ := X7.specialBack hx (y := (⟨"com/example/libpundit/libpundit/core/IntList", "<init>", "()V"⟩ : MethodName)) rfl hown (mvT hZ (hw _ (List.mem_of_getElem? (i := 4) rfl))) (mvT hZ (hw _ (List.mem_of_getElem? (i := 5) rfl))) (mvT hZ (hw _ (List.mem_of_getElem? (i := 6) rfl))) (by decide) (backOf (W := 1) (rmi l Z a0 hw [] a7 h7 n0 Z8 A7 F9 F10 fr7) hZ (hw _ (List.mem_of_getElem? (i := 6) rfl)) (hw _ (List.mem_of_getElem? (i := 3) rfl)) (by decide) (by decide)) (g := (mkF m 14 #[.val (.int p1), .val (.int p2), .val (.int p3), .val (.int p4), .val (.int p5), .val (.int p6), .val (.int (0 : Int32)), .unset, .unset, .unset] [(.ref a7), (.ref a7)])) rfl (by rw [hml]; rfl) (Steps.refl _) (a := a7) (argsL := []) (rest := [(.ref a7)]) (lenOf pd_2 rfl) rfl (by show 2 * 0 + _ ≤ _; exact Nat.le_of_eq rfl) (hb hby at_14) (fun _ _ => ⟨rfl, e7, (by decide : 1 + 1 ≤ _), (by decide : 2 + 4 ≤ _)⟩)
    dsimp only [Pt.U, Pt.locs, Pt.cells, Pt.slots] at X11 l11 y11 z11 st11 hQ11
    subst l11 y11 z11
    obtain ⟨ar_11, kc_11, rfl, pp11, N11, Kc11, gc11_ar, Ec11_a1, Ec11_ar, Fc11_0, Fc11_1, Ac11_ar⟩ := hQ11
    have n12 : a7 ≠ ar_11 := Nat.ne_of_lt (Nat.lt_of_lt_of_le A7.lt gc11_ar)
    have frar_11 : n0 ≤ ar_11 := Nat.le_trans Z8 gc11_ar
    have Z13 : n0 ≤ T11.heap.size := Nat.le_trans Z8 Kc11.1
    have N11a := Fr.app N0 N11
    refine own_via st11 ?_
    show own_Go p e below (Q0 Z p1 p2 p3 p4 p5 p6 h0 n0) (own_Fr s room_1.cells room_1.slots) (T11.setTop (mkF m 17 #[.val (.int p1), .val (.int p2), .val (.int p3), .val (.int p4), .val (.int p5), .val (.int p6), .val (.int (0 : Int32)), .unset, .unset, .unset] [(.ref a7)]))
    refine own_astore (pc' := 19) X11 hx #[.val (.int p1), .val (.int p2), .val (.int p3), .val (.int p4), .val (.int p5), .val (.int p6), .val (.int (0 : Int32)), .val (.ref a7), .unset, .unset] rfl rfl (hb hby at_17) rfl ?_
    refine own_iload (pc' := 21) X11 hx rfl (hb hby at_19) rfl ?_
    refine own_ifYes (pc' := 30) X11 hx (hb hby at_21) (by decide) (by decide) (by decide) ?_
    refine own_iload (pc' := 32) X11 hx rfl (hb hby at_30) rfl ?_
    refine own_iconst (pc' := 33) X11 hx (1 : Int32) (by decide) (hb hby at_32) rfl ?_
    refine own_icmpYes (pc' := 42) X11 hx (hb hby at_33) (by decide) (by decide) (by decide) ?_
    refine own_iload (pc' := 44) X11 hx rfl (hb hby at_42) rfl ?_
    refine own_iconst (pc' := 45) X11 hx (2 : Int32) (by decide) (hb hby at_44) rfl ?_
    refine own_icmpYes (pc' := 54) X11 hx (hb hby at_45) (by decide) (by decide) (by decide) ?_
    refine own_iload (pc' := 56) X11 hx rfl (hb hby at_54) rfl ?_
    refine own_iconst (pc' := 57) X11 hx (3 : Int32) (by decide) (hb hby at_56) rfl ?_
    refine own_icmpYes (pc' := 66) X11 hx (hb hby at_57) (by decide) (by decide) (by decide) ?_
    refine own_iload (pc' := 68) X11 hx rfl (hb hby at_66) rfl ?_
    refine own_iconst (pc' := 69) X11 hx (4 : Int32) (by decide) (hb hby at_68) rfl ?_
    refine own_icmpYes (pc' := 79) X11 hx (hb hby at_69) (by decide) (by decide) (by decide) ?_
    refine own_aload (pc' := 81) X11 hx rfl rfl (hb hby at_79) rfl ?_
    obtain ⟨cq14, kq14, q14a, q14b, q14c⟩ := isOf hZ rfl Ec11_a1
    obtain ⟨_, _, ⟨T14, L14, k14, n14⟩, -, X14, ⟨Lc14, hQ14, l14, y14, z14⟩, st14⟩ := X11.virtualBack hx (y := (⟨"com/example/libpundit/libpundit/core/IntList", "toArray", "()[I"⟩ : MethodName)) (z := (⟨"com/example/libpundit/libpundit/core/IntList", "toArray", "()[I"⟩ : MethodName)) hown (mvT hZ (hw _ (List.mem_of_getElem? (i := 20) rfl))) (mvT hZ (hw _ (List.mem_of_getElem? (i := 21) rfl))) (notFace_of_selects (args := #[]) (mvT hZ (hw _ (List.mem_of_getElem? (i := 23) rfl)))) (mvT hZ (hw _ (List.mem_of_getElem? (i := 23) rfl))) (mvT hZ (hw _ (List.mem_of_getElem? (i := 22) rfl))) (by decide) (backOf (W := 0) (rmt0 l Z a0 hw [] a7 ar_11 kc_11 T11.heap n0 Z13 Ec11_ar Fc11_0 Fc11_1 Ac11_ar) hZ (hw _ (List.mem_of_getElem? (i := 24) rfl)) (hw _ (List.mem_of_getElem? (i := 3) rfl)) (by decide) (by decide)) q14a q14c (g := (mkF m 81 #[.val (.int p1), .val (.int p2), .val (.int p3), .val (.int p4), .val (.int p5), .val (.int p6), .val (.int (0 : Int32)), .val (.ref a7), .unset, .unset] [(.ref a7)])) rfl (by rw [hml]; rfl) (Steps.refl _) (argsL := []) (rest := []) (lenOf pd_4 rfl) rfl (by show 2 * 0 + _ ≤ _; exact Nat.le_of_eq rfl) (hb hby at_81) (fun _ _ => ⟨rfl, rfl, (by decide : 2 + 1 ≤ _), (by decide : 6 + 0 ≤ _)⟩)
    dsimp only [Pt.U, Pt.locs, Pt.cells, Pt.slots] at X14 l14 y14 z14 st14 hQ14
    subst l14 y14 z14
    obtain ⟨q_14, kd_14, rfl, pp14, N14, Kc14, gc14_q, Ec14_q, Ac14_q⟩ := hQ14
    have n15 : a7 ≠ q_14 := Nat.ne_of_lt (Nat.lt_of_lt_of_le Ec11_a1.lt gc14_q)
    have n16 : ar_11 ≠ q_14 := Nat.ne_of_lt (Nat.lt_of_lt_of_le Ec11_ar.lt gc14_q)
    have frq_14 : n0 ≤ q_14 := Nat.le_trans Z13 gc14_q
    have F17 : Fld Z T14.heap a7 "com/example/libpundit/libpundit/core/IntList" "values" "[I" (.ref ar_11) := Fc11_0.keep Kc14 nin0
    have F18 : Fld Z T14.heap a7 "com/example/libpundit/libpundit/core/IntList" "size" "I" (.int (0 : Int32)) := Fc11_1.keep Kc14 nin0
    have E19 : Exa Z T14.heap a7 "com/example/libpundit/libpundit/core/IntList" := Ec11_a1.keep Kc14
    have E20 : Exa Z T14.heap ar_11 "[I" := Ec11_ar.keep Kc14
    have A21 : Arv Z T14.heap ar_11 kc_11 .int (4 : Int32) [(.int (0 : Int32)), (.int (0 : Int32)), (.int (0 : Int32)), (.int (0 : Int32))] (.int (0 : Int32)) := Ac11_ar.keep Kc14 nin0
    have Z22 : n0 ≤ T14.heap.size := Nat.le_trans Z13 Kc14.1
    have N14a := Fr.app N11a N14
    refine own_via st14 ?_
    show own_Go p e below (Q0 Z p1 p2 p3 p4 p5 p6 h0 n0) (own_Fr s room_1.cells room_1.slots) (T14.setTop (mkF m 84 #[.val (.int p1), .val (.int p2), .val (.int p3), .val (.int p4), .val (.int p5), .val (.int p6), .val (.int (0 : Int32)), .val (.ref a7), .unset, .unset] [(.ref q_14)]))
    refine own_astore (pc' := 86) X14 hx #[.val (.int p1), .val (.int p2), .val (.int p3), .val (.int p4), .val (.int p5), .val (.int p6), .val (.int (0 : Int32)), .val (.ref a7), .val (.ref q_14), .unset] rfl rfl (hb hby at_84) rfl ?_
    refine own_aload (pc' := 88) X14 hx rfl rfl (hb hby at_86) rfl ?_
    obtain ⟨cq23, kq23, q23a, q23b, q23c⟩ := isOf hZ rfl E19
    obtain ⟨_, _, ⟨T23, L23, k23, n23⟩, -, X23, ⟨Lc23, hQ23, l23, y23, z23⟩, st23⟩ := X14.virtualBack hx (y := (⟨"com/example/libpundit/libpundit/core/IntList", "size", "()I"⟩ : MethodName)) (z := (⟨"com/example/libpundit/libpundit/core/IntList", "size", "()I"⟩ : MethodName)) hown (mvT hZ (hw _ (List.mem_of_getElem? (i := 37) rfl))) (mvT hZ (hw _ (List.mem_of_getElem? (i := 38) rfl))) (notFace_of_selects (args := #[]) (mvT hZ (hw _ (List.mem_of_getElem? (i := 40) rfl)))) (mvT hZ (hw _ (List.mem_of_getElem? (i := 40) rfl))) (mvT hZ (hw _ (List.mem_of_getElem? (i := 39) rfl))) (by decide) (backOf (W := 0) (rmz0 l Z a0 hw [] a7 T14.heap n0 Z22 F18) hZ (hw _ (List.mem_of_getElem? (i := 41) rfl)) (hw _ (List.mem_of_getElem? (i := 3) rfl)) (by decide) (by decide)) q23a q23c (g := (mkF m 88 #[.val (.int p1), .val (.int p2), .val (.int p3), .val (.int p4), .val (.int p5), .val (.int p6), .val (.int (0 : Int32)), .val (.ref a7), .val (.ref q_14), .unset] [(.ref a7)])) rfl (by rw [hml]; rfl) (Steps.refl _) (argsL := []) (rest := []) (lenOf pd_5 rfl) rfl (by show 2 * 0 + _ ≤ _; exact Nat.le_of_eq rfl) (hb hby at_88) (fun _ _ => ⟨rfl, rfl, (by decide : 3 + 0 ≤ _), (by decide : 6 + 0 ≤ _)⟩)
    dsimp only [Pt.U, Pt.locs, Pt.cells, Pt.slots] at X23 l23 y23 z23 st23 hQ23
    subst l23 y23 z23
    obtain ⟨rfl, pp23, N23, e23⟩ := hQ23
    have N23a := Fr.app N14a N23
    refine own_via st23 ?_
    show own_Go p e below (Q0 Z p1 p2 p3 p4 p5 p6 h0 n0) (own_Fr s room_1.cells room_1.slots) (T23.setTop (mkF m 91 #[.val (.int p1), .val (.int p2), .val (.int p3), .val (.int p4), .val (.int p5), .val (.int p6), .val (.int (0 : Int32)), .val (.ref a7), .val (.ref q_14), .unset] [(.int (0 : Int32))]))
    refine own_iload (pc' := 93) X23 hx rfl (hb hby at_91) rfl ?_
    refine own_icmpYes (pc' := 98) X23 hx (hb hby at_93) (by decide) (by decide) (by decide) ?_
    refine own_aload (pc' := 100) X23 hx rfl rfl (hb hby at_98) rfl ?_
    obtain ⟨c24, B24, q24, s24, u24, H24, G24⟩ := id Ac14_q
    refine own_by (X23.arraylength hx (by rw [e23]; exact B24.1) (State.isArrayOf_alike hZ.alike B24.2.1) (g := (mkF m 100 #[.val (.int p1), .val (.int p2), .val (.int p3), .val (.int p4), .val (.int p5), .val (.int p6), .val (.int (0 : Int32)), .val (.ref a7), .val (.ref q_14), .unset] [(.ref q_14)])) rfl rfl (hb hby at_100)) ?_
    rw [len_of s24 u24]
    show own_Go p e below (Q0 Z p1 p2 p3 p4 p5 p6 h0 n0) (own_Fr s room_1.cells room_1.slots) (T23.setTop (mkF m 101 #[.val (.int p1), .val (.int p2), .val (.int p3), .val (.int p4), .val (.int p5), .val (.int p6), .val (.int (0 : Int32)), .val (.ref a7), .val (.ref q_14), .unset] [(.int (0 : Int32))]))
    refine own_iload (pc' := 103) X23 hx rfl (hb hby at_101) rfl ?_
    refine own_icmpYes (pc' := 108) X23 hx (hb hby at_103) (by decide) (by decide) (by decide) ?_
    refine own_iconst (pc' := 109) X23 hx (1 : Int32) (by decide) (hb hby at_108) rfl ?_
    refine own_istore (pc' := 111) X23 hx #[.val (.int p1), .val (.int p2), .val (.int p3), .val (.int p4), .val (.int p5), .val (.int p6), .val (.int (0 : Int32)), .val (.ref a7), .val (.ref q_14), .val (.int (1 : Int32))] rfl (hb hby at_109) rfl ?_
    refine own_iload (pc' := 113) X23 hx rfl (hb hby at_111) rfl ?_
    refine own_ifYes (pc' := 136) X23 hx (hb hby at_113) (by decide) (by decide) (by decide) ?_
    refine own_iload (pc' := 138) X23 hx rfl (hb hby at_136) rfl ?_
    refine own_iconst (pc' := 139) X23 hx (1 : Int32) (by decide) (hb hby at_138) rfl ?_
    refine own_icmpYes (pc' := 162) X23 hx (hb hby at_139) (by decide) (by decide) (by decide) ?_
    refine own_iload (pc' := 164) X23 hx rfl (hb hby at_162) rfl ?_
    refine own_iconst (pc' := 165) X23 hx (2 : Int32) (by decide) (hb hby at_164) rfl ?_
    refine own_icmpYes (pc' := 188) X23 hx (hb hby at_165) (by decide) (by decide) (by decide) ?_
    refine own_iload (pc' := 190) X23 hx rfl (hb hby at_188) rfl ?_
    refine own_iconst (pc' := 191) X23 hx (3 : Int32) (by decide) (hb hby at_190) rfl ?_
    refine own_icmpYes (pc' := 214) X23 hx (hb hby at_191) (by decide) (by decide) (by decide) ?_
    refine own_iload (pc' := 216) X23 hx rfl (hb hby at_214) rfl ?_
    refine own_iconst (pc' := 217) X23 hx (4 : Int32) (by decide) (hb hby at_216) rfl ?_
    refine own_icmpYes (pc' := 241) X23 hx (hb hby at_217) (by decide) (by decide) (by decide) ?_
    refine own_iload (pc' := 243) X23 hx rfl (hb hby at_241) rfl ?_
    refine own_ret X23 hx Bd.returns Bd.notSynchronized (Or.inl ⟨rfl, by simp, _, rfl⟩) (hb hby at_243) rfl (by decide) (by decide) ?_
    show Q0 Z p1 p2 p3 p4 p5 p6 h0 n0 _ T23.heap _
    rw [e23]
    exact ⟨rfl, N23a⟩
  · obtain rfl : v3 = (1 : Int32) := Int32.toInt_inj.mp b5
    have kz25 : (1 : Int32).toInt = 1 := by decide
    obtain ⟨T26, h26, X26, e26, E26, A26, D26, -, st26⟩ := newO X0 hx hZ hown (hw _ (List.mem_of_getElem? (i := 1) rfl)) (hw _ (List.mem_of_getElem? (i := 2) rfl)) (hw _ (List.mem_of_getElem? (i := 3) rfl)) e0 (g := (mkF m 10 #[.val (.int p1), .val (.int p2), .val (.int p3), .val (.int p4), .val (.int p5), .val (.int p6), .val (.int (1 : Int32)), .unset, .unset, .unset] [])) rfl (hb hby at_10) (by decide) (by decide)
    obtain ⟨a26, ga26⟩ : ∃ z, z = h0.size := ⟨_, rfl⟩
    rw [← ga26] at A26 D26 st26
    have fr26 : n0 ≤ a26 := Nat.le_trans Z0 (Nat.le_of_eq ga26.symm)
    have Z27 : n0 ≤ h26.size := Nat.le_trans Z0 E26.1
    have F28 : Fld Z h26 a26 "com/example/libpundit/libpundit/core/IntList" "values" "[I" .null := D26 (Or.inl (hw _ (List.mem_of_getElem? (i := 12) rfl))) (ty := (.array .int)) (by decide)
    have F29 : Fld Z h26 a26 "com/example/libpundit/libpundit/core/IntList" "size" "I" (.int (0 : Int32)) := D26 (Or.inl (hw _ (List.mem_of_getElem? (i := 19) rfl))) (ty := .int) (by decide)
    refine own_by st26 ?_
    show own_Go p e below (Q0 Z p1 p2 p3 p4 p5 p6 h0 n0) (own_Fr s room_1.cells room_1.slots) (T26.setTop (mkF m 13 #[.val (.int p1), .val (.int p2), .val (.int p3), .val (.int p4), .val (.int p5), .val (.int p6), .val (.int (1 : Int32)), .unset, .unset, .unset] [(.ref a26)]))
    refine own_dup (pc' := 14) X26 hx rfl (hb hby at_13) rfl ?_
    obtain ⟨_, _, ⟨T30, L30, k30, n30⟩, -, X30, ⟨Lc30, hQ30, l30, y30, z30⟩, st30⟩ := X26.specialBack hx (y := (⟨"com/example/libpundit/libpundit/core/IntList", "<init>", "()V"⟩ : MethodName)) rfl hown (mvT hZ (hw _ (List.mem_of_getElem? (i := 4) rfl))) (mvT hZ (hw _ (List.mem_of_getElem? (i := 5) rfl))) (mvT hZ (hw _ (List.mem_of_getElem? (i := 6) rfl))) (by decide) (backOf (W := 1) (rmi l Z a0 hw [] a26 h26 n0 Z27 A26 F28 F29 fr26) hZ (hw _ (List.mem_of_getElem? (i := 6) rfl)) (hw _ (List.mem_of_getElem? (i := 3) rfl)) (by decide) (by decide)) (g := (mkF m 14 #[.val (.int p1), .val (.int p2), .val (.int p3), .val (.int p4), .val (.int p5), .val (.int p6), .val (.int (1 : Int32)), .unset, .unset, .unset] [(.ref a26), (.ref a26)])) rfl (by rw [hml]; rfl) (Steps.refl _) (a := a26) (argsL := []) (rest := [(.ref a26)]) (lenOf pd_2 rfl) rfl (by show 2 * 0 + _ ≤ _; exact Nat.le_of_eq rfl) (hb hby at_14) (fun _ _ => ⟨rfl, e26, (by decide : 1 + 1 ≤ _), (by decide : 2 + 4 ≤ _)⟩)
    dsimp only [Pt.U, Pt.locs, Pt.cells, Pt.slots] at X30 l30 y30 z30 st30 hQ30
    subst l30 y30 z30
    obtain ⟨ar_30, kc_30, rfl, pp30, N30, Kc30, gc30_ar, Ec30_a1, Ec30_ar, Fc30_0, Fc30_1, Ac30_ar⟩ := hQ30
    have n31 : a26 ≠ ar_30 := Nat.ne_of_lt (Nat.lt_of_lt_of_le A26.lt gc30_ar)
    have frar_30 : n0 ≤ ar_30 := Nat.le_trans Z27 gc30_ar
    have Z32 : n0 ≤ T30.heap.size := Nat.le_trans Z27 Kc30.1
    have N30a := Fr.app N0 N30
    refine own_via st30 ?_
    show own_Go p e below (Q0 Z p1 p2 p3 p4 p5 p6 h0 n0) (own_Fr s room_1.cells room_1.slots) (T30.setTop (mkF m 17 #[.val (.int p1), .val (.int p2), .val (.int p3), .val (.int p4), .val (.int p5), .val (.int p6), .val (.int (1 : Int32)), .unset, .unset, .unset] [(.ref a26)]))
    refine own_astore (pc' := 19) X30 hx #[.val (.int p1), .val (.int p2), .val (.int p3), .val (.int p4), .val (.int p5), .val (.int p6), .val (.int (1 : Int32)), .val (.ref a26), .unset, .unset] rfl rfl (hb hby at_17) rfl ?_
    refine own_iload (pc' := 21) X30 hx rfl (hb hby at_19) rfl ?_
    refine own_ifNo (pc' := 24) X30 hx (by decide) (hb hby at_21) rfl ?_
    refine own_aload (pc' := 26) X30 hx rfl rfl (hb hby at_24) rfl ?_
    refine own_iloadN (pc' := 27) X30 hx rfl (hb hby at_26) rfl ?_
    obtain ⟨cq33, kq33, q33a, q33b, q33c⟩ := isOf hZ rfl Ec30_a1
    obtain ⟨_, _, ⟨T33, L33, k33, n33⟩, -, X33, ⟨Lc33, hQ33, l33, y33, z33⟩, st33⟩ := X30.virtualBack hx (y := (⟨"com/example/libpundit/libpundit/core/IntList", "add", "(I)V"⟩ : MethodName)) (z := (⟨"com/example/libpundit/libpundit/core/IntList", "add", "(I)V"⟩ : MethodName)) hown (mvT hZ (hw _ (List.mem_of_getElem? (i := 13) rfl))) (mvT hZ (hw _ (List.mem_of_getElem? (i := 14) rfl))) (notFace_of_selects (args := #[]) (mvT hZ (hw _ (List.mem_of_getElem? (i := 16) rfl)))) (mvT hZ (hw _ (List.mem_of_getElem? (i := 16) rfl))) (mvT hZ (hw _ (List.mem_of_getElem? (i := 15) rfl))) (by decide) (backOf (W := 0) (rma0 l Z a0 hw [] a26 p1 ar_30 kc_30 T30.heap n0 Z32 Ec30_a1 Ec30_ar Fc30_0 Fc30_1 Ac30_ar fr26 frar_30 n31) hZ (hw _ (List.mem_of_getElem? (i := 17) rfl)) (hw _ (List.mem_of_getElem? (i := 3) rfl)) (by decide) (by decide)) q33a q33c (g := (mkF m 27 #[.val (.int p1), .val (.int p2), .val (.int p3), .val (.int p4), .val (.int p5), .val (.int p6), .val (.int (1 : Int32)), .val (.ref a26), .unset, .unset] [(.int p1), (.ref a26)])) rfl (by rw [hml]; rfl) (Steps.refl _) (argsL := [(.int p1)]) (rest := []) (lenOf pd_3 rfl) rfl (by show 2 * 0 + _ ≤ _; exact Nat.le_of_eq rfl) (hb hby at_27) (fun _ _ => ⟨rfl, rfl, (by decide : 2 + 0 ≤ _), (by decide : 6 + 0 ≤ _)⟩)
    dsimp only [Pt.U, Pt.locs, Pt.cells, Pt.slots] at X33 l33 y33 z33 st33 hQ33
    subst l33 y33 z33
    obtain ⟨rfl, pp33, N33, Kc33, Ec33_a1, Ec33_ar, Fc33_0, Fc33_1, Ac33_ar⟩ := hQ33
    have Z34 : n0 ≤ T33.heap.size := Nat.le_trans Z32 Kc33.1
    have N33a := Fr.app N30a N33
    refine own_via st33 ?_
    show own_Go p e below (Q0 Z p1 p2 p3 p4 p5 p6 h0 n0) (own_Fr s room_1.cells room_1.slots) (T33.setTop (mkF m 30 #[.val (.int p1), .val (.int p2), .val (.int p3), .val (.int p4), .val (.int p5), .val (.int p6), .val (.int (1 : Int32)), .val (.ref a26), .unset, .unset] []))
    refine own_iload (pc' := 32) X33 hx rfl (hb hby at_30) rfl ?_
    refine own_iconst (pc' := 33) X33 hx (1 : Int32) (by decide) (hb hby at_32) rfl ?_
    refine own_icmpYes (pc' := 42) X33 hx (hb hby at_33) (by decide) (by decide) (by decide) ?_
    refine own_iload (pc' := 44) X33 hx rfl (hb hby at_42) rfl ?_
    refine own_iconst (pc' := 45) X33 hx (2 : Int32) (by decide) (hb hby at_44) rfl ?_
    refine own_icmpYes (pc' := 54) X33 hx (hb hby at_45) (by decide) (by decide) (by decide) ?_
    refine own_iload (pc' := 56) X33 hx rfl (hb hby at_54) rfl ?_
    refine own_iconst (pc' := 57) X33 hx (3 : Int32) (by decide) (hb hby at_56) rfl ?_
    refine own_icmpYes (pc' := 66) X33 hx (hb hby at_57) (by decide) (by decide) (by decide) ?_
    refine own_iload (pc' := 68) X33 hx rfl (hb hby at_66) rfl ?_
    refine own_iconst (pc' := 69) X33 hx (4 : Int32) (by decide) (hb hby at_68) rfl ?_
    refine own_icmpYes (pc' := 79) X33 hx (hb hby at_69) (by decide) (by decide) (by decide) ?_
    refine own_aload (pc' := 81) X33 hx rfl rfl (hb hby at_79) rfl ?_
    obtain ⟨cq35, kq35, q35a, q35b, q35c⟩ := isOf hZ rfl Ec33_a1
    obtain ⟨_, _, ⟨T35, L35, k35, n35⟩, -, X35, ⟨Lc35, hQ35, l35, y35, z35⟩, st35⟩ := X33.virtualBack hx (y := (⟨"com/example/libpundit/libpundit/core/IntList", "toArray", "()[I"⟩ : MethodName)) (z := (⟨"com/example/libpundit/libpundit/core/IntList", "toArray", "()[I"⟩ : MethodName)) hown (mvT hZ (hw _ (List.mem_of_getElem? (i := 20) rfl))) (mvT hZ (hw _ (List.mem_of_getElem? (i := 21) rfl))) (notFace_of_selects (args := #[]) (mvT hZ (hw _ (List.mem_of_getElem? (i := 23) rfl)))) (mvT hZ (hw _ (List.mem_of_getElem? (i := 23) rfl))) (mvT hZ (hw _ (List.mem_of_getElem? (i := 22) rfl))) (by decide) (backOf (W := 0) (rmt1 l Z a0 hw [] a26 ar_30 kc_30 p1 T33.heap n0 Z34 Ec33_ar Fc33_0 Fc33_1 Ac33_ar) hZ (hw _ (List.mem_of_getElem? (i := 24) rfl)) (hw _ (List.mem_of_getElem? (i := 3) rfl)) (by decide) (by decide)) q35a q35c (g := (mkF m 81 #[.val (.int p1), .val (.int p2), .val (.int p3), .val (.int p4), .val (.int p5), .val (.int p6), .val (.int (1 : Int32)), .val (.ref a26), .unset, .unset] [(.ref a26)])) rfl (by rw [hml]; rfl) (Steps.refl _) (argsL := []) (rest := []) (lenOf pd_4 rfl) rfl (by show 2 * 0 + _ ≤ _; exact Nat.le_of_eq rfl) (hb hby at_81) (fun _ _ => ⟨rfl, rfl, (by decide : 2 + 1 ≤ _), (by decide : 6 + 1 ≤ _)⟩)
    dsimp only [Pt.U, Pt.locs, Pt.cells, Pt.slots] at X35 l35 y35 z35 st35 hQ35
    subst l35 y35 z35
    obtain ⟨q_35, kd_35, rfl, pp35, N35, Kc35, gc35_q, Ec35_q, Ac35_q⟩ := hQ35
    have n36 : a26 ≠ q_35 := Nat.ne_of_lt (Nat.lt_of_lt_of_le Ec33_a1.lt gc35_q)
    have n37 : ar_30 ≠ q_35 := Nat.ne_of_lt (Nat.lt_of_lt_of_le Ec33_ar.lt gc35_q)
    have frq_35 : n0 ≤ q_35 := Nat.le_trans Z34 gc35_q
    have F38 : Fld Z T35.heap a26 "com/example/libpundit/libpundit/core/IntList" "values" "[I" (.ref ar_30) := Fc33_0.keep Kc35 nin0
    have F39 : Fld Z T35.heap a26 "com/example/libpundit/libpundit/core/IntList" "size" "I" (.int (1 : Int32)) := Fc33_1.keep Kc35 nin0
    have E40 : Exa Z T35.heap a26 "com/example/libpundit/libpundit/core/IntList" := Ec33_a1.keep Kc35
    have E41 : Exa Z T35.heap ar_30 "[I" := Ec33_ar.keep Kc35
    have A42 : Arv Z T35.heap ar_30 kc_30 .int (4 : Int32) [(.int p1), (.int (0 : Int32)), (.int (0 : Int32)), (.int (0 : Int32))] (.int (0 : Int32)) := Ac33_ar.keep Kc35 nin0
    have Z43 : n0 ≤ T35.heap.size := Nat.le_trans Z34 Kc35.1
    have N35a := Fr.app N33a N35
    refine own_via st35 ?_
    show own_Go p e below (Q0 Z p1 p2 p3 p4 p5 p6 h0 n0) (own_Fr s room_1.cells room_1.slots) (T35.setTop (mkF m 84 #[.val (.int p1), .val (.int p2), .val (.int p3), .val (.int p4), .val (.int p5), .val (.int p6), .val (.int (1 : Int32)), .val (.ref a26), .unset, .unset] [(.ref q_35)]))
    refine own_astore (pc' := 86) X35 hx #[.val (.int p1), .val (.int p2), .val (.int p3), .val (.int p4), .val (.int p5), .val (.int p6), .val (.int (1 : Int32)), .val (.ref a26), .val (.ref q_35), .unset] rfl rfl (hb hby at_84) rfl ?_
    refine own_aload (pc' := 88) X35 hx rfl rfl (hb hby at_86) rfl ?_
    obtain ⟨cq44, kq44, q44a, q44b, q44c⟩ := isOf hZ rfl E40
    obtain ⟨_, _, ⟨T44, L44, k44, n44⟩, -, X44, ⟨Lc44, hQ44, l44, y44, z44⟩, st44⟩ := X35.virtualBack hx (y := (⟨"com/example/libpundit/libpundit/core/IntList", "size", "()I"⟩ : MethodName)) (z := (⟨"com/example/libpundit/libpundit/core/IntList", "size", "()I"⟩ : MethodName)) hown (mvT hZ (hw _ (List.mem_of_getElem? (i := 37) rfl))) (mvT hZ (hw _ (List.mem_of_getElem? (i := 38) rfl))) (notFace_of_selects (args := #[]) (mvT hZ (hw _ (List.mem_of_getElem? (i := 40) rfl)))) (mvT hZ (hw _ (List.mem_of_getElem? (i := 40) rfl))) (mvT hZ (hw _ (List.mem_of_getElem? (i := 39) rfl))) (by decide) (backOf (W := 0) (rmz1 l Z a0 hw [] a26 T35.heap n0 Z43 F39) hZ (hw _ (List.mem_of_getElem? (i := 41) rfl)) (hw _ (List.mem_of_getElem? (i := 3) rfl)) (by decide) (by decide)) q44a q44c (g := (mkF m 88 #[.val (.int p1), .val (.int p2), .val (.int p3), .val (.int p4), .val (.int p5), .val (.int p6), .val (.int (1 : Int32)), .val (.ref a26), .val (.ref q_35), .unset] [(.ref a26)])) rfl (by rw [hml]; rfl) (Steps.refl _) (argsL := []) (rest := []) (lenOf pd_5 rfl) rfl (by show 2 * 0 + _ ≤ _; exact Nat.le_of_eq rfl) (hb hby at_88) (fun _ _ => ⟨rfl, rfl, (by decide : 3 + 0 ≤ _), (by decide : 7 + 0 ≤ _)⟩)
    dsimp only [Pt.U, Pt.locs, Pt.cells, Pt.slots] at X44 l44 y44 z44 st44 hQ44
    subst l44 y44 z44
    obtain ⟨rfl, pp44, N44, e44⟩ := hQ44
    have N44a := Fr.app N35a N44
    refine own_via st44 ?_
    show own_Go p e below (Q0 Z p1 p2 p3 p4 p5 p6 h0 n0) (own_Fr s room_1.cells room_1.slots) (T44.setTop (mkF m 91 #[.val (.int p1), .val (.int p2), .val (.int p3), .val (.int p4), .val (.int p5), .val (.int p6), .val (.int (1 : Int32)), .val (.ref a26), .val (.ref q_35), .unset] [(.int (1 : Int32))]))
    refine own_iload (pc' := 93) X44 hx rfl (hb hby at_91) rfl ?_
    refine own_icmpYes (pc' := 98) X44 hx (hb hby at_93) (by decide) (by decide) (by decide) ?_
    refine own_aload (pc' := 100) X44 hx rfl rfl (hb hby at_98) rfl ?_
    obtain ⟨c45, B45, q45, s45, u45, H45, G45⟩ := id Ac35_q
    refine own_by (X44.arraylength hx (by rw [e44]; exact B45.1) (State.isArrayOf_alike hZ.alike B45.2.1) (g := (mkF m 100 #[.val (.int p1), .val (.int p2), .val (.int p3), .val (.int p4), .val (.int p5), .val (.int p6), .val (.int (1 : Int32)), .val (.ref a26), .val (.ref q_35), .unset] [(.ref q_35)])) rfl rfl (hb hby at_100)) ?_
    rw [len_of s45 u45]
    show own_Go p e below (Q0 Z p1 p2 p3 p4 p5 p6 h0 n0) (own_Fr s room_1.cells room_1.slots) (T44.setTop (mkF m 101 #[.val (.int p1), .val (.int p2), .val (.int p3), .val (.int p4), .val (.int p5), .val (.int p6), .val (.int (1 : Int32)), .val (.ref a26), .val (.ref q_35), .unset] [(.int (1 : Int32))]))
    refine own_iload (pc' := 103) X44 hx rfl (hb hby at_101) rfl ?_
    refine own_icmpYes (pc' := 108) X44 hx (hb hby at_103) (by decide) (by decide) (by decide) ?_
    refine own_iconst (pc' := 109) X44 hx (1 : Int32) (by decide) (hb hby at_108) rfl ?_
    refine own_istore (pc' := 111) X44 hx #[.val (.int p1), .val (.int p2), .val (.int p3), .val (.int p4), .val (.int p5), .val (.int p6), .val (.int (1 : Int32)), .val (.ref a26), .val (.ref q_35), .val (.int (1 : Int32))] rfl (hb hby at_109) rfl ?_
    refine own_iload (pc' := 113) X44 hx rfl (hb hby at_111) rfl ?_
    refine own_ifNo (pc' := 116) X44 hx (by decide) (hb hby at_113) rfl ?_
    refine own_iload (pc' := 118) X44 hx rfl (hb hby at_116) rfl ?_
    refine own_ifNo (pc' := 121) X44 hx (by decide) (hb hby at_118) rfl ?_
    refine own_aload (pc' := 123) X44 hx rfl rfl (hb hby at_121) rfl ?_
    refine own_iconst (pc' := 124) X44 hx (0 : Int32) (by decide) (hb hby at_123) rfl ?_
    obtain ⟨c46, B46, q46, s46, u46, H46, G46⟩ := id Ac35_q
    have i46 := inb_of s46 (j := (0 : Int32)) (by decide)
    refine own_by (X44.iaload hx (j := (0 : Int32)) (v := (.int p1)) (by rw [e44]; exact B46.1) (State.isArrayOf_alike hZ.alike B46.2.1) B46.2.2 i46 (H46.at i46 rfl) (g := (mkF m 124 #[.val (.int p1), .val (.int p2), .val (.int p3), .val (.int p4), .val (.int p5), .val (.int p6), .val (.int (1 : Int32)), .val (.ref a26), .val (.ref q_35), .val (.int (1 : Int32))] [(.int (0 : Int32)), (.ref q_35)])) rfl rfl (hb hby at_124)) ?_
    show own_Go p e below (Q0 Z p1 p2 p3 p4 p5 p6 h0 n0) (own_Fr s room_1.cells room_1.slots) (T44.setTop (mkF m 125 #[.val (.int p1), .val (.int p2), .val (.int p3), .val (.int p4), .val (.int p5), .val (.int p6), .val (.int (1 : Int32)), .val (.ref a26), .val (.ref q_35), .val (.int (1 : Int32))] [(.int p1)]))
    refine own_iloadN (pc' := 126) X44 hx rfl (hb hby at_125) rfl ?_
    have b47 : p1.toInt = p1.toInt := by omega
    refine own_icmpNo (pc' := 129) X44 hx (own_no_ne rfl rfl b47) (hb hby at_126) rfl ?_
    refine own_iconst (pc' := 130) X44 hx (1 : Int32) (by decide) (hb hby at_129) rfl ?_
    refine own_goto (pc' := 134) X44 hx (hb hby at_130) (by decide) (by decide) ?_
    refine own_istore (pc' := 136) X44 hx #[.val (.int p1), .val (.int p2), .val (.int p3), .val (.int p4), .val (.int p5), .val (.int p6), .val (.int (1 : Int32)), .val (.ref a26), .val (.ref q_35), .val (.int (1 : Int32))] rfl (hb hby at_134) rfl ?_
    refine own_iload (pc' := 138) X44 hx rfl (hb hby at_136) rfl ?_
    refine own_iconst (pc' := 139) X44 hx (1 : Int32) (by decide) (hb hby at_138) rfl ?_
    refine own_icmpYes (pc' := 162) X44 hx (hb hby at_139) (by decide) (by decide) (by decide) ?_
    refine own_iload (pc' := 164) X44 hx rfl (hb hby at_162) rfl ?_
    refine own_iconst (pc' := 165) X44 hx (2 : Int32) (by decide) (hb hby at_164) rfl ?_
    refine own_icmpYes (pc' := 188) X44 hx (hb hby at_165) (by decide) (by decide) (by decide) ?_
    refine own_iload (pc' := 190) X44 hx rfl (hb hby at_188) rfl ?_
    refine own_iconst (pc' := 191) X44 hx (3 : Int32) (by decide) (hb hby at_190) rfl ?_
    refine own_icmpYes (pc' := 214) X44 hx (hb hby at_191) (by decide) (by decide) (by decide) ?_
    refine own_iload (pc' := 216) X44 hx rfl (hb hby at_214) rfl ?_
    refine own_iconst (pc' := 217) X44 hx (4 : Int32) (by decide) (hb hby at_216) rfl ?_
    refine own_icmpYes (pc' := 241) X44 hx (hb hby at_217) (by decide) (by decide) (by decide) ?_
    refine own_iload (pc' := 243) X44 hx rfl (hb hby at_241) rfl ?_
    refine own_ret X44 hx Bd.returns Bd.notSynchronized (Or.inl ⟨rfl, by simp, _, rfl⟩) (hb hby at_243) rfl (by decide) (by decide) ?_
    show Q0 Z p1 p2 p3 p4 p5 p6 h0 n0 _ T44.heap _
    rw [e44]
    exact ⟨rfl, N44a⟩
  · obtain rfl : v3 = (2 : Int32) := Int32.toInt_inj.mp b5
    have kz48 : (2 : Int32).toInt = 2 := by decide
    obtain ⟨T49, h49, X49, e49, E49, A49, D49, -, st49⟩ := newO X0 hx hZ hown (hw _ (List.mem_of_getElem? (i := 1) rfl)) (hw _ (List.mem_of_getElem? (i := 2) rfl)) (hw _ (List.mem_of_getElem? (i := 3) rfl)) e0 (g := (mkF m 10 #[.val (.int p1), .val (.int p2), .val (.int p3), .val (.int p4), .val (.int p5), .val (.int p6), .val (.int (2 : Int32)), .unset, .unset, .unset] [])) rfl (hb hby at_10) (by decide) (by decide)
    obtain ⟨a49, ga49⟩ : ∃ z, z = h0.size := ⟨_, rfl⟩
    rw [← ga49] at A49 D49 st49
    have fr49 : n0 ≤ a49 := Nat.le_trans Z0 (Nat.le_of_eq ga49.symm)
    have Z50 : n0 ≤ h49.size := Nat.le_trans Z0 E49.1
    have F51 : Fld Z h49 a49 "com/example/libpundit/libpundit/core/IntList" "values" "[I" .null := D49 (Or.inl (hw _ (List.mem_of_getElem? (i := 12) rfl))) (ty := (.array .int)) (by decide)
    have F52 : Fld Z h49 a49 "com/example/libpundit/libpundit/core/IntList" "size" "I" (.int (0 : Int32)) := D49 (Or.inl (hw _ (List.mem_of_getElem? (i := 19) rfl))) (ty := .int) (by decide)
    refine own_by st49 ?_
    show own_Go p e below (Q0 Z p1 p2 p3 p4 p5 p6 h0 n0) (own_Fr s room_1.cells room_1.slots) (T49.setTop (mkF m 13 #[.val (.int p1), .val (.int p2), .val (.int p3), .val (.int p4), .val (.int p5), .val (.int p6), .val (.int (2 : Int32)), .unset, .unset, .unset] [(.ref a49)]))
    refine own_dup (pc' := 14) X49 hx rfl (hb hby at_13) rfl ?_
    obtain ⟨_, _, ⟨T53, L53, k53, n53⟩, -, X53, ⟨Lc53, hQ53, l53, y53, z53⟩, st53⟩ := X49.specialBack hx (y := (⟨"com/example/libpundit/libpundit/core/IntList", "<init>", "()V"⟩ : MethodName)) rfl hown (mvT hZ (hw _ (List.mem_of_getElem? (i := 4) rfl))) (mvT hZ (hw _ (List.mem_of_getElem? (i := 5) rfl))) (mvT hZ (hw _ (List.mem_of_getElem? (i := 6) rfl))) (by decide) (backOf (W := 1) (rmi l Z a0 hw [] a49 h49 n0 Z50 A49 F51 F52 fr49) hZ (hw _ (List.mem_of_getElem? (i := 6) rfl)) (hw _ (List.mem_of_getElem? (i := 3) rfl)) (by decide) (by decide)) (g := (mkF m 14 #[.val (.int p1), .val (.int p2), .val (.int p3), .val (.int p4), .val (.int p5), .val (.int p6), .val (.int (2 : Int32)), .unset, .unset, .unset] [(.ref a49), (.ref a49)])) rfl (by rw [hml]; rfl) (Steps.refl _) (a := a49) (argsL := []) (rest := [(.ref a49)]) (lenOf pd_2 rfl) rfl (by show 2 * 0 + _ ≤ _; exact Nat.le_of_eq rfl) (hb hby at_14) (fun _ _ => ⟨rfl, e49, (by decide : 1 + 1 ≤ _), (by decide : 2 + 4 ≤ _)⟩)
    dsimp only [Pt.U, Pt.locs, Pt.cells, Pt.slots] at X53 l53 y53 z53 st53 hQ53
    subst l53 y53 z53
    obtain ⟨ar_53, kc_53, rfl, pp53, N53, Kc53, gc53_ar, Ec53_a1, Ec53_ar, Fc53_0, Fc53_1, Ac53_ar⟩ := hQ53
    have n54 : a49 ≠ ar_53 := Nat.ne_of_lt (Nat.lt_of_lt_of_le A49.lt gc53_ar)
    have frar_53 : n0 ≤ ar_53 := Nat.le_trans Z50 gc53_ar
    have Z55 : n0 ≤ T53.heap.size := Nat.le_trans Z50 Kc53.1
    have N53a := Fr.app N0 N53
    refine own_via st53 ?_
    show own_Go p e below (Q0 Z p1 p2 p3 p4 p5 p6 h0 n0) (own_Fr s room_1.cells room_1.slots) (T53.setTop (mkF m 17 #[.val (.int p1), .val (.int p2), .val (.int p3), .val (.int p4), .val (.int p5), .val (.int p6), .val (.int (2 : Int32)), .unset, .unset, .unset] [(.ref a49)]))
    refine own_astore (pc' := 19) X53 hx #[.val (.int p1), .val (.int p2), .val (.int p3), .val (.int p4), .val (.int p5), .val (.int p6), .val (.int (2 : Int32)), .val (.ref a49), .unset, .unset] rfl rfl (hb hby at_17) rfl ?_
    refine own_iload (pc' := 21) X53 hx rfl (hb hby at_19) rfl ?_
    refine own_ifNo (pc' := 24) X53 hx (by decide) (hb hby at_21) rfl ?_
    refine own_aload (pc' := 26) X53 hx rfl rfl (hb hby at_24) rfl ?_
    refine own_iloadN (pc' := 27) X53 hx rfl (hb hby at_26) rfl ?_
    obtain ⟨cq56, kq56, q56a, q56b, q56c⟩ := isOf hZ rfl Ec53_a1
    obtain ⟨_, _, ⟨T56, L56, k56, n56⟩, -, X56, ⟨Lc56, hQ56, l56, y56, z56⟩, st56⟩ := X53.virtualBack hx (y := (⟨"com/example/libpundit/libpundit/core/IntList", "add", "(I)V"⟩ : MethodName)) (z := (⟨"com/example/libpundit/libpundit/core/IntList", "add", "(I)V"⟩ : MethodName)) hown (mvT hZ (hw _ (List.mem_of_getElem? (i := 13) rfl))) (mvT hZ (hw _ (List.mem_of_getElem? (i := 14) rfl))) (notFace_of_selects (args := #[]) (mvT hZ (hw _ (List.mem_of_getElem? (i := 16) rfl)))) (mvT hZ (hw _ (List.mem_of_getElem? (i := 16) rfl))) (mvT hZ (hw _ (List.mem_of_getElem? (i := 15) rfl))) (by decide) (backOf (W := 0) (rma0 l Z a0 hw [] a49 p1 ar_53 kc_53 T53.heap n0 Z55 Ec53_a1 Ec53_ar Fc53_0 Fc53_1 Ac53_ar fr49 frar_53 n54) hZ (hw _ (List.mem_of_getElem? (i := 17) rfl)) (hw _ (List.mem_of_getElem? (i := 3) rfl)) (by decide) (by decide)) q56a q56c (g := (mkF m 27 #[.val (.int p1), .val (.int p2), .val (.int p3), .val (.int p4), .val (.int p5), .val (.int p6), .val (.int (2 : Int32)), .val (.ref a49), .unset, .unset] [(.int p1), (.ref a49)])) rfl (by rw [hml]; rfl) (Steps.refl _) (argsL := [(.int p1)]) (rest := []) (lenOf pd_3 rfl) rfl (by show 2 * 0 + _ ≤ _; exact Nat.le_of_eq rfl) (hb hby at_27) (fun _ _ => ⟨rfl, rfl, (by decide : 2 + 0 ≤ _), (by decide : 6 + 0 ≤ _)⟩)
    dsimp only [Pt.U, Pt.locs, Pt.cells, Pt.slots] at X56 l56 y56 z56 st56 hQ56
    subst l56 y56 z56
    obtain ⟨rfl, pp56, N56, Kc56, Ec56_a1, Ec56_ar, Fc56_0, Fc56_1, Ac56_ar⟩ := hQ56
    have Z57 : n0 ≤ T56.heap.size := Nat.le_trans Z55 Kc56.1
    have N56a := Fr.app N53a N56
    refine own_via st56 ?_
    show own_Go p e below (Q0 Z p1 p2 p3 p4 p5 p6 h0 n0) (own_Fr s room_1.cells room_1.slots) (T56.setTop (mkF m 30 #[.val (.int p1), .val (.int p2), .val (.int p3), .val (.int p4), .val (.int p5), .val (.int p6), .val (.int (2 : Int32)), .val (.ref a49), .unset, .unset] []))
    refine own_iload (pc' := 32) X56 hx rfl (hb hby at_30) rfl ?_
    refine own_iconst (pc' := 33) X56 hx (1 : Int32) (by decide) (hb hby at_32) rfl ?_
    refine own_icmpNo (pc' := 36) X56 hx (by decide) (hb hby at_33) rfl ?_
    refine own_aload (pc' := 38) X56 hx rfl rfl (hb hby at_36) rfl ?_
    refine own_iloadN (pc' := 39) X56 hx rfl (hb hby at_38) rfl ?_
    obtain ⟨cq58, kq58, q58a, q58b, q58c⟩ := isOf hZ rfl Ec56_a1
    obtain ⟨_, _, ⟨T58, L58, k58, n58⟩, -, X58, ⟨Lc58, hQ58, l58, y58, z58⟩, st58⟩ := X56.virtualBack hx (y := (⟨"com/example/libpundit/libpundit/core/IntList", "add", "(I)V"⟩ : MethodName)) (z := (⟨"com/example/libpundit/libpundit/core/IntList", "add", "(I)V"⟩ : MethodName)) hown (mvT hZ (hw _ (List.mem_of_getElem? (i := 13) rfl))) (mvT hZ (hw _ (List.mem_of_getElem? (i := 14) rfl))) (notFace_of_selects (args := #[]) (mvT hZ (hw _ (List.mem_of_getElem? (i := 16) rfl)))) (mvT hZ (hw _ (List.mem_of_getElem? (i := 16) rfl))) (mvT hZ (hw _ (List.mem_of_getElem? (i := 15) rfl))) (by decide) (backOf (W := 0) (rma1 l Z a0 hw [] a49 p2 ar_53 kc_53 p1 T56.heap n0 Z57 Ec56_a1 Ec56_ar Fc56_0 Fc56_1 Ac56_ar fr49 frar_53 n54) hZ (hw _ (List.mem_of_getElem? (i := 17) rfl)) (hw _ (List.mem_of_getElem? (i := 3) rfl)) (by decide) (by decide)) q58a q58c (g := (mkF m 39 #[.val (.int p1), .val (.int p2), .val (.int p3), .val (.int p4), .val (.int p5), .val (.int p6), .val (.int (2 : Int32)), .val (.ref a49), .unset, .unset] [(.int p2), (.ref a49)])) rfl (by rw [hml]; rfl) (Steps.refl _) (argsL := [(.int p2)]) (rest := []) (lenOf pd_3 rfl) rfl (by show 2 * 0 + _ ≤ _; exact Nat.le_of_eq rfl) (hb hby at_39) (fun _ _ => ⟨rfl, rfl, (by decide : 2 + 0 ≤ _), (by decide : 6 + 0 ≤ _)⟩)
    dsimp only [Pt.U, Pt.locs, Pt.cells, Pt.slots] at X58 l58 y58 z58 st58 hQ58
    subst l58 y58 z58
    obtain ⟨rfl, pp58, N58, Kc58, Ec58_a1, Ec58_ar, Fc58_0, Fc58_1, Ac58_ar⟩ := hQ58
    have Z59 : n0 ≤ T58.heap.size := Nat.le_trans Z57 Kc58.1
    have N58a := Fr.app N56a N58
    refine own_via st58 ?_
    show own_Go p e below (Q0 Z p1 p2 p3 p4 p5 p6 h0 n0) (own_Fr s room_1.cells room_1.slots) (T58.setTop (mkF m 42 #[.val (.int p1), .val (.int p2), .val (.int p3), .val (.int p4), .val (.int p5), .val (.int p6), .val (.int (2 : Int32)), .val (.ref a49), .unset, .unset] []))
    refine own_iload (pc' := 44) X58 hx rfl (hb hby at_42) rfl ?_
    refine own_iconst (pc' := 45) X58 hx (2 : Int32) (by decide) (hb hby at_44) rfl ?_
    refine own_icmpYes (pc' := 54) X58 hx (hb hby at_45) (by decide) (by decide) (by decide) ?_
    refine own_iload (pc' := 56) X58 hx rfl (hb hby at_54) rfl ?_
    refine own_iconst (pc' := 57) X58 hx (3 : Int32) (by decide) (hb hby at_56) rfl ?_
    refine own_icmpYes (pc' := 66) X58 hx (hb hby at_57) (by decide) (by decide) (by decide) ?_
    refine own_iload (pc' := 68) X58 hx rfl (hb hby at_66) rfl ?_
    refine own_iconst (pc' := 69) X58 hx (4 : Int32) (by decide) (hb hby at_68) rfl ?_
    refine own_icmpYes (pc' := 79) X58 hx (hb hby at_69) (by decide) (by decide) (by decide) ?_
    refine own_aload (pc' := 81) X58 hx rfl rfl (hb hby at_79) rfl ?_
    obtain ⟨cq60, kq60, q60a, q60b, q60c⟩ := isOf hZ rfl Ec58_a1
    obtain ⟨_, _, ⟨T60, L60, k60, n60⟩, -, X60, ⟨Lc60, hQ60, l60, y60, z60⟩, st60⟩ := X58.virtualBack hx (y := (⟨"com/example/libpundit/libpundit/core/IntList", "toArray", "()[I"⟩ : MethodName)) (z := (⟨"com/example/libpundit/libpundit/core/IntList", "toArray", "()[I"⟩ : MethodName)) hown (mvT hZ (hw _ (List.mem_of_getElem? (i := 20) rfl))) (mvT hZ (hw _ (List.mem_of_getElem? (i := 21) rfl))) (notFace_of_selects (args := #[]) (mvT hZ (hw _ (List.mem_of_getElem? (i := 23) rfl)))) (mvT hZ (hw _ (List.mem_of_getElem? (i := 23) rfl))) (mvT hZ (hw _ (List.mem_of_getElem? (i := 22) rfl))) (by decide) (backOf (W := 0) (rmt2 l Z a0 hw [] a49 ar_53 kc_53 p1 p2 T58.heap n0 Z59 Ec58_ar Fc58_0 Fc58_1 Ac58_ar) hZ (hw _ (List.mem_of_getElem? (i := 24) rfl)) (hw _ (List.mem_of_getElem? (i := 3) rfl)) (by decide) (by decide)) q60a q60c (g := (mkF m 81 #[.val (.int p1), .val (.int p2), .val (.int p3), .val (.int p4), .val (.int p5), .val (.int p6), .val (.int (2 : Int32)), .val (.ref a49), .unset, .unset] [(.ref a49)])) rfl (by rw [hml]; rfl) (Steps.refl _) (argsL := []) (rest := []) (lenOf pd_4 rfl) rfl (by show 2 * 0 + _ ≤ _; exact Nat.le_of_eq rfl) (hb hby at_81) (fun _ _ => ⟨rfl, rfl, (by decide : 2 + 1 ≤ _), (by decide : 6 + 2 ≤ _)⟩)
    dsimp only [Pt.U, Pt.locs, Pt.cells, Pt.slots] at X60 l60 y60 z60 st60 hQ60
    subst l60 y60 z60
    obtain ⟨q_60, kd_60, rfl, pp60, N60, Kc60, gc60_q, Ec60_q, Ac60_q⟩ := hQ60
    have n61 : a49 ≠ q_60 := Nat.ne_of_lt (Nat.lt_of_lt_of_le Ec58_a1.lt gc60_q)
    have n62 : ar_53 ≠ q_60 := Nat.ne_of_lt (Nat.lt_of_lt_of_le Ec58_ar.lt gc60_q)
    have frq_60 : n0 ≤ q_60 := Nat.le_trans Z59 gc60_q
    have F63 : Fld Z T60.heap a49 "com/example/libpundit/libpundit/core/IntList" "values" "[I" (.ref ar_53) := Fc58_0.keep Kc60 nin0
    have F64 : Fld Z T60.heap a49 "com/example/libpundit/libpundit/core/IntList" "size" "I" (.int (2 : Int32)) := Fc58_1.keep Kc60 nin0
    have E65 : Exa Z T60.heap a49 "com/example/libpundit/libpundit/core/IntList" := Ec58_a1.keep Kc60
    have E66 : Exa Z T60.heap ar_53 "[I" := Ec58_ar.keep Kc60
    have A67 : Arv Z T60.heap ar_53 kc_53 .int (4 : Int32) [(.int p1), (.int p2), (.int (0 : Int32)), (.int (0 : Int32))] (.int (0 : Int32)) := Ac58_ar.keep Kc60 nin0
    have Z68 : n0 ≤ T60.heap.size := Nat.le_trans Z59 Kc60.1
    have N60a := Fr.app N58a N60
    refine own_via st60 ?_
    show own_Go p e below (Q0 Z p1 p2 p3 p4 p5 p6 h0 n0) (own_Fr s room_1.cells room_1.slots) (T60.setTop (mkF m 84 #[.val (.int p1), .val (.int p2), .val (.int p3), .val (.int p4), .val (.int p5), .val (.int p6), .val (.int (2 : Int32)), .val (.ref a49), .unset, .unset] [(.ref q_60)]))
    refine own_astore (pc' := 86) X60 hx #[.val (.int p1), .val (.int p2), .val (.int p3), .val (.int p4), .val (.int p5), .val (.int p6), .val (.int (2 : Int32)), .val (.ref a49), .val (.ref q_60), .unset] rfl rfl (hb hby at_84) rfl ?_
    refine own_aload (pc' := 88) X60 hx rfl rfl (hb hby at_86) rfl ?_
    obtain ⟨cq69, kq69, q69a, q69b, q69c⟩ := isOf hZ rfl E65
    obtain ⟨_, _, ⟨T69, L69, k69, n69⟩, -, X69, ⟨Lc69, hQ69, l69, y69, z69⟩, st69⟩ := X60.virtualBack hx (y := (⟨"com/example/libpundit/libpundit/core/IntList", "size", "()I"⟩ : MethodName)) (z := (⟨"com/example/libpundit/libpundit/core/IntList", "size", "()I"⟩ : MethodName)) hown (mvT hZ (hw _ (List.mem_of_getElem? (i := 37) rfl))) (mvT hZ (hw _ (List.mem_of_getElem? (i := 38) rfl))) (notFace_of_selects (args := #[]) (mvT hZ (hw _ (List.mem_of_getElem? (i := 40) rfl)))) (mvT hZ (hw _ (List.mem_of_getElem? (i := 40) rfl))) (mvT hZ (hw _ (List.mem_of_getElem? (i := 39) rfl))) (by decide) (backOf (W := 0) (rmz2 l Z a0 hw [] a49 T60.heap n0 Z68 F64) hZ (hw _ (List.mem_of_getElem? (i := 41) rfl)) (hw _ (List.mem_of_getElem? (i := 3) rfl)) (by decide) (by decide)) q69a q69c (g := (mkF m 88 #[.val (.int p1), .val (.int p2), .val (.int p3), .val (.int p4), .val (.int p5), .val (.int p6), .val (.int (2 : Int32)), .val (.ref a49), .val (.ref q_60), .unset] [(.ref a49)])) rfl (by rw [hml]; rfl) (Steps.refl _) (argsL := []) (rest := []) (lenOf pd_5 rfl) rfl (by show 2 * 0 + _ ≤ _; exact Nat.le_of_eq rfl) (hb hby at_88) (fun _ _ => ⟨rfl, rfl, (by decide : 3 + 0 ≤ _), (by decide : 8 + 0 ≤ _)⟩)
    dsimp only [Pt.U, Pt.locs, Pt.cells, Pt.slots] at X69 l69 y69 z69 st69 hQ69
    subst l69 y69 z69
    obtain ⟨rfl, pp69, N69, e69⟩ := hQ69
    have N69a := Fr.app N60a N69
    refine own_via st69 ?_
    show own_Go p e below (Q0 Z p1 p2 p3 p4 p5 p6 h0 n0) (own_Fr s room_1.cells room_1.slots) (T69.setTop (mkF m 91 #[.val (.int p1), .val (.int p2), .val (.int p3), .val (.int p4), .val (.int p5), .val (.int p6), .val (.int (2 : Int32)), .val (.ref a49), .val (.ref q_60), .unset] [(.int (2 : Int32))]))
    refine own_iload (pc' := 93) X69 hx rfl (hb hby at_91) rfl ?_
    refine own_icmpYes (pc' := 98) X69 hx (hb hby at_93) (by decide) (by decide) (by decide) ?_
    refine own_aload (pc' := 100) X69 hx rfl rfl (hb hby at_98) rfl ?_
    obtain ⟨c70, B70, q70, s70, u70, H70, G70⟩ := id Ac60_q
    refine own_by (X69.arraylength hx (by rw [e69]; exact B70.1) (State.isArrayOf_alike hZ.alike B70.2.1) (g := (mkF m 100 #[.val (.int p1), .val (.int p2), .val (.int p3), .val (.int p4), .val (.int p5), .val (.int p6), .val (.int (2 : Int32)), .val (.ref a49), .val (.ref q_60), .unset] [(.ref q_60)])) rfl rfl (hb hby at_100)) ?_
    rw [len_of s70 u70]
    show own_Go p e below (Q0 Z p1 p2 p3 p4 p5 p6 h0 n0) (own_Fr s room_1.cells room_1.slots) (T69.setTop (mkF m 101 #[.val (.int p1), .val (.int p2), .val (.int p3), .val (.int p4), .val (.int p5), .val (.int p6), .val (.int (2 : Int32)), .val (.ref a49), .val (.ref q_60), .unset] [(.int (2 : Int32))]))
    refine own_iload (pc' := 103) X69 hx rfl (hb hby at_101) rfl ?_
    refine own_icmpYes (pc' := 108) X69 hx (hb hby at_103) (by decide) (by decide) (by decide) ?_
    refine own_iconst (pc' := 109) X69 hx (1 : Int32) (by decide) (hb hby at_108) rfl ?_
    refine own_istore (pc' := 111) X69 hx #[.val (.int p1), .val (.int p2), .val (.int p3), .val (.int p4), .val (.int p5), .val (.int p6), .val (.int (2 : Int32)), .val (.ref a49), .val (.ref q_60), .val (.int (1 : Int32))] rfl (hb hby at_109) rfl ?_
    refine own_iload (pc' := 113) X69 hx rfl (hb hby at_111) rfl ?_
    refine own_ifNo (pc' := 116) X69 hx (by decide) (hb hby at_113) rfl ?_
    refine own_iload (pc' := 118) X69 hx rfl (hb hby at_116) rfl ?_
    refine own_ifNo (pc' := 121) X69 hx (by decide) (hb hby at_118) rfl ?_
    refine own_aload (pc' := 123) X69 hx rfl rfl (hb hby at_121) rfl ?_
    refine own_iconst (pc' := 124) X69 hx (0 : Int32) (by decide) (hb hby at_123) rfl ?_
    obtain ⟨c71, B71, q71, s71, u71, H71, G71⟩ := id Ac60_q
    have i71 := inb_of s71 (j := (0 : Int32)) (by decide)
    refine own_by (X69.iaload hx (j := (0 : Int32)) (v := (.int p1)) (by rw [e69]; exact B71.1) (State.isArrayOf_alike hZ.alike B71.2.1) B71.2.2 i71 (H71.at i71 rfl) (g := (mkF m 124 #[.val (.int p1), .val (.int p2), .val (.int p3), .val (.int p4), .val (.int p5), .val (.int p6), .val (.int (2 : Int32)), .val (.ref a49), .val (.ref q_60), .val (.int (1 : Int32))] [(.int (0 : Int32)), (.ref q_60)])) rfl rfl (hb hby at_124)) ?_
    show own_Go p e below (Q0 Z p1 p2 p3 p4 p5 p6 h0 n0) (own_Fr s room_1.cells room_1.slots) (T69.setTop (mkF m 125 #[.val (.int p1), .val (.int p2), .val (.int p3), .val (.int p4), .val (.int p5), .val (.int p6), .val (.int (2 : Int32)), .val (.ref a49), .val (.ref q_60), .val (.int (1 : Int32))] [(.int p1)]))
    refine own_iloadN (pc' := 126) X69 hx rfl (hb hby at_125) rfl ?_
    have b72 : p1.toInt = p1.toInt := by omega
    refine own_icmpNo (pc' := 129) X69 hx (own_no_ne rfl rfl b72) (hb hby at_126) rfl ?_
    refine own_iconst (pc' := 130) X69 hx (1 : Int32) (by decide) (hb hby at_129) rfl ?_
    refine own_goto (pc' := 134) X69 hx (hb hby at_130) (by decide) (by decide) ?_
    refine own_istore (pc' := 136) X69 hx #[.val (.int p1), .val (.int p2), .val (.int p3), .val (.int p4), .val (.int p5), .val (.int p6), .val (.int (2 : Int32)), .val (.ref a49), .val (.ref q_60), .val (.int (1 : Int32))] rfl (hb hby at_134) rfl ?_
    refine own_iload (pc' := 138) X69 hx rfl (hb hby at_136) rfl ?_
    refine own_iconst (pc' := 139) X69 hx (1 : Int32) (by decide) (hb hby at_138) rfl ?_
    refine own_icmpNo (pc' := 142) X69 hx (by decide) (hb hby at_139) rfl ?_
    refine own_iload (pc' := 144) X69 hx rfl (hb hby at_142) rfl ?_
    refine own_ifNo (pc' := 147) X69 hx (by decide) (hb hby at_144) rfl ?_
    refine own_aload (pc' := 149) X69 hx rfl rfl (hb hby at_147) rfl ?_
    refine own_iconst (pc' := 150) X69 hx (1 : Int32) (by decide) (hb hby at_149) rfl ?_
    obtain ⟨c73, B73, q73, s73, u73, H73, G73⟩ := id Ac60_q
    have i73 := inb_of s73 (j := (1 : Int32)) (by decide)
    refine own_by (X69.iaload hx (j := (1 : Int32)) (v := (.int p2)) (by rw [e69]; exact B73.1) (State.isArrayOf_alike hZ.alike B73.2.1) B73.2.2 i73 (H73.at i73 rfl) (g := (mkF m 150 #[.val (.int p1), .val (.int p2), .val (.int p3), .val (.int p4), .val (.int p5), .val (.int p6), .val (.int (2 : Int32)), .val (.ref a49), .val (.ref q_60), .val (.int (1 : Int32))] [(.int (1 : Int32)), (.ref q_60)])) rfl rfl (hb hby at_150)) ?_
    show own_Go p e below (Q0 Z p1 p2 p3 p4 p5 p6 h0 n0) (own_Fr s room_1.cells room_1.slots) (T69.setTop (mkF m 151 #[.val (.int p1), .val (.int p2), .val (.int p3), .val (.int p4), .val (.int p5), .val (.int p6), .val (.int (2 : Int32)), .val (.ref a49), .val (.ref q_60), .val (.int (1 : Int32))] [(.int p2)]))
    refine own_iloadN (pc' := 152) X69 hx rfl (hb hby at_151) rfl ?_
    have b74 : p2.toInt = p2.toInt := by omega
    refine own_icmpNo (pc' := 155) X69 hx (own_no_ne rfl rfl b74) (hb hby at_152) rfl ?_
    refine own_iconst (pc' := 156) X69 hx (1 : Int32) (by decide) (hb hby at_155) rfl ?_
    refine own_goto (pc' := 160) X69 hx (hb hby at_156) (by decide) (by decide) ?_
    refine own_istore (pc' := 162) X69 hx #[.val (.int p1), .val (.int p2), .val (.int p3), .val (.int p4), .val (.int p5), .val (.int p6), .val (.int (2 : Int32)), .val (.ref a49), .val (.ref q_60), .val (.int (1 : Int32))] rfl (hb hby at_160) rfl ?_
    refine own_iload (pc' := 164) X69 hx rfl (hb hby at_162) rfl ?_
    refine own_iconst (pc' := 165) X69 hx (2 : Int32) (by decide) (hb hby at_164) rfl ?_
    refine own_icmpYes (pc' := 188) X69 hx (hb hby at_165) (by decide) (by decide) (by decide) ?_
    refine own_iload (pc' := 190) X69 hx rfl (hb hby at_188) rfl ?_
    refine own_iconst (pc' := 191) X69 hx (3 : Int32) (by decide) (hb hby at_190) rfl ?_
    refine own_icmpYes (pc' := 214) X69 hx (hb hby at_191) (by decide) (by decide) (by decide) ?_
    refine own_iload (pc' := 216) X69 hx rfl (hb hby at_214) rfl ?_
    refine own_iconst (pc' := 217) X69 hx (4 : Int32) (by decide) (hb hby at_216) rfl ?_
    refine own_icmpYes (pc' := 241) X69 hx (hb hby at_217) (by decide) (by decide) (by decide) ?_
    refine own_iload (pc' := 243) X69 hx rfl (hb hby at_241) rfl ?_
    refine own_ret X69 hx Bd.returns Bd.notSynchronized (Or.inl ⟨rfl, by simp, _, rfl⟩) (hb hby at_243) rfl (by decide) (by decide) ?_
    show Q0 Z p1 p2 p3 p4 p5 p6 h0 n0 _ T69.heap _
    rw [e69]
    exact ⟨rfl, N69a⟩
  · obtain rfl : v3 = (3 : Int32) := Int32.toInt_inj.mp b5
    have kz75 : (3 : Int32).toInt = 3 := by decide
    obtain ⟨T76, h76, X76, e76, E76, A76, D76, -, st76⟩ := newO X0 hx hZ hown (hw _ (List.mem_of_getElem? (i := 1) rfl)) (hw _ (List.mem_of_getElem? (i := 2) rfl)) (hw _ (List.mem_of_getElem? (i := 3) rfl)) e0 (g := (mkF m 10 #[.val (.int p1), .val (.int p2), .val (.int p3), .val (.int p4), .val (.int p5), .val (.int p6), .val (.int (3 : Int32)), .unset, .unset, .unset] [])) rfl (hb hby at_10) (by decide) (by decide)
    obtain ⟨a76, ga76⟩ : ∃ z, z = h0.size := ⟨_, rfl⟩
    rw [← ga76] at A76 D76 st76
    have fr76 : n0 ≤ a76 := Nat.le_trans Z0 (Nat.le_of_eq ga76.symm)
    have Z77 : n0 ≤ h76.size := Nat.le_trans Z0 E76.1
    have F78 : Fld Z h76 a76 "com/example/libpundit/libpundit/core/IntList" "values" "[I" .null := D76 (Or.inl (hw _ (List.mem_of_getElem? (i := 12) rfl))) (ty := (.array .int)) (by decide)
    have F79 : Fld Z h76 a76 "com/example/libpundit/libpundit/core/IntList" "size" "I" (.int (0 : Int32)) := D76 (Or.inl (hw _ (List.mem_of_getElem? (i := 19) rfl))) (ty := .int) (by decide)
    refine own_by st76 ?_
    show own_Go p e below (Q0 Z p1 p2 p3 p4 p5 p6 h0 n0) (own_Fr s room_1.cells room_1.slots) (T76.setTop (mkF m 13 #[.val (.int p1), .val (.int p2), .val (.int p3), .val (.int p4), .val (.int p5), .val (.int p6), .val (.int (3 : Int32)), .unset, .unset, .unset] [(.ref a76)]))
    refine own_dup (pc' := 14) X76 hx rfl (hb hby at_13) rfl ?_
    obtain ⟨_, _, ⟨T80, L80, k80, n80⟩, -, X80, ⟨Lc80, hQ80, l80, y80, z80⟩, st80⟩ := X76.specialBack hx (y := (⟨"com/example/libpundit/libpundit/core/IntList", "<init>", "()V"⟩ : MethodName)) rfl hown (mvT hZ (hw _ (List.mem_of_getElem? (i := 4) rfl))) (mvT hZ (hw _ (List.mem_of_getElem? (i := 5) rfl))) (mvT hZ (hw _ (List.mem_of_getElem? (i := 6) rfl))) (by decide) (backOf (W := 1) (rmi l Z a0 hw [] a76 h76 n0 Z77 A76 F78 F79 fr76) hZ (hw _ (List.mem_of_getElem? (i := 6) rfl)) (hw _ (List.mem_of_getElem? (i := 3) rfl)) (by decide) (by decide)) (g := (mkF m 14 #[.val (.int p1), .val (.int p2), .val (.int p3), .val (.int p4), .val (.int p5), .val (.int p6), .val (.int (3 : Int32)), .unset, .unset, .unset] [(.ref a76), (.ref a76)])) rfl (by rw [hml]; rfl) (Steps.refl _) (a := a76) (argsL := []) (rest := [(.ref a76)]) (lenOf pd_2 rfl) rfl (by show 2 * 0 + _ ≤ _; exact Nat.le_of_eq rfl) (hb hby at_14) (fun _ _ => ⟨rfl, e76, (by decide : 1 + 1 ≤ _), (by decide : 2 + 4 ≤ _)⟩)
    dsimp only [Pt.U, Pt.locs, Pt.cells, Pt.slots] at X80 l80 y80 z80 st80 hQ80
    subst l80 y80 z80
    obtain ⟨ar_80, kc_80, rfl, pp80, N80, Kc80, gc80_ar, Ec80_a1, Ec80_ar, Fc80_0, Fc80_1, Ac80_ar⟩ := hQ80
    have n81 : a76 ≠ ar_80 := Nat.ne_of_lt (Nat.lt_of_lt_of_le A76.lt gc80_ar)
    have frar_80 : n0 ≤ ar_80 := Nat.le_trans Z77 gc80_ar
    have Z82 : n0 ≤ T80.heap.size := Nat.le_trans Z77 Kc80.1
    have N80a := Fr.app N0 N80
    refine own_via st80 ?_
    show own_Go p e below (Q0 Z p1 p2 p3 p4 p5 p6 h0 n0) (own_Fr s room_1.cells room_1.slots) (T80.setTop (mkF m 17 #[.val (.int p1), .val (.int p2), .val (.int p3), .val (.int p4), .val (.int p5), .val (.int p6), .val (.int (3 : Int32)), .unset, .unset, .unset] [(.ref a76)]))
    refine own_astore (pc' := 19) X80 hx #[.val (.int p1), .val (.int p2), .val (.int p3), .val (.int p4), .val (.int p5), .val (.int p6), .val (.int (3 : Int32)), .val (.ref a76), .unset, .unset] rfl rfl (hb hby at_17) rfl ?_
    refine own_iload (pc' := 21) X80 hx rfl (hb hby at_19) rfl ?_
    refine own_ifNo (pc' := 24) X80 hx (by decide) (hb hby at_21) rfl ?_
    refine own_aload (pc' := 26) X80 hx rfl rfl (hb hby at_24) rfl ?_
    refine own_iloadN (pc' := 27) X80 hx rfl (hb hby at_26) rfl ?_
    obtain ⟨cq83, kq83, q83a, q83b, q83c⟩ := isOf hZ rfl Ec80_a1
    obtain ⟨_, _, ⟨T83, L83, k83, n83⟩, -, X83, ⟨Lc83, hQ83, l83, y83, z83⟩, st83⟩ := X80.virtualBack hx (y := (⟨"com/example/libpundit/libpundit/core/IntList", "add", "(I)V"⟩ : MethodName)) (z := (⟨"com/example/libpundit/libpundit/core/IntList", "add", "(I)V"⟩ : MethodName)) hown (mvT hZ (hw _ (List.mem_of_getElem? (i := 13) rfl))) (mvT hZ (hw _ (List.mem_of_getElem? (i := 14) rfl))) (notFace_of_selects (args := #[]) (mvT hZ (hw _ (List.mem_of_getElem? (i := 16) rfl)))) (mvT hZ (hw _ (List.mem_of_getElem? (i := 16) rfl))) (mvT hZ (hw _ (List.mem_of_getElem? (i := 15) rfl))) (by decide) (backOf (W := 0) (rma0 l Z a0 hw [] a76 p1 ar_80 kc_80 T80.heap n0 Z82 Ec80_a1 Ec80_ar Fc80_0 Fc80_1 Ac80_ar fr76 frar_80 n81) hZ (hw _ (List.mem_of_getElem? (i := 17) rfl)) (hw _ (List.mem_of_getElem? (i := 3) rfl)) (by decide) (by decide)) q83a q83c (g := (mkF m 27 #[.val (.int p1), .val (.int p2), .val (.int p3), .val (.int p4), .val (.int p5), .val (.int p6), .val (.int (3 : Int32)), .val (.ref a76), .unset, .unset] [(.int p1), (.ref a76)])) rfl (by rw [hml]; rfl) (Steps.refl _) (argsL := [(.int p1)]) (rest := []) (lenOf pd_3 rfl) rfl (by show 2 * 0 + _ ≤ _; exact Nat.le_of_eq rfl) (hb hby at_27) (fun _ _ => ⟨rfl, rfl, (by decide : 2 + 0 ≤ _), (by decide : 6 + 0 ≤ _)⟩)
    dsimp only [Pt.U, Pt.locs, Pt.cells, Pt.slots] at X83 l83 y83 z83 st83 hQ83
    subst l83 y83 z83
    obtain ⟨rfl, pp83, N83, Kc83, Ec83_a1, Ec83_ar, Fc83_0, Fc83_1, Ac83_ar⟩ := hQ83
    have Z84 : n0 ≤ T83.heap.size := Nat.le_trans Z82 Kc83.1
    have N83a := Fr.app N80a N83
    refine own_via st83 ?_
    show own_Go p e below (Q0 Z p1 p2 p3 p4 p5 p6 h0 n0) (own_Fr s room_1.cells room_1.slots) (T83.setTop (mkF m 30 #[.val (.int p1), .val (.int p2), .val (.int p3), .val (.int p4), .val (.int p5), .val (.int p6), .val (.int (3 : Int32)), .val (.ref a76), .unset, .unset] []))
    refine own_iload (pc' := 32) X83 hx rfl (hb hby at_30) rfl ?_
    refine own_iconst (pc' := 33) X83 hx (1 : Int32) (by decide) (hb hby at_32) rfl ?_
    refine own_icmpNo (pc' := 36) X83 hx (by decide) (hb hby at_33) rfl ?_
    refine own_aload (pc' := 38) X83 hx rfl rfl (hb hby at_36) rfl ?_
    refine own_iloadN (pc' := 39) X83 hx rfl (hb hby at_38) rfl ?_
    obtain ⟨cq85, kq85, q85a, q85b, q85c⟩ := isOf hZ rfl Ec83_a1
    obtain ⟨_, _, ⟨T85, L85, k85, n85⟩, -, X85, ⟨Lc85, hQ85, l85, y85, z85⟩, st85⟩ := X83.virtualBack hx (y := (⟨"com/example/libpundit/libpundit/core/IntList", "add", "(I)V"⟩ : MethodName)) (z := (⟨"com/example/libpundit/libpundit/core/IntList", "add", "(I)V"⟩ : MethodName)) hown (mvT hZ (hw _ (List.mem_of_getElem? (i := 13) rfl))) (mvT hZ (hw _ (List.mem_of_getElem? (i := 14) rfl))) (notFace_of_selects (args := #[]) (mvT hZ (hw _ (List.mem_of_getElem? (i := 16) rfl)))) (mvT hZ (hw _ (List.mem_of_getElem? (i := 16) rfl))) (mvT hZ (hw _ (List.mem_of_getElem? (i := 15) rfl))) (by decide) (backOf (W := 0) (rma1 l Z a0 hw [] a76 p2 ar_80 kc_80 p1 T83.heap n0 Z84 Ec83_a1 Ec83_ar Fc83_0 Fc83_1 Ac83_ar fr76 frar_80 n81) hZ (hw _ (List.mem_of_getElem? (i := 17) rfl)) (hw _ (List.mem_of_getElem? (i := 3) rfl)) (by decide) (by decide)) q85a q85c (g := (mkF m 39 #[.val (.int p1), .val (.int p2), .val (.int p3), .val (.int p4), .val (.int p5), .val (.int p6), .val (.int (3 : Int32)), .val (.ref a76), .unset, .unset] [(.int p2), (.ref a76)])) rfl (by rw [hml]; rfl) (Steps.refl _) (argsL := [(.int p2)]) (rest := []) (lenOf pd_3 rfl) rfl (by show 2 * 0 + _ ≤ _; exact Nat.le_of_eq rfl) (hb hby at_39) (fun _ _ => ⟨rfl, rfl, (by decide : 2 + 0 ≤ _), (by decide : 6 + 0 ≤ _)⟩)
    dsimp only [Pt.U, Pt.locs, Pt.cells, Pt.slots] at X85 l85 y85 z85 st85 hQ85
    subst l85 y85 z85
    obtain ⟨rfl, pp85, N85, Kc85, Ec85_a1, Ec85_ar, Fc85_0, Fc85_1, Ac85_ar⟩ := hQ85
    have Z86 : n0 ≤ T85.heap.size := Nat.le_trans Z84 Kc85.1
    have N85a := Fr.app N83a N85
    refine own_via st85 ?_
    show own_Go p e below (Q0 Z p1 p2 p3 p4 p5 p6 h0 n0) (own_Fr s room_1.cells room_1.slots) (T85.setTop (mkF m 42 #[.val (.int p1), .val (.int p2), .val (.int p3), .val (.int p4), .val (.int p5), .val (.int p6), .val (.int (3 : Int32)), .val (.ref a76), .unset, .unset] []))
    refine own_iload (pc' := 44) X85 hx rfl (hb hby at_42) rfl ?_
    refine own_iconst (pc' := 45) X85 hx (2 : Int32) (by decide) (hb hby at_44) rfl ?_
    refine own_icmpNo (pc' := 48) X85 hx (by decide) (hb hby at_45) rfl ?_
    refine own_aload (pc' := 50) X85 hx rfl rfl (hb hby at_48) rfl ?_
    refine own_iloadN (pc' := 51) X85 hx rfl (hb hby at_50) rfl ?_
    obtain ⟨cq87, kq87, q87a, q87b, q87c⟩ := isOf hZ rfl Ec85_a1
    obtain ⟨_, _, ⟨T87, L87, k87, n87⟩, -, X87, ⟨Lc87, hQ87, l87, y87, z87⟩, st87⟩ := X85.virtualBack hx (y := (⟨"com/example/libpundit/libpundit/core/IntList", "add", "(I)V"⟩ : MethodName)) (z := (⟨"com/example/libpundit/libpundit/core/IntList", "add", "(I)V"⟩ : MethodName)) hown (mvT hZ (hw _ (List.mem_of_getElem? (i := 13) rfl))) (mvT hZ (hw _ (List.mem_of_getElem? (i := 14) rfl))) (notFace_of_selects (args := #[]) (mvT hZ (hw _ (List.mem_of_getElem? (i := 16) rfl)))) (mvT hZ (hw _ (List.mem_of_getElem? (i := 16) rfl))) (mvT hZ (hw _ (List.mem_of_getElem? (i := 15) rfl))) (by decide) (backOf (W := 0) (rma2 l Z a0 hw [] a76 p3 ar_80 kc_80 p1 p2 T85.heap n0 Z86 Ec85_a1 Ec85_ar Fc85_0 Fc85_1 Ac85_ar fr76 frar_80 n81) hZ (hw _ (List.mem_of_getElem? (i := 17) rfl)) (hw _ (List.mem_of_getElem? (i := 3) rfl)) (by decide) (by decide)) q87a q87c (g := (mkF m 51 #[.val (.int p1), .val (.int p2), .val (.int p3), .val (.int p4), .val (.int p5), .val (.int p6), .val (.int (3 : Int32)), .val (.ref a76), .unset, .unset] [(.int p3), (.ref a76)])) rfl (by rw [hml]; rfl) (Steps.refl _) (argsL := [(.int p3)]) (rest := []) (lenOf pd_3 rfl) rfl (by show 2 * 0 + _ ≤ _; exact Nat.le_of_eq rfl) (hb hby at_51) (fun _ _ => ⟨rfl, rfl, (by decide : 2 + 0 ≤ _), (by decide : 6 + 0 ≤ _)⟩)
    dsimp only [Pt.U, Pt.locs, Pt.cells, Pt.slots] at X87 l87 y87 z87 st87 hQ87
    subst l87 y87 z87
    obtain ⟨rfl, pp87, N87, Kc87, Ec87_a1, Ec87_ar, Fc87_0, Fc87_1, Ac87_ar⟩ := hQ87
    have Z88 : n0 ≤ T87.heap.size := Nat.le_trans Z86 Kc87.1
    have N87a := Fr.app N85a N87
    refine own_via st87 ?_
    show own_Go p e below (Q0 Z p1 p2 p3 p4 p5 p6 h0 n0) (own_Fr s room_1.cells room_1.slots) (T87.setTop (mkF m 54 #[.val (.int p1), .val (.int p2), .val (.int p3), .val (.int p4), .val (.int p5), .val (.int p6), .val (.int (3 : Int32)), .val (.ref a76), .unset, .unset] []))
    refine own_iload (pc' := 56) X87 hx rfl (hb hby at_54) rfl ?_
    refine own_iconst (pc' := 57) X87 hx (3 : Int32) (by decide) (hb hby at_56) rfl ?_
    refine own_icmpYes (pc' := 66) X87 hx (hb hby at_57) (by decide) (by decide) (by decide) ?_
    refine own_iload (pc' := 68) X87 hx rfl (hb hby at_66) rfl ?_
    refine own_iconst (pc' := 69) X87 hx (4 : Int32) (by decide) (hb hby at_68) rfl ?_
    refine own_icmpYes (pc' := 79) X87 hx (hb hby at_69) (by decide) (by decide) (by decide) ?_
    refine own_aload (pc' := 81) X87 hx rfl rfl (hb hby at_79) rfl ?_
    obtain ⟨cq89, kq89, q89a, q89b, q89c⟩ := isOf hZ rfl Ec87_a1
    obtain ⟨_, _, ⟨T89, L89, k89, n89⟩, -, X89, ⟨Lc89, hQ89, l89, y89, z89⟩, st89⟩ := X87.virtualBack hx (y := (⟨"com/example/libpundit/libpundit/core/IntList", "toArray", "()[I"⟩ : MethodName)) (z := (⟨"com/example/libpundit/libpundit/core/IntList", "toArray", "()[I"⟩ : MethodName)) hown (mvT hZ (hw _ (List.mem_of_getElem? (i := 20) rfl))) (mvT hZ (hw _ (List.mem_of_getElem? (i := 21) rfl))) (notFace_of_selects (args := #[]) (mvT hZ (hw _ (List.mem_of_getElem? (i := 23) rfl)))) (mvT hZ (hw _ (List.mem_of_getElem? (i := 23) rfl))) (mvT hZ (hw _ (List.mem_of_getElem? (i := 22) rfl))) (by decide) (backOf (W := 0) (rmt3 l Z a0 hw [] a76 ar_80 kc_80 p1 p2 p3 T87.heap n0 Z88 Ec87_ar Fc87_0 Fc87_1 Ac87_ar) hZ (hw _ (List.mem_of_getElem? (i := 24) rfl)) (hw _ (List.mem_of_getElem? (i := 3) rfl)) (by decide) (by decide)) q89a q89c (g := (mkF m 81 #[.val (.int p1), .val (.int p2), .val (.int p3), .val (.int p4), .val (.int p5), .val (.int p6), .val (.int (3 : Int32)), .val (.ref a76), .unset, .unset] [(.ref a76)])) rfl (by rw [hml]; rfl) (Steps.refl _) (argsL := []) (rest := []) (lenOf pd_4 rfl) rfl (by show 2 * 0 + _ ≤ _; exact Nat.le_of_eq rfl) (hb hby at_81) (fun _ _ => ⟨rfl, rfl, (by decide : 2 + 1 ≤ _), (by decide : 6 + 3 ≤ _)⟩)
    dsimp only [Pt.U, Pt.locs, Pt.cells, Pt.slots] at X89 l89 y89 z89 st89 hQ89
    subst l89 y89 z89
    obtain ⟨q_89, kd_89, rfl, pp89, N89, Kc89, gc89_q, Ec89_q, Ac89_q⟩ := hQ89
    have n90 : a76 ≠ q_89 := Nat.ne_of_lt (Nat.lt_of_lt_of_le Ec87_a1.lt gc89_q)
    have n91 : ar_80 ≠ q_89 := Nat.ne_of_lt (Nat.lt_of_lt_of_le Ec87_ar.lt gc89_q)
    have frq_89 : n0 ≤ q_89 := Nat.le_trans Z88 gc89_q
    have F92 : Fld Z T89.heap a76 "com/example/libpundit/libpundit/core/IntList" "values" "[I" (.ref ar_80) := Fc87_0.keep Kc89 nin0
    have F93 : Fld Z T89.heap a76 "com/example/libpundit/libpundit/core/IntList" "size" "I" (.int (3 : Int32)) := Fc87_1.keep Kc89 nin0
    have E94 : Exa Z T89.heap a76 "com/example/libpundit/libpundit/core/IntList" := Ec87_a1.keep Kc89
    have E95 : Exa Z T89.heap ar_80 "[I" := Ec87_ar.keep Kc89
    have A96 : Arv Z T89.heap ar_80 kc_80 .int (4 : Int32) [(.int p1), (.int p2), (.int p3), (.int (0 : Int32))] (.int (0 : Int32)) := Ac87_ar.keep Kc89 nin0
    have Z97 : n0 ≤ T89.heap.size := Nat.le_trans Z88 Kc89.1
    have N89a := Fr.app N87a N89
    refine own_via st89 ?_
    show own_Go p e below (Q0 Z p1 p2 p3 p4 p5 p6 h0 n0) (own_Fr s room_1.cells room_1.slots) (T89.setTop (mkF m 84 #[.val (.int p1), .val (.int p2), .val (.int p3), .val (.int p4), .val (.int p5), .val (.int p6), .val (.int (3 : Int32)), .val (.ref a76), .unset, .unset] [(.ref q_89)]))
    refine own_astore (pc' := 86) X89 hx #[.val (.int p1), .val (.int p2), .val (.int p3), .val (.int p4), .val (.int p5), .val (.int p6), .val (.int (3 : Int32)), .val (.ref a76), .val (.ref q_89), .unset] rfl rfl (hb hby at_84) rfl ?_
    refine own_aload (pc' := 88) X89 hx rfl rfl (hb hby at_86) rfl ?_
    obtain ⟨cq98, kq98, q98a, q98b, q98c⟩ := isOf hZ rfl E94
    obtain ⟨_, _, ⟨T98, L98, k98, n98⟩, -, X98, ⟨Lc98, hQ98, l98, y98, z98⟩, st98⟩ := X89.virtualBack hx (y := (⟨"com/example/libpundit/libpundit/core/IntList", "size", "()I"⟩ : MethodName)) (z := (⟨"com/example/libpundit/libpundit/core/IntList", "size", "()I"⟩ : MethodName)) hown (mvT hZ (hw _ (List.mem_of_getElem? (i := 37) rfl))) (mvT hZ (hw _ (List.mem_of_getElem? (i := 38) rfl))) (notFace_of_selects (args := #[]) (mvT hZ (hw _ (List.mem_of_getElem? (i := 40) rfl)))) (mvT hZ (hw _ (List.mem_of_getElem? (i := 40) rfl))) (mvT hZ (hw _ (List.mem_of_getElem? (i := 39) rfl))) (by decide) (backOf (W := 0) (rmz3 l Z a0 hw [] a76 T89.heap n0 Z97 F93) hZ (hw _ (List.mem_of_getElem? (i := 41) rfl)) (hw _ (List.mem_of_getElem? (i := 3) rfl)) (by decide) (by decide)) q98a q98c (g := (mkF m 88 #[.val (.int p1), .val (.int p2), .val (.int p3), .val (.int p4), .val (.int p5), .val (.int p6), .val (.int (3 : Int32)), .val (.ref a76), .val (.ref q_89), .unset] [(.ref a76)])) rfl (by rw [hml]; rfl) (Steps.refl _) (argsL := []) (rest := []) (lenOf pd_5 rfl) rfl (by show 2 * 0 + _ ≤ _; exact Nat.le_of_eq rfl) (hb hby at_88) (fun _ _ => ⟨rfl, rfl, (by decide : 3 + 0 ≤ _), (by decide : 9 + 0 ≤ _)⟩)
    dsimp only [Pt.U, Pt.locs, Pt.cells, Pt.slots] at X98 l98 y98 z98 st98 hQ98
    subst l98 y98 z98
    obtain ⟨rfl, pp98, N98, e98⟩ := hQ98
    have N98a := Fr.app N89a N98
    refine own_via st98 ?_
    show own_Go p e below (Q0 Z p1 p2 p3 p4 p5 p6 h0 n0) (own_Fr s room_1.cells room_1.slots) (T98.setTop (mkF m 91 #[.val (.int p1), .val (.int p2), .val (.int p3), .val (.int p4), .val (.int p5), .val (.int p6), .val (.int (3 : Int32)), .val (.ref a76), .val (.ref q_89), .unset] [(.int (3 : Int32))]))
    refine own_iload (pc' := 93) X98 hx rfl (hb hby at_91) rfl ?_
    refine own_icmpYes (pc' := 98) X98 hx (hb hby at_93) (by decide) (by decide) (by decide) ?_
    refine own_aload (pc' := 100) X98 hx rfl rfl (hb hby at_98) rfl ?_
    obtain ⟨c99, B99, q99, s99, u99, H99, G99⟩ := id Ac89_q
    refine own_by (X98.arraylength hx (by rw [e98]; exact B99.1) (State.isArrayOf_alike hZ.alike B99.2.1) (g := (mkF m 100 #[.val (.int p1), .val (.int p2), .val (.int p3), .val (.int p4), .val (.int p5), .val (.int p6), .val (.int (3 : Int32)), .val (.ref a76), .val (.ref q_89), .unset] [(.ref q_89)])) rfl rfl (hb hby at_100)) ?_
    rw [len_of s99 u99]
    show own_Go p e below (Q0 Z p1 p2 p3 p4 p5 p6 h0 n0) (own_Fr s room_1.cells room_1.slots) (T98.setTop (mkF m 101 #[.val (.int p1), .val (.int p2), .val (.int p3), .val (.int p4), .val (.int p5), .val (.int p6), .val (.int (3 : Int32)), .val (.ref a76), .val (.ref q_89), .unset] [(.int (3 : Int32))]))
    refine own_iload (pc' := 103) X98 hx rfl (hb hby at_101) rfl ?_
    refine own_icmpYes (pc' := 108) X98 hx (hb hby at_103) (by decide) (by decide) (by decide) ?_
    refine own_iconst (pc' := 109) X98 hx (1 : Int32) (by decide) (hb hby at_108) rfl ?_
    refine own_istore (pc' := 111) X98 hx #[.val (.int p1), .val (.int p2), .val (.int p3), .val (.int p4), .val (.int p5), .val (.int p6), .val (.int (3 : Int32)), .val (.ref a76), .val (.ref q_89), .val (.int (1 : Int32))] rfl (hb hby at_109) rfl ?_
    refine own_iload (pc' := 113) X98 hx rfl (hb hby at_111) rfl ?_
    refine own_ifNo (pc' := 116) X98 hx (by decide) (hb hby at_113) rfl ?_
    refine own_iload (pc' := 118) X98 hx rfl (hb hby at_116) rfl ?_
    refine own_ifNo (pc' := 121) X98 hx (by decide) (hb hby at_118) rfl ?_
    refine own_aload (pc' := 123) X98 hx rfl rfl (hb hby at_121) rfl ?_
    refine own_iconst (pc' := 124) X98 hx (0 : Int32) (by decide) (hb hby at_123) rfl ?_
    obtain ⟨c100, B100, q100, s100, u100, H100, G100⟩ := id Ac89_q
    have i100 := inb_of s100 (j := (0 : Int32)) (by decide)
    refine own_by (X98.iaload hx (j := (0 : Int32)) (v := (.int p1)) (by rw [e98]; exact B100.1) (State.isArrayOf_alike hZ.alike B100.2.1) B100.2.2 i100 (H100.at i100 rfl) (g := (mkF m 124 #[.val (.int p1), .val (.int p2), .val (.int p3), .val (.int p4), .val (.int p5), .val (.int p6), .val (.int (3 : Int32)), .val (.ref a76), .val (.ref q_89), .val (.int (1 : Int32))] [(.int (0 : Int32)), (.ref q_89)])) rfl rfl (hb hby at_124)) ?_
    show own_Go p e below (Q0 Z p1 p2 p3 p4 p5 p6 h0 n0) (own_Fr s room_1.cells room_1.slots) (T98.setTop (mkF m 125 #[.val (.int p1), .val (.int p2), .val (.int p3), .val (.int p4), .val (.int p5), .val (.int p6), .val (.int (3 : Int32)), .val (.ref a76), .val (.ref q_89), .val (.int (1 : Int32))] [(.int p1)]))
    refine own_iloadN (pc' := 126) X98 hx rfl (hb hby at_125) rfl ?_
    have b101 : p1.toInt = p1.toInt := by omega
    refine own_icmpNo (pc' := 129) X98 hx (own_no_ne rfl rfl b101) (hb hby at_126) rfl ?_
    refine own_iconst (pc' := 130) X98 hx (1 : Int32) (by decide) (hb hby at_129) rfl ?_
    refine own_goto (pc' := 134) X98 hx (hb hby at_130) (by decide) (by decide) ?_
    refine own_istore (pc' := 136) X98 hx #[.val (.int p1), .val (.int p2), .val (.int p3), .val (.int p4), .val (.int p5), .val (.int p6), .val (.int (3 : Int32)), .val (.ref a76), .val (.ref q_89), .val (.int (1 : Int32))] rfl (hb hby at_134) rfl ?_
    refine own_iload (pc' := 138) X98 hx rfl (hb hby at_136) rfl ?_
    refine own_iconst (pc' := 139) X98 hx (1 : Int32) (by decide) (hb hby at_138) rfl ?_
    refine own_icmpNo (pc' := 142) X98 hx (by decide) (hb hby at_139) rfl ?_
    refine own_iload (pc' := 144) X98 hx rfl (hb hby at_142) rfl ?_
    refine own_ifNo (pc' := 147) X98 hx (by decide) (hb hby at_144) rfl ?_
    refine own_aload (pc' := 149) X98 hx rfl rfl (hb hby at_147) rfl ?_
    refine own_iconst (pc' := 150) X98 hx (1 : Int32) (by decide) (hb hby at_149) rfl ?_
    obtain ⟨c102, B102, q102, s102, u102, H102, G102⟩ := id Ac89_q
    have i102 := inb_of s102 (j := (1 : Int32)) (by decide)
    refine own_by (X98.iaload hx (j := (1 : Int32)) (v := (.int p2)) (by rw [e98]; exact B102.1) (State.isArrayOf_alike hZ.alike B102.2.1) B102.2.2 i102 (H102.at i102 rfl) (g := (mkF m 150 #[.val (.int p1), .val (.int p2), .val (.int p3), .val (.int p4), .val (.int p5), .val (.int p6), .val (.int (3 : Int32)), .val (.ref a76), .val (.ref q_89), .val (.int (1 : Int32))] [(.int (1 : Int32)), (.ref q_89)])) rfl rfl (hb hby at_150)) ?_
    show own_Go p e below (Q0 Z p1 p2 p3 p4 p5 p6 h0 n0) (own_Fr s room_1.cells room_1.slots) (T98.setTop (mkF m 151 #[.val (.int p1), .val (.int p2), .val (.int p3), .val (.int p4), .val (.int p5), .val (.int p6), .val (.int (3 : Int32)), .val (.ref a76), .val (.ref q_89), .val (.int (1 : Int32))] [(.int p2)]))
    refine own_iloadN (pc' := 152) X98 hx rfl (hb hby at_151) rfl ?_
    have b103 : p2.toInt = p2.toInt := by omega
    refine own_icmpNo (pc' := 155) X98 hx (own_no_ne rfl rfl b103) (hb hby at_152) rfl ?_
    refine own_iconst (pc' := 156) X98 hx (1 : Int32) (by decide) (hb hby at_155) rfl ?_
    refine own_goto (pc' := 160) X98 hx (hb hby at_156) (by decide) (by decide) ?_
    refine own_istore (pc' := 162) X98 hx #[.val (.int p1), .val (.int p2), .val (.int p3), .val (.int p4), .val (.int p5), .val (.int p6), .val (.int (3 : Int32)), .val (.ref a76), .val (.ref q_89), .val (.int (1 : Int32))] rfl (hb hby at_160) rfl ?_
    refine own_iload (pc' := 164) X98 hx rfl (hb hby at_162) rfl ?_
    refine own_iconst (pc' := 165) X98 hx (2 : Int32) (by decide) (hb hby at_164) rfl ?_
    refine own_icmpNo (pc' := 168) X98 hx (by decide) (hb hby at_165) rfl ?_
    refine own_iload (pc' := 170) X98 hx rfl (hb hby at_168) rfl ?_
    refine own_ifNo (pc' := 173) X98 hx (by decide) (hb hby at_170) rfl ?_
    refine own_aload (pc' := 175) X98 hx rfl rfl (hb hby at_173) rfl ?_
    refine own_iconst (pc' := 176) X98 hx (2 : Int32) (by decide) (hb hby at_175) rfl ?_
    obtain ⟨c104, B104, q104, s104, u104, H104, G104⟩ := id Ac89_q
    have i104 := inb_of s104 (j := (2 : Int32)) (by decide)
    refine own_by (X98.iaload hx (j := (2 : Int32)) (v := (.int p3)) (by rw [e98]; exact B104.1) (State.isArrayOf_alike hZ.alike B104.2.1) B104.2.2 i104 (H104.at i104 rfl) (g := (mkF m 176 #[.val (.int p1), .val (.int p2), .val (.int p3), .val (.int p4), .val (.int p5), .val (.int p6), .val (.int (3 : Int32)), .val (.ref a76), .val (.ref q_89), .val (.int (1 : Int32))] [(.int (2 : Int32)), (.ref q_89)])) rfl rfl (hb hby at_176)) ?_
    show own_Go p e below (Q0 Z p1 p2 p3 p4 p5 p6 h0 n0) (own_Fr s room_1.cells room_1.slots) (T98.setTop (mkF m 177 #[.val (.int p1), .val (.int p2), .val (.int p3), .val (.int p4), .val (.int p5), .val (.int p6), .val (.int (3 : Int32)), .val (.ref a76), .val (.ref q_89), .val (.int (1 : Int32))] [(.int p3)]))
    refine own_iloadN (pc' := 178) X98 hx rfl (hb hby at_177) rfl ?_
    have b105 : p3.toInt = p3.toInt := by omega
    refine own_icmpNo (pc' := 181) X98 hx (own_no_ne rfl rfl b105) (hb hby at_178) rfl ?_
    refine own_iconst (pc' := 182) X98 hx (1 : Int32) (by decide) (hb hby at_181) rfl ?_
    refine own_goto (pc' := 186) X98 hx (hb hby at_182) (by decide) (by decide) ?_
    refine own_istore (pc' := 188) X98 hx #[.val (.int p1), .val (.int p2), .val (.int p3), .val (.int p4), .val (.int p5), .val (.int p6), .val (.int (3 : Int32)), .val (.ref a76), .val (.ref q_89), .val (.int (1 : Int32))] rfl (hb hby at_186) rfl ?_
    refine own_iload (pc' := 190) X98 hx rfl (hb hby at_188) rfl ?_
    refine own_iconst (pc' := 191) X98 hx (3 : Int32) (by decide) (hb hby at_190) rfl ?_
    refine own_icmpYes (pc' := 214) X98 hx (hb hby at_191) (by decide) (by decide) (by decide) ?_
    refine own_iload (pc' := 216) X98 hx rfl (hb hby at_214) rfl ?_
    refine own_iconst (pc' := 217) X98 hx (4 : Int32) (by decide) (hb hby at_216) rfl ?_
    refine own_icmpYes (pc' := 241) X98 hx (hb hby at_217) (by decide) (by decide) (by decide) ?_
    refine own_iload (pc' := 243) X98 hx rfl (hb hby at_241) rfl ?_
    refine own_ret X98 hx Bd.returns Bd.notSynchronized (Or.inl ⟨rfl, by simp, _, rfl⟩) (hb hby at_243) rfl (by decide) (by decide) ?_
    show Q0 Z p1 p2 p3 p4 p5 p6 h0 n0 _ T98.heap _
    rw [e98]
    exact ⟨rfl, N98a⟩
  · obtain rfl : v3 = (4 : Int32) := Int32.toInt_inj.mp b5
    have kz106 : (4 : Int32).toInt = 4 := by decide
    obtain ⟨T107, h107, X107, e107, E107, A107, D107, -, st107⟩ := newO X0 hx hZ hown (hw _ (List.mem_of_getElem? (i := 1) rfl)) (hw _ (List.mem_of_getElem? (i := 2) rfl)) (hw _ (List.mem_of_getElem? (i := 3) rfl)) e0 (g := (mkF m 10 #[.val (.int p1), .val (.int p2), .val (.int p3), .val (.int p4), .val (.int p5), .val (.int p6), .val (.int (4 : Int32)), .unset, .unset, .unset] [])) rfl (hb hby at_10) (by decide) (by decide)
    obtain ⟨a107, ga107⟩ : ∃ z, z = h0.size := ⟨_, rfl⟩
    rw [← ga107] at A107 D107 st107
    have fr107 : n0 ≤ a107 := Nat.le_trans Z0 (Nat.le_of_eq ga107.symm)
    have Z108 : n0 ≤ h107.size := Nat.le_trans Z0 E107.1
    have F109 : Fld Z h107 a107 "com/example/libpundit/libpundit/core/IntList" "values" "[I" .null := D107 (Or.inl (hw _ (List.mem_of_getElem? (i := 12) rfl))) (ty := (.array .int)) (by decide)
    have F110 : Fld Z h107 a107 "com/example/libpundit/libpundit/core/IntList" "size" "I" (.int (0 : Int32)) := D107 (Or.inl (hw _ (List.mem_of_getElem? (i := 19) rfl))) (ty := .int) (by decide)
    refine own_by st107 ?_
    show own_Go p e below (Q0 Z p1 p2 p3 p4 p5 p6 h0 n0) (own_Fr s room_1.cells room_1.slots) (T107.setTop (mkF m 13 #[.val (.int p1), .val (.int p2), .val (.int p3), .val (.int p4), .val (.int p5), .val (.int p6), .val (.int (4 : Int32)), .unset, .unset, .unset] [(.ref a107)]))
    refine own_dup (pc' := 14) X107 hx rfl (hb hby at_13) rfl ?_
    obtain ⟨_, _, ⟨T111, L111, k111, n111⟩, -, X111, ⟨Lc111, hQ111, l111, y111, z111⟩, st111⟩ := X107.specialBack hx (y := (⟨"com/example/libpundit/libpundit/core/IntList", "<init>", "()V"⟩ : MethodName)) rfl hown (mvT hZ (hw _ (List.mem_of_getElem? (i := 4) rfl))) (mvT hZ (hw _ (List.mem_of_getElem? (i := 5) rfl))) (mvT hZ (hw _ (List.mem_of_getElem? (i := 6) rfl))) (by decide) (backOf (W := 1) (rmi l Z a0 hw [] a107 h107 n0 Z108 A107 F109 F110 fr107) hZ (hw _ (List.mem_of_getElem? (i := 6) rfl)) (hw _ (List.mem_of_getElem? (i := 3) rfl)) (by decide) (by decide)) (g := (mkF m 14 #[.val (.int p1), .val (.int p2), .val (.int p3), .val (.int p4), .val (.int p5), .val (.int p6), .val (.int (4 : Int32)), .unset, .unset, .unset] [(.ref a107), (.ref a107)])) rfl (by rw [hml]; rfl) (Steps.refl _) (a := a107) (argsL := []) (rest := [(.ref a107)]) (lenOf pd_2 rfl) rfl (by show 2 * 0 + _ ≤ _; exact Nat.le_of_eq rfl) (hb hby at_14) (fun _ _ => ⟨rfl, e107, (by decide : 1 + 1 ≤ _), (by decide : 2 + 4 ≤ _)⟩)
    dsimp only [Pt.U, Pt.locs, Pt.cells, Pt.slots] at X111 l111 y111 z111 st111 hQ111
    subst l111 y111 z111
    obtain ⟨ar_111, kc_111, rfl, pp111, N111, Kc111, gc111_ar, Ec111_a1, Ec111_ar, Fc111_0, Fc111_1, Ac111_ar⟩ := hQ111
    have n112 : a107 ≠ ar_111 := Nat.ne_of_lt (Nat.lt_of_lt_of_le A107.lt gc111_ar)
    have frar_111 : n0 ≤ ar_111 := Nat.le_trans Z108 gc111_ar
    have Z113 : n0 ≤ T111.heap.size := Nat.le_trans Z108 Kc111.1
    have N111a := Fr.app N0 N111
    refine own_via st111 ?_
    show own_Go p e below (Q0 Z p1 p2 p3 p4 p5 p6 h0 n0) (own_Fr s room_1.cells room_1.slots) (T111.setTop (mkF m 17 #[.val (.int p1), .val (.int p2), .val (.int p3), .val (.int p4), .val (.int p5), .val (.int p6), .val (.int (4 : Int32)), .unset, .unset, .unset] [(.ref a107)]))
    refine own_astore (pc' := 19) X111 hx #[.val (.int p1), .val (.int p2), .val (.int p3), .val (.int p4), .val (.int p5), .val (.int p6), .val (.int (4 : Int32)), .val (.ref a107), .unset, .unset] rfl rfl (hb hby at_17) rfl ?_
    refine own_iload (pc' := 21) X111 hx rfl (hb hby at_19) rfl ?_
    refine own_ifNo (pc' := 24) X111 hx (by decide) (hb hby at_21) rfl ?_
    refine own_aload (pc' := 26) X111 hx rfl rfl (hb hby at_24) rfl ?_
    refine own_iloadN (pc' := 27) X111 hx rfl (hb hby at_26) rfl ?_
    obtain ⟨cq114, kq114, q114a, q114b, q114c⟩ := isOf hZ rfl Ec111_a1
    obtain ⟨_, _, ⟨T114, L114, k114, n114⟩, -, X114, ⟨Lc114, hQ114, l114, y114, z114⟩, st114⟩ := X111.virtualBack hx (y := (⟨"com/example/libpundit/libpundit/core/IntList", "add", "(I)V"⟩ : MethodName)) (z := (⟨"com/example/libpundit/libpundit/core/IntList", "add", "(I)V"⟩ : MethodName)) hown (mvT hZ (hw _ (List.mem_of_getElem? (i := 13) rfl))) (mvT hZ (hw _ (List.mem_of_getElem? (i := 14) rfl))) (notFace_of_selects (args := #[]) (mvT hZ (hw _ (List.mem_of_getElem? (i := 16) rfl)))) (mvT hZ (hw _ (List.mem_of_getElem? (i := 16) rfl))) (mvT hZ (hw _ (List.mem_of_getElem? (i := 15) rfl))) (by decide) (backOf (W := 0) (rma0 l Z a0 hw [] a107 p1 ar_111 kc_111 T111.heap n0 Z113 Ec111_a1 Ec111_ar Fc111_0 Fc111_1 Ac111_ar fr107 frar_111 n112) hZ (hw _ (List.mem_of_getElem? (i := 17) rfl)) (hw _ (List.mem_of_getElem? (i := 3) rfl)) (by decide) (by decide)) q114a q114c (g := (mkF m 27 #[.val (.int p1), .val (.int p2), .val (.int p3), .val (.int p4), .val (.int p5), .val (.int p6), .val (.int (4 : Int32)), .val (.ref a107), .unset, .unset] [(.int p1), (.ref a107)])) rfl (by rw [hml]; rfl) (Steps.refl _) (argsL := [(.int p1)]) (rest := []) (lenOf pd_3 rfl) rfl (by show 2 * 0 + _ ≤ _; exact Nat.le_of_eq rfl) (hb hby at_27) (fun _ _ => ⟨rfl, rfl, (by decide : 2 + 0 ≤ _), (by decide : 6 + 0 ≤ _)⟩)
    dsimp only [Pt.U, Pt.locs, Pt.cells, Pt.slots] at X114 l114 y114 z114 st114 hQ114
    subst l114 y114 z114
    obtain ⟨rfl, pp114, N114, Kc114, Ec114_a1, Ec114_ar, Fc114_0, Fc114_1, Ac114_ar⟩ := hQ114
    have Z115 : n0 ≤ T114.heap.size := Nat.le_trans Z113 Kc114.1
    have N114a := Fr.app N111a N114
    refine own_via st114 ?_
    show own_Go p e below (Q0 Z p1 p2 p3 p4 p5 p6 h0 n0) (own_Fr s room_1.cells room_1.slots) (T114.setTop (mkF m 30 #[.val (.int p1), .val (.int p2), .val (.int p3), .val (.int p4), .val (.int p5), .val (.int p6), .val (.int (4 : Int32)), .val (.ref a107), .unset, .unset] []))
    refine own_iload (pc' := 32) X114 hx rfl (hb hby at_30) rfl ?_
    refine own_iconst (pc' := 33) X114 hx (1 : Int32) (by decide) (hb hby at_32) rfl ?_
    refine own_icmpNo (pc' := 36) X114 hx (by decide) (hb hby at_33) rfl ?_
    refine own_aload (pc' := 38) X114 hx rfl rfl (hb hby at_36) rfl ?_
    refine own_iloadN (pc' := 39) X114 hx rfl (hb hby at_38) rfl ?_
    obtain ⟨cq116, kq116, q116a, q116b, q116c⟩ := isOf hZ rfl Ec114_a1
    obtain ⟨_, _, ⟨T116, L116, k116, n116⟩, -, X116, ⟨Lc116, hQ116, l116, y116, z116⟩, st116⟩ := X114.virtualBack hx (y := (⟨"com/example/libpundit/libpundit/core/IntList", "add", "(I)V"⟩ : MethodName)) (z := (⟨"com/example/libpundit/libpundit/core/IntList", "add", "(I)V"⟩ : MethodName)) hown (mvT hZ (hw _ (List.mem_of_getElem? (i := 13) rfl))) (mvT hZ (hw _ (List.mem_of_getElem? (i := 14) rfl))) (notFace_of_selects (args := #[]) (mvT hZ (hw _ (List.mem_of_getElem? (i := 16) rfl)))) (mvT hZ (hw _ (List.mem_of_getElem? (i := 16) rfl))) (mvT hZ (hw _ (List.mem_of_getElem? (i := 15) rfl))) (by decide) (backOf (W := 0) (rma1 l Z a0 hw [] a107 p2 ar_111 kc_111 p1 T114.heap n0 Z115 Ec114_a1 Ec114_ar Fc114_0 Fc114_1 Ac114_ar fr107 frar_111 n112) hZ (hw _ (List.mem_of_getElem? (i := 17) rfl)) (hw _ (List.mem_of_getElem? (i := 3) rfl)) (by decide) (by decide)) q116a q116c (g := (mkF m 39 #[.val (.int p1), .val (.int p2), .val (.int p3), .val (.int p4), .val (.int p5), .val (.int p6), .val (.int (4 : Int32)), .val (.ref a107), .unset, .unset] [(.int p2), (.ref a107)])) rfl (by rw [hml]; rfl) (Steps.refl _) (argsL := [(.int p2)]) (rest := []) (lenOf pd_3 rfl) rfl (by show 2 * 0 + _ ≤ _; exact Nat.le_of_eq rfl) (hb hby at_39) (fun _ _ => ⟨rfl, rfl, (by decide : 2 + 0 ≤ _), (by decide : 6 + 0 ≤ _)⟩)
    dsimp only [Pt.U, Pt.locs, Pt.cells, Pt.slots] at X116 l116 y116 z116 st116 hQ116
    subst l116 y116 z116
    obtain ⟨rfl, pp116, N116, Kc116, Ec116_a1, Ec116_ar, Fc116_0, Fc116_1, Ac116_ar⟩ := hQ116
    have Z117 : n0 ≤ T116.heap.size := Nat.le_trans Z115 Kc116.1
    have N116a := Fr.app N114a N116
    refine own_via st116 ?_
    show own_Go p e below (Q0 Z p1 p2 p3 p4 p5 p6 h0 n0) (own_Fr s room_1.cells room_1.slots) (T116.setTop (mkF m 42 #[.val (.int p1), .val (.int p2), .val (.int p3), .val (.int p4), .val (.int p5), .val (.int p6), .val (.int (4 : Int32)), .val (.ref a107), .unset, .unset] []))
    refine own_iload (pc' := 44) X116 hx rfl (hb hby at_42) rfl ?_
    refine own_iconst (pc' := 45) X116 hx (2 : Int32) (by decide) (hb hby at_44) rfl ?_
    refine own_icmpNo (pc' := 48) X116 hx (by decide) (hb hby at_45) rfl ?_
    refine own_aload (pc' := 50) X116 hx rfl rfl (hb hby at_48) rfl ?_
    refine own_iloadN (pc' := 51) X116 hx rfl (hb hby at_50) rfl ?_
    obtain ⟨cq118, kq118, q118a, q118b, q118c⟩ := isOf hZ rfl Ec116_a1
    obtain ⟨_, _, ⟨T118, L118, k118, n118⟩, -, X118, ⟨Lc118, hQ118, l118, y118, z118⟩, st118⟩ := X116.virtualBack hx (y := (⟨"com/example/libpundit/libpundit/core/IntList", "add", "(I)V"⟩ : MethodName)) (z := (⟨"com/example/libpundit/libpundit/core/IntList", "add", "(I)V"⟩ : MethodName)) hown (mvT hZ (hw _ (List.mem_of_getElem? (i := 13) rfl))) (mvT hZ (hw _ (List.mem_of_getElem? (i := 14) rfl))) (notFace_of_selects (args := #[]) (mvT hZ (hw _ (List.mem_of_getElem? (i := 16) rfl)))) (mvT hZ (hw _ (List.mem_of_getElem? (i := 16) rfl))) (mvT hZ (hw _ (List.mem_of_getElem? (i := 15) rfl))) (by decide) (backOf (W := 0) (rma2 l Z a0 hw [] a107 p3 ar_111 kc_111 p1 p2 T116.heap n0 Z117 Ec116_a1 Ec116_ar Fc116_0 Fc116_1 Ac116_ar fr107 frar_111 n112) hZ (hw _ (List.mem_of_getElem? (i := 17) rfl)) (hw _ (List.mem_of_getElem? (i := 3) rfl)) (by decide) (by decide)) q118a q118c (g := (mkF m 51 #[.val (.int p1), .val (.int p2), .val (.int p3), .val (.int p4), .val (.int p5), .val (.int p6), .val (.int (4 : Int32)), .val (.ref a107), .unset, .unset] [(.int p3), (.ref a107)])) rfl (by rw [hml]; rfl) (Steps.refl _) (argsL := [(.int p3)]) (rest := []) (lenOf pd_3 rfl) rfl (by show 2 * 0 + _ ≤ _; exact Nat.le_of_eq rfl) (hb hby at_51) (fun _ _ => ⟨rfl, rfl, (by decide : 2 + 0 ≤ _), (by decide : 6 + 0 ≤ _)⟩)
    dsimp only [Pt.U, Pt.locs, Pt.cells, Pt.slots] at X118 l118 y118 z118 st118 hQ118
    subst l118 y118 z118
    obtain ⟨rfl, pp118, N118, Kc118, Ec118_a1, Ec118_ar, Fc118_0, Fc118_1, Ac118_ar⟩ := hQ118
    have Z119 : n0 ≤ T118.heap.size := Nat.le_trans Z117 Kc118.1
    have N118a := Fr.app N116a N118
    refine own_via st118 ?_
    show own_Go p e below (Q0 Z p1 p2 p3 p4 p5 p6 h0 n0) (own_Fr s room_1.cells room_1.slots) (T118.setTop (mkF m 54 #[.val (.int p1), .val (.int p2), .val (.int p3), .val (.int p4), .val (.int p5), .val (.int p6), .val (.int (4 : Int32)), .val (.ref a107), .unset, .unset] []))
    refine own_iload (pc' := 56) X118 hx rfl (hb hby at_54) rfl ?_
    refine own_iconst (pc' := 57) X118 hx (3 : Int32) (by decide) (hb hby at_56) rfl ?_
    refine own_icmpNo (pc' := 60) X118 hx (by decide) (hb hby at_57) rfl ?_
    refine own_aload (pc' := 62) X118 hx rfl rfl (hb hby at_60) rfl ?_
    refine own_iloadN (pc' := 63) X118 hx rfl (hb hby at_62) rfl ?_
    obtain ⟨cq120, kq120, q120a, q120b, q120c⟩ := isOf hZ rfl Ec118_a1
    obtain ⟨_, _, ⟨T120, L120, k120, n120⟩, -, X120, ⟨Lc120, hQ120, l120, y120, z120⟩, st120⟩ := X118.virtualBack hx (y := (⟨"com/example/libpundit/libpundit/core/IntList", "add", "(I)V"⟩ : MethodName)) (z := (⟨"com/example/libpundit/libpundit/core/IntList", "add", "(I)V"⟩ : MethodName)) hown (mvT hZ (hw _ (List.mem_of_getElem? (i := 13) rfl))) (mvT hZ (hw _ (List.mem_of_getElem? (i := 14) rfl))) (notFace_of_selects (args := #[]) (mvT hZ (hw _ (List.mem_of_getElem? (i := 16) rfl)))) (mvT hZ (hw _ (List.mem_of_getElem? (i := 16) rfl))) (mvT hZ (hw _ (List.mem_of_getElem? (i := 15) rfl))) (by decide) (backOf (W := 0) (rma3 l Z a0 hw [] a107 p4 ar_111 kc_111 p1 p2 p3 T118.heap n0 Z119 Ec118_a1 Ec118_ar Fc118_0 Fc118_1 Ac118_ar fr107 frar_111 n112) hZ (hw _ (List.mem_of_getElem? (i := 17) rfl)) (hw _ (List.mem_of_getElem? (i := 3) rfl)) (by decide) (by decide)) q120a q120c (g := (mkF m 63 #[.val (.int p1), .val (.int p2), .val (.int p3), .val (.int p4), .val (.int p5), .val (.int p6), .val (.int (4 : Int32)), .val (.ref a107), .unset, .unset] [(.int p4), (.ref a107)])) rfl (by rw [hml]; rfl) (Steps.refl _) (argsL := [(.int p4)]) (rest := []) (lenOf pd_3 rfl) rfl (by show 2 * 0 + _ ≤ _; exact Nat.le_of_eq rfl) (hb hby at_63) (fun _ _ => ⟨rfl, rfl, (by decide : 2 + 0 ≤ _), (by decide : 6 + 0 ≤ _)⟩)
    dsimp only [Pt.U, Pt.locs, Pt.cells, Pt.slots] at X120 l120 y120 z120 st120 hQ120
    subst l120 y120 z120
    obtain ⟨rfl, pp120, N120, Kc120, Ec120_a1, Ec120_ar, Fc120_0, Fc120_1, Ac120_ar⟩ := hQ120
    have Z121 : n0 ≤ T120.heap.size := Nat.le_trans Z119 Kc120.1
    have N120a := Fr.app N118a N120
    refine own_via st120 ?_
    show own_Go p e below (Q0 Z p1 p2 p3 p4 p5 p6 h0 n0) (own_Fr s room_1.cells room_1.slots) (T120.setTop (mkF m 66 #[.val (.int p1), .val (.int p2), .val (.int p3), .val (.int p4), .val (.int p5), .val (.int p6), .val (.int (4 : Int32)), .val (.ref a107), .unset, .unset] []))
    refine own_iload (pc' := 68) X120 hx rfl (hb hby at_66) rfl ?_
    refine own_iconst (pc' := 69) X120 hx (4 : Int32) (by decide) (hb hby at_68) rfl ?_
    refine own_icmpYes (pc' := 79) X120 hx (hb hby at_69) (by decide) (by decide) (by decide) ?_
    refine own_aload (pc' := 81) X120 hx rfl rfl (hb hby at_79) rfl ?_
    obtain ⟨cq122, kq122, q122a, q122b, q122c⟩ := isOf hZ rfl Ec120_a1
    obtain ⟨_, _, ⟨T122, L122, k122, n122⟩, -, X122, ⟨Lc122, hQ122, l122, y122, z122⟩, st122⟩ := X120.virtualBack hx (y := (⟨"com/example/libpundit/libpundit/core/IntList", "toArray", "()[I"⟩ : MethodName)) (z := (⟨"com/example/libpundit/libpundit/core/IntList", "toArray", "()[I"⟩ : MethodName)) hown (mvT hZ (hw _ (List.mem_of_getElem? (i := 20) rfl))) (mvT hZ (hw _ (List.mem_of_getElem? (i := 21) rfl))) (notFace_of_selects (args := #[]) (mvT hZ (hw _ (List.mem_of_getElem? (i := 23) rfl)))) (mvT hZ (hw _ (List.mem_of_getElem? (i := 23) rfl))) (mvT hZ (hw _ (List.mem_of_getElem? (i := 22) rfl))) (by decide) (backOf (W := 0) (rmt4 l Z a0 hw [] a107 ar_111 kc_111 p1 p2 p3 p4 T120.heap n0 Z121 Ec120_ar Fc120_0 Fc120_1 Ac120_ar) hZ (hw _ (List.mem_of_getElem? (i := 24) rfl)) (hw _ (List.mem_of_getElem? (i := 3) rfl)) (by decide) (by decide)) q122a q122c (g := (mkF m 81 #[.val (.int p1), .val (.int p2), .val (.int p3), .val (.int p4), .val (.int p5), .val (.int p6), .val (.int (4 : Int32)), .val (.ref a107), .unset, .unset] [(.ref a107)])) rfl (by rw [hml]; rfl) (Steps.refl _) (argsL := []) (rest := []) (lenOf pd_4 rfl) rfl (by show 2 * 0 + _ ≤ _; exact Nat.le_of_eq rfl) (hb hby at_81) (fun _ _ => ⟨rfl, rfl, (by decide : 2 + 1 ≤ _), (by decide : 6 + 4 ≤ _)⟩)
    dsimp only [Pt.U, Pt.locs, Pt.cells, Pt.slots] at X122 l122 y122 z122 st122 hQ122
    subst l122 y122 z122
    obtain ⟨q_122, kd_122, rfl, pp122, N122, Kc122, gc122_q, Ec122_q, Ac122_q⟩ := hQ122
    have n123 : a107 ≠ q_122 := Nat.ne_of_lt (Nat.lt_of_lt_of_le Ec120_a1.lt gc122_q)
    have n124 : ar_111 ≠ q_122 := Nat.ne_of_lt (Nat.lt_of_lt_of_le Ec120_ar.lt gc122_q)
    have frq_122 : n0 ≤ q_122 := Nat.le_trans Z121 gc122_q
    have F125 : Fld Z T122.heap a107 "com/example/libpundit/libpundit/core/IntList" "values" "[I" (.ref ar_111) := Fc120_0.keep Kc122 nin0
    have F126 : Fld Z T122.heap a107 "com/example/libpundit/libpundit/core/IntList" "size" "I" (.int (4 : Int32)) := Fc120_1.keep Kc122 nin0
    have E127 : Exa Z T122.heap a107 "com/example/libpundit/libpundit/core/IntList" := Ec120_a1.keep Kc122
    have E128 : Exa Z T122.heap ar_111 "[I" := Ec120_ar.keep Kc122
    have A129 : Arv Z T122.heap ar_111 kc_111 .int (4 : Int32) [(.int p1), (.int p2), (.int p3), (.int p4)] (.int (0 : Int32)) := Ac120_ar.keep Kc122 nin0
    have Z130 : n0 ≤ T122.heap.size := Nat.le_trans Z121 Kc122.1
    have N122a := Fr.app N120a N122
    refine own_via st122 ?_
    show own_Go p e below (Q0 Z p1 p2 p3 p4 p5 p6 h0 n0) (own_Fr s room_1.cells room_1.slots) (T122.setTop (mkF m 84 #[.val (.int p1), .val (.int p2), .val (.int p3), .val (.int p4), .val (.int p5), .val (.int p6), .val (.int (4 : Int32)), .val (.ref a107), .unset, .unset] [(.ref q_122)]))
    refine own_astore (pc' := 86) X122 hx #[.val (.int p1), .val (.int p2), .val (.int p3), .val (.int p4), .val (.int p5), .val (.int p6), .val (.int (4 : Int32)), .val (.ref a107), .val (.ref q_122), .unset] rfl rfl (hb hby at_84) rfl ?_
    refine own_aload (pc' := 88) X122 hx rfl rfl (hb hby at_86) rfl ?_
    obtain ⟨cq131, kq131, q131a, q131b, q131c⟩ := isOf hZ rfl E127
    obtain ⟨_, _, ⟨T131, L131, k131, n131⟩, -, X131, ⟨Lc131, hQ131, l131, y131, z131⟩, st131⟩ := X122.virtualBack hx (y := (⟨"com/example/libpundit/libpundit/core/IntList", "size", "()I"⟩ : MethodName)) (z := (⟨"com/example/libpundit/libpundit/core/IntList", "size", "()I"⟩ : MethodName)) hown (mvT hZ (hw _ (List.mem_of_getElem? (i := 37) rfl))) (mvT hZ (hw _ (List.mem_of_getElem? (i := 38) rfl))) (notFace_of_selects (args := #[]) (mvT hZ (hw _ (List.mem_of_getElem? (i := 40) rfl)))) (mvT hZ (hw _ (List.mem_of_getElem? (i := 40) rfl))) (mvT hZ (hw _ (List.mem_of_getElem? (i := 39) rfl))) (by decide) (backOf (W := 0) (rmz4 l Z a0 hw [] a107 T122.heap n0 Z130 F126) hZ (hw _ (List.mem_of_getElem? (i := 41) rfl)) (hw _ (List.mem_of_getElem? (i := 3) rfl)) (by decide) (by decide)) q131a q131c (g := (mkF m 88 #[.val (.int p1), .val (.int p2), .val (.int p3), .val (.int p4), .val (.int p5), .val (.int p6), .val (.int (4 : Int32)), .val (.ref a107), .val (.ref q_122), .unset] [(.ref a107)])) rfl (by rw [hml]; rfl) (Steps.refl _) (argsL := []) (rest := []) (lenOf pd_5 rfl) rfl (by show 2 * 0 + _ ≤ _; exact Nat.le_of_eq rfl) (hb hby at_88) (fun _ _ => ⟨rfl, rfl, (by decide : 3 + 0 ≤ _), (by decide : 10 + 0 ≤ _)⟩)
    dsimp only [Pt.U, Pt.locs, Pt.cells, Pt.slots] at X131 l131 y131 z131 st131 hQ131
    subst l131 y131 z131
    obtain ⟨rfl, pp131, N131, e131⟩ := hQ131
    have N131a := Fr.app N122a N131
    refine own_via st131 ?_
    show own_Go p e below (Q0 Z p1 p2 p3 p4 p5 p6 h0 n0) (own_Fr s room_1.cells room_1.slots) (T131.setTop (mkF m 91 #[.val (.int p1), .val (.int p2), .val (.int p3), .val (.int p4), .val (.int p5), .val (.int p6), .val (.int (4 : Int32)), .val (.ref a107), .val (.ref q_122), .unset] [(.int (4 : Int32))]))
    refine own_iload (pc' := 93) X131 hx rfl (hb hby at_91) rfl ?_
    refine own_icmpYes (pc' := 98) X131 hx (hb hby at_93) (by decide) (by decide) (by decide) ?_
    refine own_aload (pc' := 100) X131 hx rfl rfl (hb hby at_98) rfl ?_
    obtain ⟨c132, B132, q132, s132, u132, H132, G132⟩ := id Ac122_q
    refine own_by (X131.arraylength hx (by rw [e131]; exact B132.1) (State.isArrayOf_alike hZ.alike B132.2.1) (g := (mkF m 100 #[.val (.int p1), .val (.int p2), .val (.int p3), .val (.int p4), .val (.int p5), .val (.int p6), .val (.int (4 : Int32)), .val (.ref a107), .val (.ref q_122), .unset] [(.ref q_122)])) rfl rfl (hb hby at_100)) ?_
    rw [len_of s132 u132]
    show own_Go p e below (Q0 Z p1 p2 p3 p4 p5 p6 h0 n0) (own_Fr s room_1.cells room_1.slots) (T131.setTop (mkF m 101 #[.val (.int p1), .val (.int p2), .val (.int p3), .val (.int p4), .val (.int p5), .val (.int p6), .val (.int (4 : Int32)), .val (.ref a107), .val (.ref q_122), .unset] [(.int (4 : Int32))]))
    refine own_iload (pc' := 103) X131 hx rfl (hb hby at_101) rfl ?_
    refine own_icmpYes (pc' := 108) X131 hx (hb hby at_103) (by decide) (by decide) (by decide) ?_
    refine own_iconst (pc' := 109) X131 hx (1 : Int32) (by decide) (hb hby at_108) rfl ?_
    refine own_istore (pc' := 111) X131 hx #[.val (.int p1), .val (.int p2), .val (.int p3), .val (.int p4), .val (.int p5), .val (.int p6), .val (.int (4 : Int32)), .val (.ref a107), .val (.ref q_122), .val (.int (1 : Int32))] rfl (hb hby at_109) rfl ?_
    refine own_iload (pc' := 113) X131 hx rfl (hb hby at_111) rfl ?_
    refine own_ifNo (pc' := 116) X131 hx (by decide) (hb hby at_113) rfl ?_
    refine own_iload (pc' := 118) X131 hx rfl (hb hby at_116) rfl ?_
    refine own_ifNo (pc' := 121) X131 hx (by decide) (hb hby at_118) rfl ?_
    refine own_aload (pc' := 123) X131 hx rfl rfl (hb hby at_121) rfl ?_
    refine own_iconst (pc' := 124) X131 hx (0 : Int32) (by decide) (hb hby at_123) rfl ?_
    obtain ⟨c133, B133, q133, s133, u133, H133, G133⟩ := id Ac122_q
    have i133 := inb_of s133 (j := (0 : Int32)) (by decide)
    refine own_by (X131.iaload hx (j := (0 : Int32)) (v := (.int p1)) (by rw [e131]; exact B133.1) (State.isArrayOf_alike hZ.alike B133.2.1) B133.2.2 i133 (H133.at i133 rfl) (g := (mkF m 124 #[.val (.int p1), .val (.int p2), .val (.int p3), .val (.int p4), .val (.int p5), .val (.int p6), .val (.int (4 : Int32)), .val (.ref a107), .val (.ref q_122), .val (.int (1 : Int32))] [(.int (0 : Int32)), (.ref q_122)])) rfl rfl (hb hby at_124)) ?_
    show own_Go p e below (Q0 Z p1 p2 p3 p4 p5 p6 h0 n0) (own_Fr s room_1.cells room_1.slots) (T131.setTop (mkF m 125 #[.val (.int p1), .val (.int p2), .val (.int p3), .val (.int p4), .val (.int p5), .val (.int p6), .val (.int (4 : Int32)), .val (.ref a107), .val (.ref q_122), .val (.int (1 : Int32))] [(.int p1)]))
    refine own_iloadN (pc' := 126) X131 hx rfl (hb hby at_125) rfl ?_
    have b134 : p1.toInt = p1.toInt := by omega
    refine own_icmpNo (pc' := 129) X131 hx (own_no_ne rfl rfl b134) (hb hby at_126) rfl ?_
    refine own_iconst (pc' := 130) X131 hx (1 : Int32) (by decide) (hb hby at_129) rfl ?_
    refine own_goto (pc' := 134) X131 hx (hb hby at_130) (by decide) (by decide) ?_
    refine own_istore (pc' := 136) X131 hx #[.val (.int p1), .val (.int p2), .val (.int p3), .val (.int p4), .val (.int p5), .val (.int p6), .val (.int (4 : Int32)), .val (.ref a107), .val (.ref q_122), .val (.int (1 : Int32))] rfl (hb hby at_134) rfl ?_
    refine own_iload (pc' := 138) X131 hx rfl (hb hby at_136) rfl ?_
    refine own_iconst (pc' := 139) X131 hx (1 : Int32) (by decide) (hb hby at_138) rfl ?_
    refine own_icmpNo (pc' := 142) X131 hx (by decide) (hb hby at_139) rfl ?_
    refine own_iload (pc' := 144) X131 hx rfl (hb hby at_142) rfl ?_
    refine own_ifNo (pc' := 147) X131 hx (by decide) (hb hby at_144) rfl ?_
    refine own_aload (pc' := 149) X131 hx rfl rfl (hb hby at_147) rfl ?_
    refine own_iconst (pc' := 150) X131 hx (1 : Int32) (by decide) (hb hby at_149) rfl ?_
    obtain ⟨c135, B135, q135, s135, u135, H135, G135⟩ := id Ac122_q
    have i135 := inb_of s135 (j := (1 : Int32)) (by decide)
    refine own_by (X131.iaload hx (j := (1 : Int32)) (v := (.int p2)) (by rw [e131]; exact B135.1) (State.isArrayOf_alike hZ.alike B135.2.1) B135.2.2 i135 (H135.at i135 rfl) (g := (mkF m 150 #[.val (.int p1), .val (.int p2), .val (.int p3), .val (.int p4), .val (.int p5), .val (.int p6), .val (.int (4 : Int32)), .val (.ref a107), .val (.ref q_122), .val (.int (1 : Int32))] [(.int (1 : Int32)), (.ref q_122)])) rfl rfl (hb hby at_150)) ?_
    show own_Go p e below (Q0 Z p1 p2 p3 p4 p5 p6 h0 n0) (own_Fr s room_1.cells room_1.slots) (T131.setTop (mkF m 151 #[.val (.int p1), .val (.int p2), .val (.int p3), .val (.int p4), .val (.int p5), .val (.int p6), .val (.int (4 : Int32)), .val (.ref a107), .val (.ref q_122), .val (.int (1 : Int32))] [(.int p2)]))
    refine own_iloadN (pc' := 152) X131 hx rfl (hb hby at_151) rfl ?_
    have b136 : p2.toInt = p2.toInt := by omega
    refine own_icmpNo (pc' := 155) X131 hx (own_no_ne rfl rfl b136) (hb hby at_152) rfl ?_
    refine own_iconst (pc' := 156) X131 hx (1 : Int32) (by decide) (hb hby at_155) rfl ?_
    refine own_goto (pc' := 160) X131 hx (hb hby at_156) (by decide) (by decide) ?_
    refine own_istore (pc' := 162) X131 hx #[.val (.int p1), .val (.int p2), .val (.int p3), .val (.int p4), .val (.int p5), .val (.int p6), .val (.int (4 : Int32)), .val (.ref a107), .val (.ref q_122), .val (.int (1 : Int32))] rfl (hb hby at_160) rfl ?_
    refine own_iload (pc' := 164) X131 hx rfl (hb hby at_162) rfl ?_
    refine own_iconst (pc' := 165) X131 hx (2 : Int32) (by decide) (hb hby at_164) rfl ?_
    refine own_icmpNo (pc' := 168) X131 hx (by decide) (hb hby at_165) rfl ?_
    refine own_iload (pc' := 170) X131 hx rfl (hb hby at_168) rfl ?_
    refine own_ifNo (pc' := 173) X131 hx (by decide) (hb hby at_170) rfl ?_
    refine own_aload (pc' := 175) X131 hx rfl rfl (hb hby at_173) rfl ?_
    refine own_iconst (pc' := 176) X131 hx (2 : Int32) (by decide) (hb hby at_175) rfl ?_
    obtain ⟨c137, B137, q137, s137, u137, H137, G137⟩ := id Ac122_q
    have i137 := inb_of s137 (j := (2 : Int32)) (by decide)
    refine own_by (X131.iaload hx (j := (2 : Int32)) (v := (.int p3)) (by rw [e131]; exact B137.1) (State.isArrayOf_alike hZ.alike B137.2.1) B137.2.2 i137 (H137.at i137 rfl) (g := (mkF m 176 #[.val (.int p1), .val (.int p2), .val (.int p3), .val (.int p4), .val (.int p5), .val (.int p6), .val (.int (4 : Int32)), .val (.ref a107), .val (.ref q_122), .val (.int (1 : Int32))] [(.int (2 : Int32)), (.ref q_122)])) rfl rfl (hb hby at_176)) ?_
    show own_Go p e below (Q0 Z p1 p2 p3 p4 p5 p6 h0 n0) (own_Fr s room_1.cells room_1.slots) (T131.setTop (mkF m 177 #[.val (.int p1), .val (.int p2), .val (.int p3), .val (.int p4), .val (.int p5), .val (.int p6), .val (.int (4 : Int32)), .val (.ref a107), .val (.ref q_122), .val (.int (1 : Int32))] [(.int p3)]))
    refine own_iloadN (pc' := 178) X131 hx rfl (hb hby at_177) rfl ?_
    have b138 : p3.toInt = p3.toInt := by omega
    refine own_icmpNo (pc' := 181) X131 hx (own_no_ne rfl rfl b138) (hb hby at_178) rfl ?_
    refine own_iconst (pc' := 182) X131 hx (1 : Int32) (by decide) (hb hby at_181) rfl ?_
    refine own_goto (pc' := 186) X131 hx (hb hby at_182) (by decide) (by decide) ?_
    refine own_istore (pc' := 188) X131 hx #[.val (.int p1), .val (.int p2), .val (.int p3), .val (.int p4), .val (.int p5), .val (.int p6), .val (.int (4 : Int32)), .val (.ref a107), .val (.ref q_122), .val (.int (1 : Int32))] rfl (hb hby at_186) rfl ?_
    refine own_iload (pc' := 190) X131 hx rfl (hb hby at_188) rfl ?_
    refine own_iconst (pc' := 191) X131 hx (3 : Int32) (by decide) (hb hby at_190) rfl ?_
    refine own_icmpNo (pc' := 194) X131 hx (by decide) (hb hby at_191) rfl ?_
    refine own_iload (pc' := 196) X131 hx rfl (hb hby at_194) rfl ?_
    refine own_ifNo (pc' := 199) X131 hx (by decide) (hb hby at_196) rfl ?_
    refine own_aload (pc' := 201) X131 hx rfl rfl (hb hby at_199) rfl ?_
    refine own_iconst (pc' := 202) X131 hx (3 : Int32) (by decide) (hb hby at_201) rfl ?_
    obtain ⟨c139, B139, q139, s139, u139, H139, G139⟩ := id Ac122_q
    have i139 := inb_of s139 (j := (3 : Int32)) (by decide)
    refine own_by (X131.iaload hx (j := (3 : Int32)) (v := (.int p4)) (by rw [e131]; exact B139.1) (State.isArrayOf_alike hZ.alike B139.2.1) B139.2.2 i139 (H139.at i139 rfl) (g := (mkF m 202 #[.val (.int p1), .val (.int p2), .val (.int p3), .val (.int p4), .val (.int p5), .val (.int p6), .val (.int (4 : Int32)), .val (.ref a107), .val (.ref q_122), .val (.int (1 : Int32))] [(.int (3 : Int32)), (.ref q_122)])) rfl rfl (hb hby at_202)) ?_
    show own_Go p e below (Q0 Z p1 p2 p3 p4 p5 p6 h0 n0) (own_Fr s room_1.cells room_1.slots) (T131.setTop (mkF m 203 #[.val (.int p1), .val (.int p2), .val (.int p3), .val (.int p4), .val (.int p5), .val (.int p6), .val (.int (4 : Int32)), .val (.ref a107), .val (.ref q_122), .val (.int (1 : Int32))] [(.int p4)]))
    refine own_iloadN (pc' := 204) X131 hx rfl (hb hby at_203) rfl ?_
    have b140 : p4.toInt = p4.toInt := by omega
    refine own_icmpNo (pc' := 207) X131 hx (own_no_ne rfl rfl b140) (hb hby at_204) rfl ?_
    refine own_iconst (pc' := 208) X131 hx (1 : Int32) (by decide) (hb hby at_207) rfl ?_
    refine own_goto (pc' := 212) X131 hx (hb hby at_208) (by decide) (by decide) ?_
    refine own_istore (pc' := 214) X131 hx #[.val (.int p1), .val (.int p2), .val (.int p3), .val (.int p4), .val (.int p5), .val (.int p6), .val (.int (4 : Int32)), .val (.ref a107), .val (.ref q_122), .val (.int (1 : Int32))] rfl (hb hby at_212) rfl ?_
    refine own_iload (pc' := 216) X131 hx rfl (hb hby at_214) rfl ?_
    refine own_iconst (pc' := 217) X131 hx (4 : Int32) (by decide) (hb hby at_216) rfl ?_
    refine own_icmpYes (pc' := 241) X131 hx (hb hby at_217) (by decide) (by decide) (by decide) ?_
    refine own_iload (pc' := 243) X131 hx rfl (hb hby at_241) rfl ?_
    refine own_ret X131 hx Bd.returns Bd.notSynchronized (Or.inl ⟨rfl, by simp, _, rfl⟩) (hb hby at_243) rfl (by decide) (by decide) ?_
    show Q0 Z p1 p2 p3 p4 p5 p6 h0 n0 _ T131.heap _
    rw [e131]
    exact ⟨rfl, N131a⟩
  · obtain rfl : v3 = (5 : Int32) := Int32.toInt_inj.mp b5
    have kz141 : (5 : Int32).toInt = 5 := by decide
    obtain ⟨T142, h142, X142, e142, E142, A142, D142, -, st142⟩ := newO X0 hx hZ hown (hw _ (List.mem_of_getElem? (i := 1) rfl)) (hw _ (List.mem_of_getElem? (i := 2) rfl)) (hw _ (List.mem_of_getElem? (i := 3) rfl)) e0 (g := (mkF m 10 #[.val (.int p1), .val (.int p2), .val (.int p3), .val (.int p4), .val (.int p5), .val (.int p6), .val (.int (5 : Int32)), .unset, .unset, .unset] [])) rfl (hb hby at_10) (by decide) (by decide)
    obtain ⟨a142, ga142⟩ : ∃ z, z = h0.size := ⟨_, rfl⟩
    rw [← ga142] at A142 D142 st142
    have fr142 : n0 ≤ a142 := Nat.le_trans Z0 (Nat.le_of_eq ga142.symm)
    have Z143 : n0 ≤ h142.size := Nat.le_trans Z0 E142.1
    have F144 : Fld Z h142 a142 "com/example/libpundit/libpundit/core/IntList" "values" "[I" .null := D142 (Or.inl (hw _ (List.mem_of_getElem? (i := 12) rfl))) (ty := (.array .int)) (by decide)
    have F145 : Fld Z h142 a142 "com/example/libpundit/libpundit/core/IntList" "size" "I" (.int (0 : Int32)) := D142 (Or.inl (hw _ (List.mem_of_getElem? (i := 19) rfl))) (ty := .int) (by decide)
    refine own_by st142 ?_
    show own_Go p e below (Q0 Z p1 p2 p3 p4 p5 p6 h0 n0) (own_Fr s room_1.cells room_1.slots) (T142.setTop (mkF m 13 #[.val (.int p1), .val (.int p2), .val (.int p3), .val (.int p4), .val (.int p5), .val (.int p6), .val (.int (5 : Int32)), .unset, .unset, .unset] [(.ref a142)]))
    refine own_dup (pc' := 14) X142 hx rfl (hb hby at_13) rfl ?_
    obtain ⟨_, _, ⟨T146, L146, k146, n146⟩, -, X146, ⟨Lc146, hQ146, l146, y146, z146⟩, st146⟩ := X142.specialBack hx (y := (⟨"com/example/libpundit/libpundit/core/IntList", "<init>", "()V"⟩ : MethodName)) rfl hown (mvT hZ (hw _ (List.mem_of_getElem? (i := 4) rfl))) (mvT hZ (hw _ (List.mem_of_getElem? (i := 5) rfl))) (mvT hZ (hw _ (List.mem_of_getElem? (i := 6) rfl))) (by decide) (backOf (W := 1) (rmi l Z a0 hw [] a142 h142 n0 Z143 A142 F144 F145 fr142) hZ (hw _ (List.mem_of_getElem? (i := 6) rfl)) (hw _ (List.mem_of_getElem? (i := 3) rfl)) (by decide) (by decide)) (g := (mkF m 14 #[.val (.int p1), .val (.int p2), .val (.int p3), .val (.int p4), .val (.int p5), .val (.int p6), .val (.int (5 : Int32)), .unset, .unset, .unset] [(.ref a142), (.ref a142)])) rfl (by rw [hml]; rfl) (Steps.refl _) (a := a142) (argsL := []) (rest := [(.ref a142)]) (lenOf pd_2 rfl) rfl (by show 2 * 0 + _ ≤ _; exact Nat.le_of_eq rfl) (hb hby at_14) (fun _ _ => ⟨rfl, e142, (by decide : 1 + 1 ≤ _), (by decide : 2 + 4 ≤ _)⟩)
    dsimp only [Pt.U, Pt.locs, Pt.cells, Pt.slots] at X146 l146 y146 z146 st146 hQ146
    subst l146 y146 z146
    obtain ⟨ar_146, kc_146, rfl, pp146, N146, Kc146, gc146_ar, Ec146_a1, Ec146_ar, Fc146_0, Fc146_1, Ac146_ar⟩ := hQ146
    have n147 : a142 ≠ ar_146 := Nat.ne_of_lt (Nat.lt_of_lt_of_le A142.lt gc146_ar)
    have frar_146 : n0 ≤ ar_146 := Nat.le_trans Z143 gc146_ar
    have Z148 : n0 ≤ T146.heap.size := Nat.le_trans Z143 Kc146.1
    have N146a := Fr.app N0 N146
    refine own_via st146 ?_
    show own_Go p e below (Q0 Z p1 p2 p3 p4 p5 p6 h0 n0) (own_Fr s room_1.cells room_1.slots) (T146.setTop (mkF m 17 #[.val (.int p1), .val (.int p2), .val (.int p3), .val (.int p4), .val (.int p5), .val (.int p6), .val (.int (5 : Int32)), .unset, .unset, .unset] [(.ref a142)]))
    refine own_astore (pc' := 19) X146 hx #[.val (.int p1), .val (.int p2), .val (.int p3), .val (.int p4), .val (.int p5), .val (.int p6), .val (.int (5 : Int32)), .val (.ref a142), .unset, .unset] rfl rfl (hb hby at_17) rfl ?_
    refine own_iload (pc' := 21) X146 hx rfl (hb hby at_19) rfl ?_
    refine own_ifNo (pc' := 24) X146 hx (by decide) (hb hby at_21) rfl ?_
    refine own_aload (pc' := 26) X146 hx rfl rfl (hb hby at_24) rfl ?_
    refine own_iloadN (pc' := 27) X146 hx rfl (hb hby at_26) rfl ?_
    obtain ⟨cq149, kq149, q149a, q149b, q149c⟩ := isOf hZ rfl Ec146_a1
    obtain ⟨_, _, ⟨T149, L149, k149, n149⟩, -, X149, ⟨Lc149, hQ149, l149, y149, z149⟩, st149⟩ := X146.virtualBack hx (y := (⟨"com/example/libpundit/libpundit/core/IntList", "add", "(I)V"⟩ : MethodName)) (z := (⟨"com/example/libpundit/libpundit/core/IntList", "add", "(I)V"⟩ : MethodName)) hown (mvT hZ (hw _ (List.mem_of_getElem? (i := 13) rfl))) (mvT hZ (hw _ (List.mem_of_getElem? (i := 14) rfl))) (notFace_of_selects (args := #[]) (mvT hZ (hw _ (List.mem_of_getElem? (i := 16) rfl)))) (mvT hZ (hw _ (List.mem_of_getElem? (i := 16) rfl))) (mvT hZ (hw _ (List.mem_of_getElem? (i := 15) rfl))) (by decide) (backOf (W := 0) (rma0 l Z a0 hw [] a142 p1 ar_146 kc_146 T146.heap n0 Z148 Ec146_a1 Ec146_ar Fc146_0 Fc146_1 Ac146_ar fr142 frar_146 n147) hZ (hw _ (List.mem_of_getElem? (i := 17) rfl)) (hw _ (List.mem_of_getElem? (i := 3) rfl)) (by decide) (by decide)) q149a q149c (g := (mkF m 27 #[.val (.int p1), .val (.int p2), .val (.int p3), .val (.int p4), .val (.int p5), .val (.int p6), .val (.int (5 : Int32)), .val (.ref a142), .unset, .unset] [(.int p1), (.ref a142)])) rfl (by rw [hml]; rfl) (Steps.refl _) (argsL := [(.int p1)]) (rest := []) (lenOf pd_3 rfl) rfl (by show 2 * 0 + _ ≤ _; exact Nat.le_of_eq rfl) (hb hby at_27) (fun _ _ => ⟨rfl, rfl, (by decide : 2 + 0 ≤ _), (by decide : 6 + 0 ≤ _)⟩)
    dsimp only [Pt.U, Pt.locs, Pt.cells, Pt.slots] at X149 l149 y149 z149 st149 hQ149
    subst l149 y149 z149
    obtain ⟨rfl, pp149, N149, Kc149, Ec149_a1, Ec149_ar, Fc149_0, Fc149_1, Ac149_ar⟩ := hQ149
    have Z150 : n0 ≤ T149.heap.size := Nat.le_trans Z148 Kc149.1
    have N149a := Fr.app N146a N149
    refine own_via st149 ?_
    show own_Go p e below (Q0 Z p1 p2 p3 p4 p5 p6 h0 n0) (own_Fr s room_1.cells room_1.slots) (T149.setTop (mkF m 30 #[.val (.int p1), .val (.int p2), .val (.int p3), .val (.int p4), .val (.int p5), .val (.int p6), .val (.int (5 : Int32)), .val (.ref a142), .unset, .unset] []))
    refine own_iload (pc' := 32) X149 hx rfl (hb hby at_30) rfl ?_
    refine own_iconst (pc' := 33) X149 hx (1 : Int32) (by decide) (hb hby at_32) rfl ?_
    refine own_icmpNo (pc' := 36) X149 hx (by decide) (hb hby at_33) rfl ?_
    refine own_aload (pc' := 38) X149 hx rfl rfl (hb hby at_36) rfl ?_
    refine own_iloadN (pc' := 39) X149 hx rfl (hb hby at_38) rfl ?_
    obtain ⟨cq151, kq151, q151a, q151b, q151c⟩ := isOf hZ rfl Ec149_a1
    obtain ⟨_, _, ⟨T151, L151, k151, n151⟩, -, X151, ⟨Lc151, hQ151, l151, y151, z151⟩, st151⟩ := X149.virtualBack hx (y := (⟨"com/example/libpundit/libpundit/core/IntList", "add", "(I)V"⟩ : MethodName)) (z := (⟨"com/example/libpundit/libpundit/core/IntList", "add", "(I)V"⟩ : MethodName)) hown (mvT hZ (hw _ (List.mem_of_getElem? (i := 13) rfl))) (mvT hZ (hw _ (List.mem_of_getElem? (i := 14) rfl))) (notFace_of_selects (args := #[]) (mvT hZ (hw _ (List.mem_of_getElem? (i := 16) rfl)))) (mvT hZ (hw _ (List.mem_of_getElem? (i := 16) rfl))) (mvT hZ (hw _ (List.mem_of_getElem? (i := 15) rfl))) (by decide) (backOf (W := 0) (rma1 l Z a0 hw [] a142 p2 ar_146 kc_146 p1 T149.heap n0 Z150 Ec149_a1 Ec149_ar Fc149_0 Fc149_1 Ac149_ar fr142 frar_146 n147) hZ (hw _ (List.mem_of_getElem? (i := 17) rfl)) (hw _ (List.mem_of_getElem? (i := 3) rfl)) (by decide) (by decide)) q151a q151c (g := (mkF m 39 #[.val (.int p1), .val (.int p2), .val (.int p3), .val (.int p4), .val (.int p5), .val (.int p6), .val (.int (5 : Int32)), .val (.ref a142), .unset, .unset] [(.int p2), (.ref a142)])) rfl (by rw [hml]; rfl) (Steps.refl _) (argsL := [(.int p2)]) (rest := []) (lenOf pd_3 rfl) rfl (by show 2 * 0 + _ ≤ _; exact Nat.le_of_eq rfl) (hb hby at_39) (fun _ _ => ⟨rfl, rfl, (by decide : 2 + 0 ≤ _), (by decide : 6 + 0 ≤ _)⟩)
    dsimp only [Pt.U, Pt.locs, Pt.cells, Pt.slots] at X151 l151 y151 z151 st151 hQ151
    subst l151 y151 z151
    obtain ⟨rfl, pp151, N151, Kc151, Ec151_a1, Ec151_ar, Fc151_0, Fc151_1, Ac151_ar⟩ := hQ151
    have Z152 : n0 ≤ T151.heap.size := Nat.le_trans Z150 Kc151.1
    have N151a := Fr.app N149a N151
    refine own_via st151 ?_
    show own_Go p e below (Q0 Z p1 p2 p3 p4 p5 p6 h0 n0) (own_Fr s room_1.cells room_1.slots) (T151.setTop (mkF m 42 #[.val (.int p1), .val (.int p2), .val (.int p3), .val (.int p4), .val (.int p5), .val (.int p6), .val (.int (5 : Int32)), .val (.ref a142), .unset, .unset] []))
    refine own_iload (pc' := 44) X151 hx rfl (hb hby at_42) rfl ?_
    refine own_iconst (pc' := 45) X151 hx (2 : Int32) (by decide) (hb hby at_44) rfl ?_
    refine own_icmpNo (pc' := 48) X151 hx (by decide) (hb hby at_45) rfl ?_
    refine own_aload (pc' := 50) X151 hx rfl rfl (hb hby at_48) rfl ?_
    refine own_iloadN (pc' := 51) X151 hx rfl (hb hby at_50) rfl ?_
    obtain ⟨cq153, kq153, q153a, q153b, q153c⟩ := isOf hZ rfl Ec151_a1
    obtain ⟨_, _, ⟨T153, L153, k153, n153⟩, -, X153, ⟨Lc153, hQ153, l153, y153, z153⟩, st153⟩ := X151.virtualBack hx (y := (⟨"com/example/libpundit/libpundit/core/IntList", "add", "(I)V"⟩ : MethodName)) (z := (⟨"com/example/libpundit/libpundit/core/IntList", "add", "(I)V"⟩ : MethodName)) hown (mvT hZ (hw _ (List.mem_of_getElem? (i := 13) rfl))) (mvT hZ (hw _ (List.mem_of_getElem? (i := 14) rfl))) (notFace_of_selects (args := #[]) (mvT hZ (hw _ (List.mem_of_getElem? (i := 16) rfl)))) (mvT hZ (hw _ (List.mem_of_getElem? (i := 16) rfl))) (mvT hZ (hw _ (List.mem_of_getElem? (i := 15) rfl))) (by decide) (backOf (W := 0) (rma2 l Z a0 hw [] a142 p3 ar_146 kc_146 p1 p2 T151.heap n0 Z152 Ec151_a1 Ec151_ar Fc151_0 Fc151_1 Ac151_ar fr142 frar_146 n147) hZ (hw _ (List.mem_of_getElem? (i := 17) rfl)) (hw _ (List.mem_of_getElem? (i := 3) rfl)) (by decide) (by decide)) q153a q153c (g := (mkF m 51 #[.val (.int p1), .val (.int p2), .val (.int p3), .val (.int p4), .val (.int p5), .val (.int p6), .val (.int (5 : Int32)), .val (.ref a142), .unset, .unset] [(.int p3), (.ref a142)])) rfl (by rw [hml]; rfl) (Steps.refl _) (argsL := [(.int p3)]) (rest := []) (lenOf pd_3 rfl) rfl (by show 2 * 0 + _ ≤ _; exact Nat.le_of_eq rfl) (hb hby at_51) (fun _ _ => ⟨rfl, rfl, (by decide : 2 + 0 ≤ _), (by decide : 6 + 0 ≤ _)⟩)
    dsimp only [Pt.U, Pt.locs, Pt.cells, Pt.slots] at X153 l153 y153 z153 st153 hQ153
    subst l153 y153 z153
    obtain ⟨rfl, pp153, N153, Kc153, Ec153_a1, Ec153_ar, Fc153_0, Fc153_1, Ac153_ar⟩ := hQ153
    have Z154 : n0 ≤ T153.heap.size := Nat.le_trans Z152 Kc153.1
    have N153a := Fr.app N151a N153
    refine own_via st153 ?_
    show own_Go p e below (Q0 Z p1 p2 p3 p4 p5 p6 h0 n0) (own_Fr s room_1.cells room_1.slots) (T153.setTop (mkF m 54 #[.val (.int p1), .val (.int p2), .val (.int p3), .val (.int p4), .val (.int p5), .val (.int p6), .val (.int (5 : Int32)), .val (.ref a142), .unset, .unset] []))
    refine own_iload (pc' := 56) X153 hx rfl (hb hby at_54) rfl ?_
    refine own_iconst (pc' := 57) X153 hx (3 : Int32) (by decide) (hb hby at_56) rfl ?_
    refine own_icmpNo (pc' := 60) X153 hx (by decide) (hb hby at_57) rfl ?_
    refine own_aload (pc' := 62) X153 hx rfl rfl (hb hby at_60) rfl ?_
    refine own_iloadN (pc' := 63) X153 hx rfl (hb hby at_62) rfl ?_
    obtain ⟨cq155, kq155, q155a, q155b, q155c⟩ := isOf hZ rfl Ec153_a1
    obtain ⟨_, _, ⟨T155, L155, k155, n155⟩, -, X155, ⟨Lc155, hQ155, l155, y155, z155⟩, st155⟩ := X153.virtualBack hx (y := (⟨"com/example/libpundit/libpundit/core/IntList", "add", "(I)V"⟩ : MethodName)) (z := (⟨"com/example/libpundit/libpundit/core/IntList", "add", "(I)V"⟩ : MethodName)) hown (mvT hZ (hw _ (List.mem_of_getElem? (i := 13) rfl))) (mvT hZ (hw _ (List.mem_of_getElem? (i := 14) rfl))) (notFace_of_selects (args := #[]) (mvT hZ (hw _ (List.mem_of_getElem? (i := 16) rfl)))) (mvT hZ (hw _ (List.mem_of_getElem? (i := 16) rfl))) (mvT hZ (hw _ (List.mem_of_getElem? (i := 15) rfl))) (by decide) (backOf (W := 0) (rma3 l Z a0 hw [] a142 p4 ar_146 kc_146 p1 p2 p3 T153.heap n0 Z154 Ec153_a1 Ec153_ar Fc153_0 Fc153_1 Ac153_ar fr142 frar_146 n147) hZ (hw _ (List.mem_of_getElem? (i := 17) rfl)) (hw _ (List.mem_of_getElem? (i := 3) rfl)) (by decide) (by decide)) q155a q155c (g := (mkF m 63 #[.val (.int p1), .val (.int p2), .val (.int p3), .val (.int p4), .val (.int p5), .val (.int p6), .val (.int (5 : Int32)), .val (.ref a142), .unset, .unset] [(.int p4), (.ref a142)])) rfl (by rw [hml]; rfl) (Steps.refl _) (argsL := [(.int p4)]) (rest := []) (lenOf pd_3 rfl) rfl (by show 2 * 0 + _ ≤ _; exact Nat.le_of_eq rfl) (hb hby at_63) (fun _ _ => ⟨rfl, rfl, (by decide : 2 + 0 ≤ _), (by decide : 6 + 0 ≤ _)⟩)
    dsimp only [Pt.U, Pt.locs, Pt.cells, Pt.slots] at X155 l155 y155 z155 st155 hQ155
    subst l155 y155 z155
    obtain ⟨rfl, pp155, N155, Kc155, Ec155_a1, Ec155_ar, Fc155_0, Fc155_1, Ac155_ar⟩ := hQ155
    have Z156 : n0 ≤ T155.heap.size := Nat.le_trans Z154 Kc155.1
    have N155a := Fr.app N153a N155
    refine own_via st155 ?_
    show own_Go p e below (Q0 Z p1 p2 p3 p4 p5 p6 h0 n0) (own_Fr s room_1.cells room_1.slots) (T155.setTop (mkF m 66 #[.val (.int p1), .val (.int p2), .val (.int p3), .val (.int p4), .val (.int p5), .val (.int p6), .val (.int (5 : Int32)), .val (.ref a142), .unset, .unset] []))
    refine own_iload (pc' := 68) X155 hx rfl (hb hby at_66) rfl ?_
    refine own_iconst (pc' := 69) X155 hx (4 : Int32) (by decide) (hb hby at_68) rfl ?_
    refine own_icmpNo (pc' := 72) X155 hx (by decide) (hb hby at_69) rfl ?_
    refine own_aload (pc' := 74) X155 hx rfl rfl (hb hby at_72) rfl ?_
    refine own_iload (pc' := 76) X155 hx rfl (hb hby at_74) rfl ?_
    obtain ⟨cq157, kq157, q157a, q157b, q157c⟩ := isOf hZ rfl Ec155_a1
    obtain ⟨_, _, ⟨T157, L157, k157, n157⟩, -, X157, ⟨Lc157, hQ157, l157, y157, z157⟩, st157⟩ := X155.virtualBack hx (y := (⟨"com/example/libpundit/libpundit/core/IntList", "add", "(I)V"⟩ : MethodName)) (z := (⟨"com/example/libpundit/libpundit/core/IntList", "add", "(I)V"⟩ : MethodName)) hown (mvT hZ (hw _ (List.mem_of_getElem? (i := 13) rfl))) (mvT hZ (hw _ (List.mem_of_getElem? (i := 14) rfl))) (notFace_of_selects (args := #[]) (mvT hZ (hw _ (List.mem_of_getElem? (i := 16) rfl)))) (mvT hZ (hw _ (List.mem_of_getElem? (i := 16) rfl))) (mvT hZ (hw _ (List.mem_of_getElem? (i := 15) rfl))) (by decide) (backOf (W := 0) (rma4 l Z a0 hw [] a142 p5 ar_146 kc_146 p1 p2 p3 p4 T155.heap n0 Z156 Ec155_a1 Ec155_ar Fc155_0 Fc155_1 Ac155_ar fr142 n147) hZ (hw _ (List.mem_of_getElem? (i := 17) rfl)) (hw _ (List.mem_of_getElem? (i := 3) rfl)) (by decide) (by decide)) q157a q157c (g := (mkF m 76 #[.val (.int p1), .val (.int p2), .val (.int p3), .val (.int p4), .val (.int p5), .val (.int p6), .val (.int (5 : Int32)), .val (.ref a142), .unset, .unset] [(.int p5), (.ref a142)])) rfl (by rw [hml]; rfl) (Steps.refl _) (argsL := [(.int p5)]) (rest := []) (lenOf pd_3 rfl) rfl (by show 2 * 0 + _ ≤ _; exact Nat.le_of_eq rfl) (hb hby at_76) (fun _ _ => ⟨rfl, rfl, (by decide : 2 + 1 ≤ _), (by decide : 6 + 8 ≤ _)⟩)
    dsimp only [Pt.U, Pt.locs, Pt.cells, Pt.slots] at X157 l157 y157 z157 st157 hQ157
    subst l157 y157 z157
    obtain ⟨q_157, kd_157, rfl, pp157, N157, Kc157, gc157_q, Ec157_a1, Ec157_q, Fc157_0, Fc157_1, Ac157_q⟩ := hQ157
    have n158 : a142 ≠ q_157 := Nat.ne_of_lt (Nat.lt_of_lt_of_le Ec155_a1.lt gc157_q)
    have n159 : ar_146 ≠ q_157 := Nat.ne_of_lt (Nat.lt_of_lt_of_le Ec155_ar.lt gc157_q)
    have frq_157 : n0 ≤ q_157 := Nat.le_trans Z156 gc157_q
    have E160 : Exa Z T157.heap ar_146 "[I" := Ec155_ar.keep Kc157
    have A161 : Arv Z T157.heap ar_146 kc_146 .int (4 : Int32) [(.int p1), (.int p2), (.int p3), (.int p4)] (.int (0 : Int32)) := Ac155_ar.keep Kc157 (ninS (Ne.symm n147) nin0)
    have Z162 : n0 ≤ T157.heap.size := Nat.le_trans Z156 Kc157.1
    have N157a := Fr.app N155a N157
    refine own_via st157 ?_
    show own_Go p e below (Q0 Z p1 p2 p3 p4 p5 p6 h0 n0) (own_Fr s room_1.cells room_1.slots) (T157.setTop (mkF m 79 #[.val (.int p1), .val (.int p2), .val (.int p3), .val (.int p4), .val (.int p5), .val (.int p6), .val (.int (5 : Int32)), .val (.ref a142), .unset, .unset] []))
    refine own_aload (pc' := 81) X157 hx rfl rfl (hb hby at_79) rfl ?_
    obtain ⟨cq163, kq163, q163a, q163b, q163c⟩ := isOf hZ rfl Ec157_a1
    obtain ⟨_, _, ⟨T163, L163, k163, n163⟩, -, X163, ⟨Lc163, hQ163, l163, y163, z163⟩, st163⟩ := X157.virtualBack hx (y := (⟨"com/example/libpundit/libpundit/core/IntList", "toArray", "()[I"⟩ : MethodName)) (z := (⟨"com/example/libpundit/libpundit/core/IntList", "toArray", "()[I"⟩ : MethodName)) hown (mvT hZ (hw _ (List.mem_of_getElem? (i := 20) rfl))) (mvT hZ (hw _ (List.mem_of_getElem? (i := 21) rfl))) (notFace_of_selects (args := #[]) (mvT hZ (hw _ (List.mem_of_getElem? (i := 23) rfl)))) (mvT hZ (hw _ (List.mem_of_getElem? (i := 23) rfl))) (mvT hZ (hw _ (List.mem_of_getElem? (i := 22) rfl))) (by decide) (backOf (W := 0) (rmt5 l Z a0 hw [] a142 q_157 kd_157 p1 p2 p3 p4 p5 T157.heap n0 Z162 Ec157_q Fc157_0 Fc157_1 Ac157_q) hZ (hw _ (List.mem_of_getElem? (i := 24) rfl)) (hw _ (List.mem_of_getElem? (i := 3) rfl)) (by decide) (by decide)) q163a q163c (g := (mkF m 81 #[.val (.int p1), .val (.int p2), .val (.int p3), .val (.int p4), .val (.int p5), .val (.int p6), .val (.int (5 : Int32)), .val (.ref a142), .unset, .unset] [(.ref a142)])) rfl (by rw [hml]; rfl) (Steps.refl _) (argsL := []) (rest := []) (lenOf pd_4 rfl) rfl (by show 2 * 0 + _ ≤ _; exact Nat.le_of_eq rfl) (hb hby at_81) (fun _ _ => ⟨rfl, rfl, (by decide : 3 + 1 ≤ _), (by decide : 14 + 5 ≤ _)⟩)
    dsimp only [Pt.U, Pt.locs, Pt.cells, Pt.slots] at X163 l163 y163 z163 st163 hQ163
    subst l163 y163 z163
    obtain ⟨q_163, kd_163, rfl, pp163, N163, Kc163, gc163_q, Ec163_q, Ac163_q⟩ := hQ163
    have n164 : ar_146 ≠ q_163 := Nat.ne_of_lt (Nat.lt_of_lt_of_le E160.lt gc163_q)
    have n165 : a142 ≠ q_163 := Nat.ne_of_lt (Nat.lt_of_lt_of_le Ec157_a1.lt gc163_q)
    have n166 : q_157 ≠ q_163 := Nat.ne_of_lt (Nat.lt_of_lt_of_le Ec157_q.lt gc163_q)
    have frq_163 : n0 ≤ q_163 := Nat.le_trans Z162 gc163_q
    have F167 : Fld Z T163.heap a142 "com/example/libpundit/libpundit/core/IntList" "values" "[I" (.ref q_157) := Fc157_0.keep Kc163 nin0
    have F168 : Fld Z T163.heap a142 "com/example/libpundit/libpundit/core/IntList" "size" "I" (.int (5 : Int32)) := Fc157_1.keep Kc163 nin0
    have E169 : Exa Z T163.heap ar_146 "[I" := E160.keep Kc163
    have E170 : Exa Z T163.heap a142 "com/example/libpundit/libpundit/core/IntList" := Ec157_a1.keep Kc163
    have E171 : Exa Z T163.heap q_157 "[I" := Ec157_q.keep Kc163
    have A172 : Arv Z T163.heap ar_146 kc_146 .int (4 : Int32) [(.int p1), (.int p2), (.int p3), (.int p4)] (.int (0 : Int32)) := A161.keep Kc163 nin0
    have A173 : Arv Z T163.heap q_157 kd_157 .int (8 : Int32) [(.int p1), (.int p2), (.int p3), (.int p4), (.int p5), (.int (0 : Int32)), (.int (0 : Int32)), (.int (0 : Int32))] (.int (0 : Int32)) := Ac157_q.keep Kc163 nin0
    have Z174 : n0 ≤ T163.heap.size := Nat.le_trans Z162 Kc163.1
    have N163a := Fr.app N157a N163
    refine own_via st163 ?_
    show own_Go p e below (Q0 Z p1 p2 p3 p4 p5 p6 h0 n0) (own_Fr s room_1.cells room_1.slots) (T163.setTop (mkF m 84 #[.val (.int p1), .val (.int p2), .val (.int p3), .val (.int p4), .val (.int p5), .val (.int p6), .val (.int (5 : Int32)), .val (.ref a142), .unset, .unset] [(.ref q_163)]))
    refine own_astore (pc' := 86) X163 hx #[.val (.int p1), .val (.int p2), .val (.int p3), .val (.int p4), .val (.int p5), .val (.int p6), .val (.int (5 : Int32)), .val (.ref a142), .val (.ref q_163), .unset] rfl rfl (hb hby at_84) rfl ?_
    refine own_aload (pc' := 88) X163 hx rfl rfl (hb hby at_86) rfl ?_
    obtain ⟨cq175, kq175, q175a, q175b, q175c⟩ := isOf hZ rfl E170
    obtain ⟨_, _, ⟨T175, L175, k175, n175⟩, -, X175, ⟨Lc175, hQ175, l175, y175, z175⟩, st175⟩ := X163.virtualBack hx (y := (⟨"com/example/libpundit/libpundit/core/IntList", "size", "()I"⟩ : MethodName)) (z := (⟨"com/example/libpundit/libpundit/core/IntList", "size", "()I"⟩ : MethodName)) hown (mvT hZ (hw _ (List.mem_of_getElem? (i := 37) rfl))) (mvT hZ (hw _ (List.mem_of_getElem? (i := 38) rfl))) (notFace_of_selects (args := #[]) (mvT hZ (hw _ (List.mem_of_getElem? (i := 40) rfl)))) (mvT hZ (hw _ (List.mem_of_getElem? (i := 40) rfl))) (mvT hZ (hw _ (List.mem_of_getElem? (i := 39) rfl))) (by decide) (backOf (W := 0) (rmz5 l Z a0 hw [] a142 T163.heap n0 Z174 F168) hZ (hw _ (List.mem_of_getElem? (i := 41) rfl)) (hw _ (List.mem_of_getElem? (i := 3) rfl)) (by decide) (by decide)) q175a q175c (g := (mkF m 88 #[.val (.int p1), .val (.int p2), .val (.int p3), .val (.int p4), .val (.int p5), .val (.int p6), .val (.int (5 : Int32)), .val (.ref a142), .val (.ref q_163), .unset] [(.ref a142)])) rfl (by rw [hml]; rfl) (Steps.refl _) (argsL := []) (rest := []) (lenOf pd_5 rfl) rfl (by show 2 * 0 + _ ≤ _; exact Nat.le_of_eq rfl) (hb hby at_88) (fun _ _ => ⟨rfl, rfl, (by decide : 4 + 0 ≤ _), (by decide : 19 + 0 ≤ _)⟩)
    dsimp only [Pt.U, Pt.locs, Pt.cells, Pt.slots] at X175 l175 y175 z175 st175 hQ175
    subst l175 y175 z175
    obtain ⟨rfl, pp175, N175, e175⟩ := hQ175
    have N175a := Fr.app N163a N175
    refine own_via st175 ?_
    show own_Go p e below (Q0 Z p1 p2 p3 p4 p5 p6 h0 n0) (own_Fr s room_1.cells room_1.slots) (T175.setTop (mkF m 91 #[.val (.int p1), .val (.int p2), .val (.int p3), .val (.int p4), .val (.int p5), .val (.int p6), .val (.int (5 : Int32)), .val (.ref a142), .val (.ref q_163), .unset] [(.int (5 : Int32))]))
    refine own_iload (pc' := 93) X175 hx rfl (hb hby at_91) rfl ?_
    refine own_icmpYes (pc' := 98) X175 hx (hb hby at_93) (by decide) (by decide) (by decide) ?_
    refine own_aload (pc' := 100) X175 hx rfl rfl (hb hby at_98) rfl ?_
    obtain ⟨c176, B176, q176, s176, u176, H176, G176⟩ := id Ac163_q
    refine own_by (X175.arraylength hx (by rw [e175]; exact B176.1) (State.isArrayOf_alike hZ.alike B176.2.1) (g := (mkF m 100 #[.val (.int p1), .val (.int p2), .val (.int p3), .val (.int p4), .val (.int p5), .val (.int p6), .val (.int (5 : Int32)), .val (.ref a142), .val (.ref q_163), .unset] [(.ref q_163)])) rfl rfl (hb hby at_100)) ?_
    rw [len_of s176 u176]
    show own_Go p e below (Q0 Z p1 p2 p3 p4 p5 p6 h0 n0) (own_Fr s room_1.cells room_1.slots) (T175.setTop (mkF m 101 #[.val (.int p1), .val (.int p2), .val (.int p3), .val (.int p4), .val (.int p5), .val (.int p6), .val (.int (5 : Int32)), .val (.ref a142), .val (.ref q_163), .unset] [(.int (5 : Int32))]))
    refine own_iload (pc' := 103) X175 hx rfl (hb hby at_101) rfl ?_
    refine own_icmpYes (pc' := 108) X175 hx (hb hby at_103) (by decide) (by decide) (by decide) ?_
    refine own_iconst (pc' := 109) X175 hx (1 : Int32) (by decide) (hb hby at_108) rfl ?_
    refine own_istore (pc' := 111) X175 hx #[.val (.int p1), .val (.int p2), .val (.int p3), .val (.int p4), .val (.int p5), .val (.int p6), .val (.int (5 : Int32)), .val (.ref a142), .val (.ref q_163), .val (.int (1 : Int32))] rfl (hb hby at_109) rfl ?_
    refine own_iload (pc' := 113) X175 hx rfl (hb hby at_111) rfl ?_
    refine own_ifNo (pc' := 116) X175 hx (by decide) (hb hby at_113) rfl ?_
    refine own_iload (pc' := 118) X175 hx rfl (hb hby at_116) rfl ?_
    refine own_ifNo (pc' := 121) X175 hx (by decide) (hb hby at_118) rfl ?_
    refine own_aload (pc' := 123) X175 hx rfl rfl (hb hby at_121) rfl ?_
    refine own_iconst (pc' := 124) X175 hx (0 : Int32) (by decide) (hb hby at_123) rfl ?_
    obtain ⟨c177, B177, q177, s177, u177, H177, G177⟩ := id Ac163_q
    have i177 := inb_of s177 (j := (0 : Int32)) (by decide)
    refine own_by (X175.iaload hx (j := (0 : Int32)) (v := (.int p1)) (by rw [e175]; exact B177.1) (State.isArrayOf_alike hZ.alike B177.2.1) B177.2.2 i177 (H177.at i177 rfl) (g := (mkF m 124 #[.val (.int p1), .val (.int p2), .val (.int p3), .val (.int p4), .val (.int p5), .val (.int p6), .val (.int (5 : Int32)), .val (.ref a142), .val (.ref q_163), .val (.int (1 : Int32))] [(.int (0 : Int32)), (.ref q_163)])) rfl rfl (hb hby at_124)) ?_
    show own_Go p e below (Q0 Z p1 p2 p3 p4 p5 p6 h0 n0) (own_Fr s room_1.cells room_1.slots) (T175.setTop (mkF m 125 #[.val (.int p1), .val (.int p2), .val (.int p3), .val (.int p4), .val (.int p5), .val (.int p6), .val (.int (5 : Int32)), .val (.ref a142), .val (.ref q_163), .val (.int (1 : Int32))] [(.int p1)]))
    refine own_iloadN (pc' := 126) X175 hx rfl (hb hby at_125) rfl ?_
    have b178 : p1.toInt = p1.toInt := by omega
    refine own_icmpNo (pc' := 129) X175 hx (own_no_ne rfl rfl b178) (hb hby at_126) rfl ?_
    refine own_iconst (pc' := 130) X175 hx (1 : Int32) (by decide) (hb hby at_129) rfl ?_
    refine own_goto (pc' := 134) X175 hx (hb hby at_130) (by decide) (by decide) ?_
    refine own_istore (pc' := 136) X175 hx #[.val (.int p1), .val (.int p2), .val (.int p3), .val (.int p4), .val (.int p5), .val (.int p6), .val (.int (5 : Int32)), .val (.ref a142), .val (.ref q_163), .val (.int (1 : Int32))] rfl (hb hby at_134) rfl ?_
    refine own_iload (pc' := 138) X175 hx rfl (hb hby at_136) rfl ?_
    refine own_iconst (pc' := 139) X175 hx (1 : Int32) (by decide) (hb hby at_138) rfl ?_
    refine own_icmpNo (pc' := 142) X175 hx (by decide) (hb hby at_139) rfl ?_
    refine own_iload (pc' := 144) X175 hx rfl (hb hby at_142) rfl ?_
    refine own_ifNo (pc' := 147) X175 hx (by decide) (hb hby at_144) rfl ?_
    refine own_aload (pc' := 149) X175 hx rfl rfl (hb hby at_147) rfl ?_
    refine own_iconst (pc' := 150) X175 hx (1 : Int32) (by decide) (hb hby at_149) rfl ?_
    obtain ⟨c179, B179, q179, s179, u179, H179, G179⟩ := id Ac163_q
    have i179 := inb_of s179 (j := (1 : Int32)) (by decide)
    refine own_by (X175.iaload hx (j := (1 : Int32)) (v := (.int p2)) (by rw [e175]; exact B179.1) (State.isArrayOf_alike hZ.alike B179.2.1) B179.2.2 i179 (H179.at i179 rfl) (g := (mkF m 150 #[.val (.int p1), .val (.int p2), .val (.int p3), .val (.int p4), .val (.int p5), .val (.int p6), .val (.int (5 : Int32)), .val (.ref a142), .val (.ref q_163), .val (.int (1 : Int32))] [(.int (1 : Int32)), (.ref q_163)])) rfl rfl (hb hby at_150)) ?_
    show own_Go p e below (Q0 Z p1 p2 p3 p4 p5 p6 h0 n0) (own_Fr s room_1.cells room_1.slots) (T175.setTop (mkF m 151 #[.val (.int p1), .val (.int p2), .val (.int p3), .val (.int p4), .val (.int p5), .val (.int p6), .val (.int (5 : Int32)), .val (.ref a142), .val (.ref q_163), .val (.int (1 : Int32))] [(.int p2)]))
    refine own_iloadN (pc' := 152) X175 hx rfl (hb hby at_151) rfl ?_
    have b180 : p2.toInt = p2.toInt := by omega
    refine own_icmpNo (pc' := 155) X175 hx (own_no_ne rfl rfl b180) (hb hby at_152) rfl ?_
    refine own_iconst (pc' := 156) X175 hx (1 : Int32) (by decide) (hb hby at_155) rfl ?_
    refine own_goto (pc' := 160) X175 hx (hb hby at_156) (by decide) (by decide) ?_
    refine own_istore (pc' := 162) X175 hx #[.val (.int p1), .val (.int p2), .val (.int p3), .val (.int p4), .val (.int p5), .val (.int p6), .val (.int (5 : Int32)), .val (.ref a142), .val (.ref q_163), .val (.int (1 : Int32))] rfl (hb hby at_160) rfl ?_
    refine own_iload (pc' := 164) X175 hx rfl (hb hby at_162) rfl ?_
    refine own_iconst (pc' := 165) X175 hx (2 : Int32) (by decide) (hb hby at_164) rfl ?_
    refine own_icmpNo (pc' := 168) X175 hx (by decide) (hb hby at_165) rfl ?_
    refine own_iload (pc' := 170) X175 hx rfl (hb hby at_168) rfl ?_
    refine own_ifNo (pc' := 173) X175 hx (by decide) (hb hby at_170) rfl ?_
    refine own_aload (pc' := 175) X175 hx rfl rfl (hb hby at_173) rfl ?_
    refine own_iconst (pc' := 176) X175 hx (2 : Int32) (by decide) (hb hby at_175) rfl ?_
    obtain ⟨c181, B181, q181, s181, u181, H181, G181⟩ := id Ac163_q
    have i181 := inb_of s181 (j := (2 : Int32)) (by decide)
    refine own_by (X175.iaload hx (j := (2 : Int32)) (v := (.int p3)) (by rw [e175]; exact B181.1) (State.isArrayOf_alike hZ.alike B181.2.1) B181.2.2 i181 (H181.at i181 rfl) (g := (mkF m 176 #[.val (.int p1), .val (.int p2), .val (.int p3), .val (.int p4), .val (.int p5), .val (.int p6), .val (.int (5 : Int32)), .val (.ref a142), .val (.ref q_163), .val (.int (1 : Int32))] [(.int (2 : Int32)), (.ref q_163)])) rfl rfl (hb hby at_176)) ?_
    show own_Go p e below (Q0 Z p1 p2 p3 p4 p5 p6 h0 n0) (own_Fr s room_1.cells room_1.slots) (T175.setTop (mkF m 177 #[.val (.int p1), .val (.int p2), .val (.int p3), .val (.int p4), .val (.int p5), .val (.int p6), .val (.int (5 : Int32)), .val (.ref a142), .val (.ref q_163), .val (.int (1 : Int32))] [(.int p3)]))
    refine own_iloadN (pc' := 178) X175 hx rfl (hb hby at_177) rfl ?_
    have b182 : p3.toInt = p3.toInt := by omega
    refine own_icmpNo (pc' := 181) X175 hx (own_no_ne rfl rfl b182) (hb hby at_178) rfl ?_
    refine own_iconst (pc' := 182) X175 hx (1 : Int32) (by decide) (hb hby at_181) rfl ?_
    refine own_goto (pc' := 186) X175 hx (hb hby at_182) (by decide) (by decide) ?_
    refine own_istore (pc' := 188) X175 hx #[.val (.int p1), .val (.int p2), .val (.int p3), .val (.int p4), .val (.int p5), .val (.int p6), .val (.int (5 : Int32)), .val (.ref a142), .val (.ref q_163), .val (.int (1 : Int32))] rfl (hb hby at_186) rfl ?_
    refine own_iload (pc' := 190) X175 hx rfl (hb hby at_188) rfl ?_
    refine own_iconst (pc' := 191) X175 hx (3 : Int32) (by decide) (hb hby at_190) rfl ?_
    refine own_icmpNo (pc' := 194) X175 hx (by decide) (hb hby at_191) rfl ?_
    refine own_iload (pc' := 196) X175 hx rfl (hb hby at_194) rfl ?_
    refine own_ifNo (pc' := 199) X175 hx (by decide) (hb hby at_196) rfl ?_
    refine own_aload (pc' := 201) X175 hx rfl rfl (hb hby at_199) rfl ?_
    refine own_iconst (pc' := 202) X175 hx (3 : Int32) (by decide) (hb hby at_201) rfl ?_
    obtain ⟨c183, B183, q183, s183, u183, H183, G183⟩ := id Ac163_q
    have i183 := inb_of s183 (j := (3 : Int32)) (by decide)
    refine own_by (X175.iaload hx (j := (3 : Int32)) (v := (.int p4)) (by rw [e175]; exact B183.1) (State.isArrayOf_alike hZ.alike B183.2.1) B183.2.2 i183 (H183.at i183 rfl) (g := (mkF m 202 #[.val (.int p1), .val (.int p2), .val (.int p3), .val (.int p4), .val (.int p5), .val (.int p6), .val (.int (5 : Int32)), .val (.ref a142), .val (.ref q_163), .val (.int (1 : Int32))] [(.int (3 : Int32)), (.ref q_163)])) rfl rfl (hb hby at_202)) ?_
    show own_Go p e below (Q0 Z p1 p2 p3 p4 p5 p6 h0 n0) (own_Fr s room_1.cells room_1.slots) (T175.setTop (mkF m 203 #[.val (.int p1), .val (.int p2), .val (.int p3), .val (.int p4), .val (.int p5), .val (.int p6), .val (.int (5 : Int32)), .val (.ref a142), .val (.ref q_163), .val (.int (1 : Int32))] [(.int p4)]))
    refine own_iloadN (pc' := 204) X175 hx rfl (hb hby at_203) rfl ?_
    have b184 : p4.toInt = p4.toInt := by omega
    refine own_icmpNo (pc' := 207) X175 hx (own_no_ne rfl rfl b184) (hb hby at_204) rfl ?_
    refine own_iconst (pc' := 208) X175 hx (1 : Int32) (by decide) (hb hby at_207) rfl ?_
    refine own_goto (pc' := 212) X175 hx (hb hby at_208) (by decide) (by decide) ?_
    refine own_istore (pc' := 214) X175 hx #[.val (.int p1), .val (.int p2), .val (.int p3), .val (.int p4), .val (.int p5), .val (.int p6), .val (.int (5 : Int32)), .val (.ref a142), .val (.ref q_163), .val (.int (1 : Int32))] rfl (hb hby at_212) rfl ?_
    refine own_iload (pc' := 216) X175 hx rfl (hb hby at_214) rfl ?_
    refine own_iconst (pc' := 217) X175 hx (4 : Int32) (by decide) (hb hby at_216) rfl ?_
    refine own_icmpNo (pc' := 220) X175 hx (by decide) (hb hby at_217) rfl ?_
    refine own_iload (pc' := 222) X175 hx rfl (hb hby at_220) rfl ?_
    refine own_ifNo (pc' := 225) X175 hx (by decide) (hb hby at_222) rfl ?_
    refine own_aload (pc' := 227) X175 hx rfl rfl (hb hby at_225) rfl ?_
    refine own_iconst (pc' := 228) X175 hx (4 : Int32) (by decide) (hb hby at_227) rfl ?_
    obtain ⟨c185, B185, q185, s185, u185, H185, G185⟩ := id Ac163_q
    have i185 := inb_of s185 (j := (4 : Int32)) (by decide)
    refine own_by (X175.iaload hx (j := (4 : Int32)) (v := (.int p5)) (by rw [e175]; exact B185.1) (State.isArrayOf_alike hZ.alike B185.2.1) B185.2.2 i185 (H185.at i185 rfl) (g := (mkF m 228 #[.val (.int p1), .val (.int p2), .val (.int p3), .val (.int p4), .val (.int p5), .val (.int p6), .val (.int (5 : Int32)), .val (.ref a142), .val (.ref q_163), .val (.int (1 : Int32))] [(.int (4 : Int32)), (.ref q_163)])) rfl rfl (hb hby at_228)) ?_
    show own_Go p e below (Q0 Z p1 p2 p3 p4 p5 p6 h0 n0) (own_Fr s room_1.cells room_1.slots) (T175.setTop (mkF m 229 #[.val (.int p1), .val (.int p2), .val (.int p3), .val (.int p4), .val (.int p5), .val (.int p6), .val (.int (5 : Int32)), .val (.ref a142), .val (.ref q_163), .val (.int (1 : Int32))] [(.int p5)]))
    refine own_iload (pc' := 231) X175 hx rfl (hb hby at_229) rfl ?_
    have b186 : p5.toInt = p5.toInt := by omega
    refine own_icmpNo (pc' := 234) X175 hx (own_no_ne rfl rfl b186) (hb hby at_231) rfl ?_
    refine own_iconst (pc' := 235) X175 hx (1 : Int32) (by decide) (hb hby at_234) rfl ?_
    refine own_goto (pc' := 239) X175 hx (hb hby at_235) (by decide) (by decide) ?_
    refine own_istore (pc' := 241) X175 hx #[.val (.int p1), .val (.int p2), .val (.int p3), .val (.int p4), .val (.int p5), .val (.int p6), .val (.int (5 : Int32)), .val (.ref a142), .val (.ref q_163), .val (.int (1 : Int32))] rfl (hb hby at_239) rfl ?_
    refine own_iload (pc' := 243) X175 hx rfl (hb hby at_241) rfl ?_
    refine own_ret X175 hx Bd.returns Bd.notSynchronized (Or.inl ⟨rfl, by simp, _, rfl⟩) (hb hby at_243) rfl (by decide) (by decide) ?_
    show Q0 Z p1 p2 p3 p4 p5 p6 h0 n0 _ T175.heap _
    rw [e175]
    exact ⟨rfl, N175a⟩
set_option maxRecDepth 65536 in
set_option maxHeartbeats 40000000 in
theorem comes_1 {Post : Tables → Env → Array Value → State → Outcome → State → Prop} (hpost : ∀ tb e args s v u, (limb_1_1.after args s (.returned v) u = true ∧ limb_1_2.after args s (.returned v) u = true ∧ True) → FrameEnd s (.returned v) u (Jvm.fieldLocs frame_1_writes args s ++ Jvm.arrayLocs frame_1_arrays args s ++ Jvm.staticLocs frame_1_statics s) 16 128 → Post tb e args s (.returned v) u) :
    ArmFor flags0 classFile x code maxLocals ret World_1 tables_1 room_1 Calls_1 rest_1 Pre_1 Post := by
  intro l hfl _ _ p e ha hc hk s m args below hf hA hF happ hP
  obtain ⟨hcalls, hrest, hpre⟩ := hP
  obtain ⟨-, -, -, hnamed, -, -, -, hat⟩ := (Spec.applies_iff hf).mp happ
  obtain ⟨hg, hn⟩ := and_e (Cond.before_iff.mp (show (Jvm.Cond.and given_1 narrow_1).before args s = true from hpre))
  obtain ⟨g0, gr0⟩ := and_e hg
  obtain ⟨g1, gr1⟩ := and_e gr0
  obtain ⟨g2, gr2⟩ := and_e gr1
  obtain ⟨g3, gr3⟩ := and_e gr2
  obtain ⟨g4, gr4⟩ := and_e gr3
  obtain ⟨g5, gr5⟩ := and_e gr4
  obtain ⟨w0, w1, w2, w3, w4, w5, rfl⟩ : ∃ w0 w1 w2 w3 w4 w5 : Value, args = #[w0, w1, w2, w3, w4, w5] := by
    have hs : args.size = 6 := by simpa [Cond.value, given_1] using g0
    obtain ⟨L⟩ := args
    match L, hs with
    | [w0, w1, w2, w3, w4, w5], _ => exact ⟨w0, w1, w2, w3, w4, w5, rfl⟩
  have hw := fun d (hd : d ∈ tables_1) => atoms_spec (ws := Jvm.Cond.code x code maxLocals ret :: tables_1) hat d (List.mem_cons_of_mem _ hd)
  obtain ⟨i0, ev0⟩ := is_v g1
  obtain rfl : w0 = (.int i0) := Option.some.inj ev0
  obtain ⟨i1, ev1⟩ := is_v g2
  obtain rfl : w1 = (.int i1) := Option.some.inj ev1
  obtain ⟨i2, ev2⟩ := is_v g3
  obtain rfl : w2 = (.int i2) := Option.some.inj ev2
  obtain ⟨i3, ev3⟩ := is_v g4
  obtain rfl : w3 = (.int i3) := Option.some.inj ev3
  obtain ⟨i4, ev4⟩ := is_v g5
  obtain rfl : w4 = (.int i4) := Option.some.inj ev4
  obtain ⟨i5, ev5⟩ := is_v gr5
  obtain rfl : w5 = (.int i5) := Option.some.inj ev5
  obtain ⟨n, o, h1, h2, h3, _, L, rfl, ⟨rfl, N⟩, hq⟩ := rm0 l s _ hw tables_1 i0 i1 i2 i3 i4 i5  s.heap s.heap.size (Nat.le_refl _)  p e ha hc hk s m _ below hf ((Spec.applies_iff_loose hf).mp happ).1 ⟨rfl, State.Warmed39.refl s, rfl⟩ trivial
  refine ⟨n, _, h1, h2, h3, hpost _ _ _ _ _ _ ⟨Cond.after_iff.mpr rfl, Cond.after_iff.mpr (eq_i res_at (Term.int_eval (1)) rfl), trivial⟩ ⟨hq.1, hq.2.1, (hq.2.2.sift fun y hy => Or.inr (N y hy)).mono (by decide) (by decide)⟩⟩
theorem main_1_1 : Claimed_1_1 := comes_1 fun _ _ _ _ _ _ h hF => ⟨h.1, hF⟩
theorem main_1_2 : Claimed_1_2 := comes_1 fun _ _ _ _ _ _ h hF => ⟨h.2.1, hF⟩
end Jvm.Pilot.@@N@@
namespace Jvm.Pilot.@@N@@
open Jvm Jvm.ClassFile Sem Op Lib Jvm.Free Jvm.Stand Jvm.Pilot.@@N@@.Jvm.D
/-! MADE BY PROGRAM (witnessworld.py) out of the Statement's table words and the real class files: 12 classes; the members and pool entries that the words name. The judged class is class 1, her method 1. -/
namespace start1
open Jvm.ClassFile
def u (s : String) : CpInfo := .utf8 (stringToUtf16 s)
/-- a pool by its gaps: so many unusable entries, then the entry; so many at the end -/
def gap : Nat → List CpInfo → List CpInfo
  | 0, r => r
  | n + 1, r => .unusable :: gap n r
def poolList (es : List (Nat × CpInfo)) (last : Nat) : List CpInfo := es.foldr (fun e r => gap e.1 (e.2 :: r)) (gap last [])
def pool (es : List (Nat × CpInfo)) (last : Nat) : Array CpInfo := ⟨poolList es last⟩
def fileOf (pool : Array CpInfo) (this : Nat) (attrs : Array Attribute := #[]) (ms : Array MethodInfo := #[]) (fl : Nat := 33) (sup : Nat := 0) (ifs : Array Nat := #[]) (fds : Array FieldInfo := #[]) : ClassFile where
  minorVersion := 0
  majorVersion := 65
  constantPool := pool
  accessFlags := fl
  thisClass := this
  superClass := sup
  interfaces := ifs
  fields := fds
  methods := ms
  attributes := attrs
def plain (name : String) (sup : Option ClassId) : Class where
  name := name
  kind := .ordinary
  loader := none
  accessFlags := 33
  super := sup
  interfaces := #[]
  cf := none
  fields := #[]
  methods := #[]
  instanceTypes := #[]
  staticTypes := #[]
  resolved := #[]
  callSites := []
  init := .initialized
  statics := none
  mirror := none

def pool0 : Array CpInfo := pool [(5, u "<init>"), (0, u "()V"), (1, .class_ 10), (1, u "java/lang/Object"), (85, u "clone"), (0, u "()Ljava/lang/Object;")] 26

def k0c0 : Code := { maxStack := 0, maxLocals := 1, code := object_method_1_code, exceptionTable := #[], attributes := #[] }
def k0m0 : Method := { name := "<init>", desc := "()V", sig := { parameters := [], returnType := none }, accessFlags := 1, code := some k0c0 }
def k0m1 : Method := { name := "clone", desc := "()Ljava/lang/Object;", sig := { parameters := [], returnType := some (.object "java/lang/Object") }, accessFlags := 260, code := none }
/-- java/lang/Object -/
def k0 : Class := { plain "java/lang/Object" none with
  accessFlags := 33
  interfaces := #[]
  cf := some (fileOf pool0 8 #[] #[{ accessFlags := 1, nameIndex := 5, descriptorIndex := 6, attributes := #[] }, { accessFlags := 260, nameIndex := 96, descriptorIndex := 97, attributes := #[] }] 33 0 #[] #[])
  fields := #[]
  methods := #[k0m0, k0m1]
  instanceTypes := #[]
  staticTypes := #[]
  resolved := Array.replicate 124 none
  statics := none }

def pool1 : Array CpInfo := pool [(2, .class_ 4), (0, .nameAndType 5 6), (0, u "java/lang/Object"), (0, u "<init>"), (0, u "()V"), (0, .integer 2147483647), (0, .class_ 9), (0, u "com/example/libpundit/libpundit/core/IntList"), (0, .methodref 8 3), (0, .methodref 8 12), (0, .nameAndType 13 14), (0, u "add"), (0, u "(I)V"), (0, .methodref 8 16), (0, .nameAndType 17 18), (0, u "toArray"), (0, u "()[I"), (0, .methodref 8 20), (0, .nameAndType 21 22), (0, u "size"), (0, u "()I"), (0, .class_ 24), (0, u "com/example/libpundit/libpundit/core/IntListAddPinLaw"), (2, u "law"), (0, u "(IIIIII)Z")] 5

def k1m0 : Method := { name := "<init>", desc := "()V", sig := { parameters := [], returnType := none }, accessFlags := 1, code := none }
def k1c1 : Code := { maxStack := 2, maxLocals := 10, code := code, exceptionTable := #[], attributes := #[] }
def k1m1 : Method := { name := "law", desc := "(IIIIII)Z", sig := { parameters := [.int, .int, .int, .int, .int, .int], returnType := some .boolean }, accessFlags := 9, code := some k1c1 }
/-- com/example/libpundit/libpundit/core/IntListAddPinLaw -/
def k1 : Class := { plain "com/example/libpundit/libpundit/core/IntListAddPinLaw" (some 0) with
  accessFlags := 49
  interfaces := #[]
  cf := some (fileOf pool1 23 #[] #[{ accessFlags := 1, nameIndex := 5, descriptorIndex := 6, attributes := #[] }, { accessFlags := 9, nameIndex := 27, descriptorIndex := 28, attributes := #[] }] 49 2 #[] #[])
  fields := #[]
  methods := #[k1m0, k1m1]
  instanceTypes := #[]
  staticTypes := #[]
  resolved := Array.replicate 34 none
  statics := none }

def pool2 : Array CpInfo := pool [(1, .methodref 2 3), (0, .class_ 4), (0, .nameAndType 5 6), (0, u "java/lang/Object"), (0, u "<init>"), (0, u "()V"), (0, .fieldref 8 9), (0, .class_ 10), (0, .nameAndType 11 12), (0, u "com/example/libpundit/libpundit/core/IntList"), (0, u "values"), (0, u "[I"), (0, .fieldref 8 14), (0, .nameAndType 15 16), (0, u "size"), (0, u "I"), (0, .methodref 18 19), (0, .class_ 20), (0, .nameAndType 21 22), (0, u "java/util/Arrays"), (0, u "copyOf"), (0, u "([II)[I"), (8, u "add"), (0, u "(I)V"), (1, u "()I"), (2, u "toArray"), (0, u "()[I")] 2

def k2c0 : Code := { maxStack := 2, maxLocals := 1, code := prog_21_method_1_code, exceptionTable := #[], attributes := #[] }
def k2m0 : Method := { name := "<init>", desc := "()V", sig := { parameters := [], returnType := none }, accessFlags := 0, code := some k2c0 }
def k2c1 : Code := { maxStack := 5, maxLocals := 2, code := prog_21_method_2_code, exceptionTable := #[], attributes := #[] }
def k2m1 : Method := { name := "add", desc := "(I)V", sig := { parameters := [.int], returnType := none }, accessFlags := 0, code := some k2c1 }
def k2c2 : Code := { maxStack := 1, maxLocals := 1, code := prog_21_method_3_code, exceptionTable := #[], attributes := #[] }
def k2m2 : Method := { name := "size", desc := "()I", sig := { parameters := [], returnType := some .int }, accessFlags := 0, code := some k2c2 }
def k2c3 : Code := { maxStack := 2, maxLocals := 1, code := prog_21_method_5_code, exceptionTable := #[], attributes := #[] }
def k2m3 : Method := { name := "toArray", desc := "()[I", sig := { parameters := [], returnType := some (.array .int) }, accessFlags := 0, code := some k2c3 }
/-- com/example/libpundit/libpundit/core/IntList -/
def k2 : Class := { plain "com/example/libpundit/libpundit/core/IntList" (some 0) with
  accessFlags := 48
  interfaces := #[]
  cf := some (fileOf pool2 8 #[] #[{ accessFlags := 0, nameIndex := 5, descriptorIndex := 6, attributes := #[] }, { accessFlags := 0, nameIndex := 31, descriptorIndex := 32, attributes := #[] }, { accessFlags := 0, nameIndex := 15, descriptorIndex := 34, attributes := #[] }, { accessFlags := 0, nameIndex := 37, descriptorIndex := 38, attributes := #[] }] 48 2 #[] #[{ accessFlags := 2, nameIndex := 11, descriptorIndex := 12, attributes := #[] }, { accessFlags := 2, nameIndex := 15, descriptorIndex := 16, attributes := #[] }])
  fields := #[{ name := "values", type := (.array .int), accessFlags := 2, slot := 0, constantValue := 0 }, { name := "size", type := .int, accessFlags := 2, slot := 1, constantValue := 0 }]
  methods := #[k2m0, k2m1, k2m2, k2m3]
  instanceTypes := #[(.array .int), .int]
  staticTypes := #[]
  resolved := Array.replicate 41 none
  statics := none }

def pool3 : Array CpInfo := pool [(2, .class_ 4), (1, u "java/lang/Object"), (0, u "<init>"), (0, u "()V"), (7, .class_ 16), (1, u "java/util/Arrays"), (57, .class_ 76), (1, u "java/util/Arrays$NaturalOrder"), (32, u "()Ljava/lang/Object;"), (3, .class_ 115), (1, u "java/util/Arrays$LegacyMergeSort"), (1, u "Z"), (10, .nameAndType 129 109), (0, u "clone"), (20, .methodref 151 152), (0, .class_ 153), (0, .nameAndType 154 155), (0, u "java/lang/System"), (0, u "arraycopy"), (0, u "(Ljava/lang/Object;ILjava/lang/Object;II)V"), (146, u "copyOf"), (1, .methodref 305 306), (0, .class_ 307), (0, .nameAndType 308 309), (0, u "java/lang/Math"), (0, u "min"), (0, u "(II)I"), (6, .methodref 317 128), (0, .class_ 318), (0, u "[I"), (56, .class_ 376), (0, u "java/util/Arrays$ArrayList"), (68, u "$assertionsDisabled"), (269, u "MIN_ARRAY_SORT_GRAN"), (0, u "I"), (2, u "INSERTIONSORT_THRESHOLD"), (151, u "([II)[I"), (103, .class_ 976), (0, u "java/util/Arrays$ArrayItr")] 52

def k3m0 : Method := { name := "<init>", desc := "()V", sig := { parameters := [], returnType := none }, accessFlags := 2, code := none }
def k3c1 : Code := { maxStack := 6, maxLocals := 3, code := jdk_65_method_123_code, exceptionTable := #[], attributes := #[] }
def k3m1 : Method := { name := "copyOf", desc := "([II)[I", sig := { parameters := [(.array .int), .int], returnType := some (.array .int) }, accessFlags := 9, code := some k3c1 }
/-- java/util/Arrays -/
def k3 : Class := { plain "java/util/Arrays" (some 0) with
  accessFlags := 49
  interfaces := #[]
  cf := some (fileOf pool3 14 #[.nestMembers #[975, 375, 113, 74]] #[{ accessFlags := 2, nameIndex := 5, descriptorIndex := 6, attributes := #[] }, { accessFlags := 9, nameIndex := 302, descriptorIndex := 871, attributes := #[] }] 49 2 #[] #[{ accessFlags := 26, nameIndex := 715, descriptorIndex := 716, attributes := #[] }, { accessFlags := 26, nameIndex := 719, descriptorIndex := 716, attributes := #[] }, { accessFlags := 4120, nameIndex := 445, descriptorIndex := 117, attributes := #[] }])
  fields := #[{ name := "MIN_ARRAY_SORT_GRAN", type := .int, accessFlags := 26, slot := 0, constantValue := 0 }, { name := "INSERTIONSORT_THRESHOLD", type := .int, accessFlags := 26, slot := 1, constantValue := 0 }, { name := "$assertionsDisabled", type := .boolean, accessFlags := 4120, slot := 2, constantValue := 0 }]
  methods := #[k3m0, k3m1]
  instanceTypes := #[]
  staticTypes := #[.int, .int, .boolean]
  resolved := Array.replicate 1029 none
  statics := none }

def pool4 : Array CpInfo := pool [(1, .class_ 2), (0, u "java/lang/Math"), (1, .class_ 6), (1, u "java/lang/Object"), (0, u "<init>"), (0, u "()V"), (89, .class_ 100), (1, u "java/lang/Math$RandomNumberGeneratorHolder"), (71, u "negativeZeroFloatBits"), (0, u "J"), (2, u "negativeZeroDoubleBits"), (24, u "min"), (43, u "$assertionsDisabled"), (0, u "Z"), (88, u "(II)I"), (2, u "twoToTheDoubleScaleDown"), (0, u "D"), (4, u "twoToTheDoubleScaleUp"), (9, u "E"), (3, u "PI"), (2, u "TAU"), (2, u "DEGREES_TO_RADIANS"), (0, u "RADIANS_TO_DEGREES")] 94

def k4m0 : Method := { name := "<init>", desc := "()V", sig := { parameters := [], returnType := none }, accessFlags := 2, code := none }
def k4c1 : Code := { maxStack := 2, maxLocals := 2, code := jdk_29_method_69_code, exceptionTable := #[], attributes := #[] }
def k4m1 : Method := { name := "min", desc := "(II)I", sig := { parameters := [.int, .int], returnType := some .int }, accessFlags := 9, code := some k4c1 }
/-- java/lang/Math -/
def k4 : Class := { plain "java/lang/Math" (some 0) with
  accessFlags := 49
  interfaces := #[]
  cf := some (fileOf pool4 1 #[.nestMembers #[98]] #[{ accessFlags := 2, nameIndex := 7, descriptorIndex := 8, attributes := #[] }, { accessFlags := 9, nameIndex := 201, descriptorIndex := 335, attributes := #[] }] 49 4 #[] #[{ accessFlags := 25, nameIndex := 354, descriptorIndex := 339, attributes := #[] }, { accessFlags := 25, nameIndex := 358, descriptorIndex := 339, attributes := #[] }, { accessFlags := 25, nameIndex := 361, descriptorIndex := 339, attributes := #[] }, { accessFlags := 26, nameIndex := 364, descriptorIndex := 339, attributes := #[] }, { accessFlags := 26, nameIndex := 365, descriptorIndex := 339, attributes := #[] }, { accessFlags := 26, nameIndex := 172, descriptorIndex := 173, attributes := #[] }, { accessFlags := 26, nameIndex := 176, descriptorIndex := 173, attributes := #[] }, { accessFlags := 8, nameIndex := 344, descriptorIndex := 339, attributes := #[] }, { accessFlags := 8, nameIndex := 338, descriptorIndex := 339, attributes := #[] }, { accessFlags := 4120, nameIndex := 245, descriptorIndex := 246, attributes := #[] }])
  fields := #[{ name := "E", type := .double, accessFlags := 25, slot := 0, constantValue := 0 }, { name := "PI", type := .double, accessFlags := 25, slot := 1, constantValue := 0 }, { name := "TAU", type := .double, accessFlags := 25, slot := 2, constantValue := 0 }, { name := "DEGREES_TO_RADIANS", type := .double, accessFlags := 26, slot := 3, constantValue := 0 }, { name := "RADIANS_TO_DEGREES", type := .double, accessFlags := 26, slot := 4, constantValue := 0 }, { name := "negativeZeroFloatBits", type := .long, accessFlags := 26, slot := 5, constantValue := 0 }, { name := "negativeZeroDoubleBits", type := .long, accessFlags := 26, slot := 6, constantValue := 0 }, { name := "twoToTheDoubleScaleUp", type := .double, accessFlags := 8, slot := 7, constantValue := 0 }, { name := "twoToTheDoubleScaleDown", type := .double, accessFlags := 8, slot := 8, constantValue := 0 }, { name := "$assertionsDisabled", type := .boolean, accessFlags := 4120, slot := 9, constantValue := 0 }]
  methods := #[k4m0, k4m1]
  instanceTypes := #[]
  staticTypes := #[.double, .double, .double, .double, .double, .long, .long, .double, .double, .boolean]
  resolved := Array.replicate 460 none
  statics := none }

def pool5 : Array CpInfo := pool [(2, .class_ 4), (1, u "java/lang/Object"), (0, u "<init>"), (0, u "()V"), (1, .class_ 10), (1, u "java/lang/System"), (0, u "allowSecurityManager"), (0, u "I"), (16, u "cons"), (0, u "Ljava/io/Console;"), (77, .class_ 110), (1, u "java/lang/System$CallersHolder"), (43, u "initialErrStream"), (0, u "Ljava/io/PrintStream;"), (19, u "security"), (0, u "Ljava/lang/SecurityManager;"), (31, .class_ 209), (0, u "java/lang/System$1"), (7, u "props"), (0, u "Ljava/util/Properties;"), (2, u "lineSeparator"), (0, u "Ljava/lang/String;"), (96, .class_ 321), (1, u "java/lang/System$LoggerFinder"), (5, .class_ 328), (0, u "java/lang/System$Logger"), (67, u "err"), (2, u "out"), (91, u "notSupportedJnuEncoding"), (15, u "in"), (17, u "initialIn"), (0, u "Ljava/io/InputStream;"), (35, u "bootLayer"), (0, u "Ljava/lang/ModuleLayer;"), (99, .class_ 664), (0, u "java/lang/System$2"), (9, u "NEVER"), (2, u "MAYBE"), (49, u "arraycopy"), (0, u "(Ljava/lang/Object;ILjava/lang/Object;II)V"), (72, .class_ 802), (0, u "java/lang/System$Logger$Level")] 31

def k5m0 : Method := { name := "<init>", desc := "()V", sig := { parameters := [], returnType := none }, accessFlags := 2, code := none }
def k5m1 : Method := { name := "arraycopy", desc := "(Ljava/lang/Object;ILjava/lang/Object;II)V", sig := { parameters := [(.object "java/lang/Object"), .int, (.object "java/lang/Object"), .int, .int], returnType := none }, accessFlags := 265, code := none }
/-- java/lang/System -/
def k5 : Class := { plain "java/lang/System" (some 0) with
  accessFlags := 49
  interfaces := #[]
  cf := some (fileOf pool5 8 #[.nestMembers #[319, 327, 801, 108, 663, 208]] #[{ accessFlags := 2, nameIndex := 5, descriptorIndex := 6, attributes := #[] }, { accessFlags := 265, nameIndex := 727, descriptorIndex := 728, attributes := #[] }] 49 2 #[] #[{ accessFlags := 25, nameIndex := 507, descriptorIndex := 526, attributes := #[] }, { accessFlags := 25, nameIndex := 399, descriptorIndex := 155, attributes := #[] }, { accessFlags := 25, nameIndex := 396, descriptorIndex := 155, attributes := #[] }, { accessFlags := 10, nameIndex := 525, descriptorIndex := 526, attributes := #[] }, { accessFlags := 26, nameIndex := 674, descriptorIndex := 12, attributes := #[] }, { accessFlags := 26, nameIndex := 677, descriptorIndex := 12, attributes := #[] }, { accessFlags := 10, nameIndex := 11, descriptorIndex := 12, attributes := #[] }, { accessFlags := 74, nameIndex := 175, descriptorIndex := 176, attributes := #[] }, { accessFlags := 10, nameIndex := 491, descriptorIndex := 222, attributes := #[] }, { accessFlags := 74, nameIndex := 29, descriptorIndex := 30, attributes := #[] }, { accessFlags := 74, nameIndex := 154, descriptorIndex := 155, attributes := #[] }, { accessFlags := 10, nameIndex := 217, descriptorIndex := 218, attributes := #[] }, { accessFlags := 10, nameIndex := 221, descriptorIndex := 222, attributes := #[] }, { accessFlags := 8, nameIndex := 562, descriptorIndex := 563, attributes := #[] }])
  fields := #[{ name := "in", type := (.object "java/io/InputStream"), accessFlags := 25, slot := 0, constantValue := 0 }, { name := "out", type := (.object "java/io/PrintStream"), accessFlags := 25, slot := 1, constantValue := 0 }, { name := "err", type := (.object "java/io/PrintStream"), accessFlags := 25, slot := 2, constantValue := 0 }, { name := "initialIn", type := (.object "java/io/InputStream"), accessFlags := 10, slot := 3, constantValue := 0 }, { name := "NEVER", type := .int, accessFlags := 26, slot := 4, constantValue := 0 }, { name := "MAYBE", type := .int, accessFlags := 26, slot := 5, constantValue := 0 }, { name := "allowSecurityManager", type := .int, accessFlags := 10, slot := 6, constantValue := 0 }, { name := "security", type := (.object "java/lang/SecurityManager"), accessFlags := 74, slot := 7, constantValue := 0 }, { name := "notSupportedJnuEncoding", type := (.object "java/lang/String"), accessFlags := 10, slot := 8, constantValue := 0 }, { name := "cons", type := (.object "java/io/Console"), accessFlags := 74, slot := 9, constantValue := 0 }, { name := "initialErrStream", type := (.object "java/io/PrintStream"), accessFlags := 74, slot := 10, constantValue := 0 }, { name := "props", type := (.object "java/util/Properties"), accessFlags := 10, slot := 11, constantValue := 0 }, { name := "lineSeparator", type := (.object "java/lang/String"), accessFlags := 10, slot := 12, constantValue := 0 }, { name := "bootLayer", type := (.object "java/lang/ModuleLayer"), accessFlags := 8, slot := 13, constantValue := 0 }]
  methods := #[k5m0, k5m1]
  instanceTypes := #[]
  staticTypes := #[(.object "java/io/InputStream"), (.object "java/io/PrintStream"), (.object "java/io/PrintStream"), (.object "java/io/InputStream"), .int, .int, .int, (.object "java/lang/SecurityManager"), (.object "java/lang/String"), (.object "java/io/Console"), (.object "java/io/PrintStream"), (.object "java/util/Properties"), (.object "java/lang/String"), (.object "java/lang/ModuleLayer")]
  resolved := Array.replicate 834 none
  statics := none }

def pool6 : Array CpInfo := pool [(1, .class_ 2), (0, u "java/lang/Cloneable"), (0, .class_ 4), (0, u "java/lang/Object")] 2

/-- java/lang/Cloneable -/
def k6 : Class := { plain "java/lang/Cloneable" (some 0) with
  accessFlags := 1537
  interfaces := #[]
  cf := some (fileOf pool6 1 #[] #[] 1537 3 #[] #[])
  fields := #[]
  methods := #[]
  instanceTypes := #[]
  staticTypes := #[]
  resolved := Array.replicate 7 none
  statics := none }

def pool7 : Array CpInfo := pool [(1, u "java/io/Serializable"), (0, .class_ 1), (0, u "java/lang/Object"), (0, .class_ 3)] 3

/-- java/io/Serializable -/
def k7 : Class := { plain "java/io/Serializable" (some 0) with
  accessFlags := 1537
  interfaces := #[]
  cf := some (fileOf pool7 2 #[] #[] 1537 4 #[] #[])
  fields := #[]
  methods := #[]
  instanceTypes := #[]
  staticTypes := #[]
  resolved := Array.replicate 8 none
  statics := none }

/-- the primitive byte -/
def k8 : Class := { plain "byte" none with kind := .primitive 'B', accessFlags := 0x411 }
/-- [B -/
def k9 : Class := { plain "[B" (some 0) with kind := .array 8 .byte, interfaces := #[6, 7], accessFlags := 1041 }

/-- the primitive int -/
def k10 : Class := { plain "int" none with kind := .primitive 'I', accessFlags := 0x411 }
/-- [I -/
def k11 : Class := { plain "[I" (some 0) with kind := .array 10 .int, interfaces := #[6, 7], accessFlags := 1041 }

def heap : Heap := #[]
def classes : Array Class := #[k0, k1, k2, k3, k4, k5, k6, k7, k8, k9, k10, k11]
def interned : List (Array UInt16 × Addr) := []
def slotsUsed : Nat := 0
def theMethod : MethodId := ⟨1, 1⟩
def args0 : Array Value := #[.int 5, .int 3, .int 7, .int 1, .int 2, .int 4]
def aboutOver (below : List Frame) : State where
  vm := { classes := classes, interned := interned.toArray }
  heap := heap
  slotsUsed := slotsUsed
  threads := #[{ frames := .invoking theMethod args0 :: below }]
def below0 : List Frame := [.native { method := ⟨0, 0⟩, args := #[] }]
def about1 : State := aboutOver below0
def p0 : Program := .bare "" "" ""
def e0 : Env := launch0.env 0 0 0
theorem w_frames : about1.frames = Frame.invoking theMethod args0 :: below0 := rfl
set_option maxRecDepth 65536 in
theorem w_args : argsFit about1.vm theMethod args0 = true := by decide +kernel
set_option maxRecDepth 65536 in
theorem w_heap : heapFits about1 = true := by decide +kernel
set_option maxRecDepth 65536 in
theorem w_runnable : about1.curStatus? = some .runnable := by decide +kernel
set_option maxRecDepth 65536 in
theorem w_alone : about1.alone = true := by decide +kernel
set_option maxRecDepth 65536 in
theorem w_named : about1.methodNamed? x = some theMethod := by decide +kernel
set_option maxRecDepth 65536 in
theorem w_hears : about1.hears theMethod below0 = true := by decide +kernel
set_option maxRecDepth 65536 in
theorem w_ripe : about1.ripe theMethod args0 below0 = true := by decide +kernel
theorem w_running : about1.status = .running := rfl
set_option maxRecDepth 65536 in
theorem w_room : about1.hasRoom e0.platform room_1 = true :=
  launch0.hasRoom_least _ room_1 (by decide +kernel) (by decide +kernel) (by decide +kernel) (by decide +kernel) (by decide +kernel) (by decide +kernel)
theorem allAtoms_all (ts : List Jvm.Cond) (a : Array Jvm.Value) (st : Jvm.State) : (allAtoms ts).before a st = ts.all (fun c => c.before a st) := by
  induction ts with
  | nil => rfl
  | cons c t ih =>
    show (Jvm.Cond.and c (allAtoms t)).before a st = _
    rw [Jvm.Cond.before_and, ih, List.all_cons]
def words1 : List Jvm.Cond := Jvm.Cond.code x code maxLocals ret :: tables_1
/-- a 'code' word, met by the world's own term for the bytes: nothing is compared byte by byte -/
theorem code_word {y : MethodName} {bytes : ByteArray} {mx : Nat} {rt : Option FieldType} {a : Array Value} {s : State} {m : MethodId} {meth : Method} {c : Code} (h1 : s.methodNamed? y = some m) (h2 : s.vm.method? m = some meth) (h3 : meth.code = some c) (h4 : c.code = bytes)
    (h5 : (c.maxLocals == mx && c.exceptionTable.isEmpty && decide (c.maxStack ≤ mostOperands) && decide (meth.sig.returnType = rt) && !meth.locks && decide (parseMethodDescriptor y.desc = some meth.sig)) = true) : (Jvm.Cond.code y bytes mx rt).before a s = true := by
  simp only [Bool.and_eq_true, beq_iff_eq, Bool.not_eq_true', decide_eq_true_eq] at h5
  obtain ⟨⟨⟨⟨⟨g1, g2⟩, g3⟩, g4⟩, g5⟩, g6⟩ := h5
  simp [Cond.before, Cond.holds, Cond.value, h1, h2, h3, h4, g1, g2, g3, g4, g5, g6]
def isCode : Jvm.Cond → Bool
  | .code _ _ _ _ => true
  | _ => false
theorem all_split {L : List Jvm.Cond} {P : Jvm.Cond → Bool} (h1 : L.all (fun c => isCode c || P c) = true) (h2 : ∀ c ∈ L.filter isCode, P c = true) : L.all P = true := by
  refine List.all_eq_true.mpr fun c hc => ?_
  have h := List.all_eq_true.mp h1 c hc
  rcases Bool.eq_false_or_eq_true (isCode c) with hi | hi
  · exact h2 c (List.mem_filter.mpr ⟨hc, hi⟩)
  · simpa [hi] using h
set_option maxRecDepth 65536 in
theorem w_c0 : (Jvm.Cond.code x code maxLocals ret).before args0 about1 = true := code_word (m := ⟨1, 1⟩) (meth := k1m1) (c := k1c1) (by decide +kernel) rfl rfl rfl (by decide +kernel)
set_option maxRecDepth 65536 in
theorem w_c1 : (Jvm.Cond.code ({ cls := "com/example/libpundit/libpundit/core/IntList", name := "<init>", desc := "()V" } : Jvm.MethodName) prog_21_method_1_code (1 : Nat) (Option.none : Option Jvm.ClassFile.FieldType)).before args0 about1 = true := code_word (m := ⟨2, 0⟩) (meth := k2m0) (c := k2c0) (by decide +kernel) rfl rfl rfl (by decide +kernel)
set_option maxRecDepth 65536 in
theorem w_c2 : (Jvm.Cond.code ({ cls := "java/lang/Object", name := "<init>", desc := "()V" } : Jvm.MethodName) object_method_1_code (1 : Nat) (Option.none : Option Jvm.ClassFile.FieldType)).before args0 about1 = true := code_word (m := ⟨0, 0⟩) (meth := k0m0) (c := k0c0) (by decide +kernel) rfl rfl rfl (by decide +kernel)
set_option maxRecDepth 65536 in
theorem w_c3 : (Jvm.Cond.code ({ cls := "com/example/libpundit/libpundit/core/IntList", name := "add", desc := "(I)V" } : Jvm.MethodName) prog_21_method_2_code (2 : Nat) (Option.none : Option Jvm.ClassFile.FieldType)).before args0 about1 = true := code_word (m := ⟨2, 1⟩) (meth := k2m1) (c := k2c1) (by decide +kernel) rfl rfl rfl (by decide +kernel)
set_option maxRecDepth 65536 in
theorem w_c4 : (Jvm.Cond.code ({ cls := "com/example/libpundit/libpundit/core/IntList", name := "toArray", desc := "()[I" } : Jvm.MethodName) prog_21_method_5_code (1 : Nat) (Option.some (Jvm.ClassFile.FieldType.array Jvm.ClassFile.FieldType.int))).before args0 about1 = true := code_word (m := ⟨2, 3⟩) (meth := k2m3) (c := k2c3) (by decide +kernel) rfl rfl rfl (by decide +kernel)
set_option maxRecDepth 65536 in
theorem w_c5 : (Jvm.Cond.code ({ cls := "java/util/Arrays", name := "copyOf", desc := "([II)[I" } : Jvm.MethodName) jdk_65_method_123_code (3 : Nat) (Option.some (Jvm.ClassFile.FieldType.array Jvm.ClassFile.FieldType.int))).before args0 about1 = true := code_word (m := ⟨3, 1⟩) (meth := k3m1) (c := k3c1) (by decide +kernel) rfl rfl rfl (by decide +kernel)
set_option maxRecDepth 65536 in
theorem w_c6 : (Jvm.Cond.code ({ cls := "java/lang/Math", name := "min", desc := "(II)I" } : Jvm.MethodName) jdk_29_method_69_code (2 : Nat) (Option.some Jvm.ClassFile.FieldType.int)).before args0 about1 = true := code_word (m := ⟨4, 1⟩) (meth := k4m1) (c := k4c1) (by decide +kernel) rfl rfl rfl (by decide +kernel)
set_option maxRecDepth 65536 in
theorem w_c7 : (Jvm.Cond.code ({ cls := "com/example/libpundit/libpundit/core/IntList", name := "size", desc := "()I" } : Jvm.MethodName) prog_21_method_3_code (1 : Nat) (Option.some Jvm.ClassFile.FieldType.int)).before args0 about1 = true := code_word (m := ⟨2, 2⟩) (meth := k2m2) (c := k2c2) (by decide +kernel) rfl rfl rfl (by decide +kernel)
def codes1 : List Jvm.Cond := [Jvm.Cond.code x code maxLocals ret, Jvm.Cond.code ({ cls := "com/example/libpundit/libpundit/core/IntList", name := "<init>", desc := "()V" } : Jvm.MethodName) prog_21_method_1_code (1 : Nat) (Option.none : Option Jvm.ClassFile.FieldType), Jvm.Cond.code ({ cls := "java/lang/Object", name := "<init>", desc := "()V" } : Jvm.MethodName) object_method_1_code (1 : Nat) (Option.none : Option Jvm.ClassFile.FieldType), Jvm.Cond.code ({ cls := "com/example/libpundit/libpundit/core/IntList", name := "add", desc := "(I)V" } : Jvm.MethodName) prog_21_method_2_code (2 : Nat) (Option.none : Option Jvm.ClassFile.FieldType), Jvm.Cond.code ({ cls := "com/example/libpundit/libpundit/core/IntList", name := "toArray", desc := "()[I" } : Jvm.MethodName) prog_21_method_5_code (1 : Nat) (Option.some (Jvm.ClassFile.FieldType.array Jvm.ClassFile.FieldType.int)), Jvm.Cond.code ({ cls := "java/util/Arrays", name := "copyOf", desc := "([II)[I" } : Jvm.MethodName) jdk_65_method_123_code (3 : Nat) (Option.some (Jvm.ClassFile.FieldType.array Jvm.ClassFile.FieldType.int)), Jvm.Cond.code ({ cls := "java/lang/Math", name := "min", desc := "(II)I" } : Jvm.MethodName) jdk_29_method_69_code (2 : Nat) (Option.some Jvm.ClassFile.FieldType.int), Jvm.Cond.code ({ cls := "com/example/libpundit/libpundit/core/IntList", name := "size", desc := "()I" } : Jvm.MethodName) prog_21_method_3_code (1 : Nat) (Option.some Jvm.ClassFile.FieldType.int)]
set_option maxRecDepth 65536 in
theorem codes_eq : words1.filter isCode = codes1 := rfl
theorem w_codes : ∀ c ∈ words1.filter isCode, c.before args0 about1 = true := by
  rw [codes_eq]
  intro c hc
  simp only [codes1, List.mem_cons, List.not_mem_nil, or_false] at hc
  rcases hc with rfl | rfl | rfl | rfl | rfl | rfl | rfl | rfl
  · exact w_c0
  · exact w_c1
  · exact w_c2
  · exact w_c3
  · exact w_c4
  · exact w_c5
  · exact w_c6
  · exact w_c7
set_option maxRecDepth 65536 in
theorem w_t1 : (words1.take 24).all (fun c => isCode c || c.before args0 about1) = true := by decide +kernel
set_option maxRecDepth 65536 in
theorem w_t2 : ((words1.drop 24).take 24).all (fun c => isCode c || c.before args0 about1) = true := by decide +kernel
set_option maxRecDepth 65536 in
theorem w_t3 : ((words1.drop 24).drop 24).all (fun c => isCode c || c.before args0 about1) = true := by decide +kernel
theorem w_tables : (allAtoms (Jvm.Cond.code x code maxLocals ret :: tables_1)).before args0 about1 = true := by
  rw [allAtoms_all]
  show words1.all (fun c => c.before args0 about1) = true
  refine all_split ?_ w_codes
  rw [← List.take_append_drop 24 words1, List.all_append, w_t1, ← List.take_append_drop 24 (words1.drop 24), List.all_append, w_t2, w_t3]
  rfl
set_option maxRecDepth 65536 in
theorem w_case : (Jvm.Cond.and given_1 narrow_1).before args0 about1 = true := by decide +kernel
theorem w_applies : (headSpec (Jvm.Cond.code x code maxLocals ret :: tables_1) room_1).applies x e0.platform about1 = true :=
  (Spec.applies_iff w_frames).mpr ⟨w_running, w_runnable, w_alone, w_named, w_hears, w_ripe, w_room, w_tables⟩
theorem atStart : AtStart classFile x code maxLocals ret World_1 tables_1 room_1 Calls_1 rest_1 Pre_1 launch0 p0 e0 about1 theMethod args0 below0 :=
  ⟨lists_1, trivial, launch0.admits_env _ _ _, launch0.least_env, fairChoices_fair.cas, fairChoices_fair.clock, w_frames, w_args, w_heap, w_applies, trivial, trivial, w_case⟩
end start1
theorem witness_1 : WitnessClaimed_1 := ⟨start1.p0, start1.e0, start1.about1, start1.theMethod, start1.args0, start1.below0, start1.atStart⟩
end Jvm.Pilot.@@N@@
