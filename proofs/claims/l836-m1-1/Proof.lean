import JvmDerived
import JvmDerived.Pilot.@@N@@Statement
import JvmDerived.Pilot.@@N@@Code
set_option linter.unusedVariables false
set_option linter.unusedSimpArgs false
namespace Jvm.Pilot.@@N@@
open Jvm Jvm.ClassFile Sem Op Lib Jvm.Free Jvm.Stand Jvm.LawKit Jvm.RoadKit Bundle Jvm.Pilot.@@N@@.Jvm.D
section OwnKit
variable {p : Program} {l : Launch} {e : Env} {R : Room} {s : State} {m : MethodId} {args : Array Value} {below : List Frame} {meth : Method} {c : Code} {T : State} {locs : List Loc} {cells slots : Nat}
/-- from U the walk comes to its end, and there Q holds -/
def own_Go (p : Program) (e : Env) (below : List Frame) (Q : Option Value → Heap → List Loc → Prop) (F : List Loc → Outcome → State → Prop) (U : State) : Prop :=
  ∃ t o, Steps p.tables e below U t ∧ t.status = .running ∧ Ended t below o ∧ ∃ v L, o = .returned v ∧ Q v t.heap L ∧ F L o t
def own_Fr (s : State) (C S : Nat) (L : List Loc) (o : Outcome) (t : State) : Prop := FrameEnd s o t L C S
def own_FrW (s : State) (C S : Nat) (L : List Loc) (o : Outcome) (t : State) : Prop := ReturnedEndW s o t L C S
variable {Q : Option Value → Heap → List Loc → Prop} {F : List Loc → Outcome → State → Prop} {C S : Nat}
theorem own_by {U U' : State} (k : ∀ t, Steps p.tables e below U' t → Steps p.tables e below U t) (h : own_Go p e below Q F U') : own_Go p e below Q F U := by
  obtain ⟨t, o, h1, h2⟩ := h
  exact ⟨t, o, k t h1, h2⟩
theorem own_via {U U' : State} (k : Steps p.tables e below U U') (h : own_Go p e below Q F U') : own_Go p e below Q F U := own_by (fun _ q => k.trans q) h
theorem own_ret (X : Stand p l e R s m args below meth c T locs cells slots) (hx : p.tables.exec = Jvm.exec) {pc : Nat} {Ls : Array Slot} {w : Value} {t : FieldType} {i : Instr} {rest : List Value} (hret : meth.sig.returnType = some t) (hlocks : meth.locks = false)
    (hi : (i = .ireturn ∧ (t = .int ∨ t = .boolean ∨ t = .byte ∨ t = .char ∨ t = .short) ∧ ∃ z, w = .int z) ∨ (i = .lreturn ∧ t = .long ∧ ∃ z, w = .long z) ∨ (i = .dreturn ∧ t = .double ∧ ∃ z, w = .double z) ∨ (i = .freturn ∧ t = .float ∧ ∃ z, w = .float z) ∨ (i = .areturn ∧ t.isReference = true ∧ w.isRef = true))
    (hd : decode c.code pc = .ok (i, 1)) (hn : narrow t w = w) (hc : cells ≤ C) (hs : slots ≤ S) (hQ : Q (some w) T.heap locs) : own_Go p e below Q (own_Fr s C S) (T.setTop (mkF m pc Ls (w :: rest))) := by
  obtain ⟨fs, hr, hrun, hended, hW, hsame⟩ := X.leave (v := some w) (fun h => by rw [hret] at h; cases h) hlocks
  exact ⟨_, _, retOut X hx hret hn hi hd hr, hrun, hended, _, _, rfl, hQ, ⟨_, rfl⟩, hW, hsame.mono hc hs⟩
theorem own_ret0 (X : Stand p l e R s m args below meth c T locs cells slots) (hx : p.tables.exec = Jvm.exec) {pc : Nat} {Ls : Array Slot} {st : List Value} (hret : meth.sig.returnType = none) (hlocks : meth.locks = false)
    (hd : decode c.code pc = .ok (.return_, 1)) (hst : st = []) (hc : cells ≤ C) (hs : slots ≤ S) (hQ : Q none T.heap locs) : own_Go p e below Q (own_Fr s C S) (T.setTop (mkF m pc Ls st)) := by
  subst hst
  obtain ⟨fs, hr, hrun, hended, hW, hsame⟩ := X.leave (v := none) (fun _ => rfl) hlocks
  exact ⟨_, _, X.returnOut hx hret hd hr, hrun, hended, _, _, rfl, hQ, ⟨_, rfl⟩, hW, hsame.mono hc hs⟩
theorem own_retW {s : State} {vm₁ : Vm} {nn : Nat} (X : Stand p l e R (s.setVm vm₁) m args below meth c T locs cells slots) (hx : p.tables.exec = Jvm.exec) {pc : Nat} {Ls : Array Slot} {w : Value} {t : FieldType} {i : Instr} {rest : List Value} (hret : meth.sig.returnType = some t) (hlocks : meth.locks = false) (hS : s.Since vm₁ nn) (hk : nn ≤ T.heap.size)
    (hi : (i = .ireturn ∧ (t = .int ∨ t = .boolean ∨ t = .byte ∨ t = .char ∨ t = .short) ∧ ∃ z, w = .int z) ∨ (i = .lreturn ∧ t = .long ∧ ∃ z, w = .long z) ∨ (i = .dreturn ∧ t = .double ∧ ∃ z, w = .double z) ∨ (i = .freturn ∧ t = .float ∧ ∃ z, w = .float z) ∨ (i = .areturn ∧ t.isReference = true ∧ w.isRef = true))
    (hd : decode c.code pc = .ok (i, 1)) (hn : narrow t w = w) (hc : cells ≤ C) (hs : slots ≤ S) (hQ : Q (some w) T.heap locs) : own_Go p e below Q (own_FrW s C S) (T.setTop (mkF m pc Ls (w :: rest))) := by
  obtain ⟨fs, hr, hrun, hended, hW⟩ := X.leaveW hS hk (v := some w) (fun h => by rw [hret] at h; cases h) hlocks
  exact ⟨_, _, retOut X hx hret hn hi hd hr, hrun, hended, _, _, rfl, hQ, hW.1, hW.2.1, hW.2.2.1, hW.2.2.2.mono hc hs⟩
theorem own_nz {z : Int32} (h : z.toInt = 0 ∨ z.toInt = 1) : narrow .boolean (.int z) = .int z := by
  rcases h with h | h
  · obtain rfl : z = 0 := Int32.toInt_inj.mp h
    rfl
  · obtain rfl : z = 1 := Int32.toInt_inj.mp h
    rfl
theorem own_nb {z : Int32} (h : -128 ≤ z.toInt ∧ z.toInt < 128) : nar .byte z = z := by
  have q := c_i2b z
  exact Int32.toInt_inj.mp (by show z.toInt8.toInt32.toInt = z.toInt; omega)
theorem own_fb {z : Int32} (h : -128 ≤ z.toInt ∧ z.toInt < 128) : fits .byte (.int z) = true := by
  have q := fits_nar_byte z
  rw [show z.toInt8.toInt32 = z from own_nb h] at q
  exact q
theorem own_b01 {z : Int32} (h : z.toInt = 0 ∨ z.toInt = 1) : z = 0 ∨ z = 1 := h.imp (fun q => Int32.toInt_inj.mp q) (fun q => Int32.toInt_inj.mp q)
theorem own_nbool {z : Int32} (h : z.toInt = 0 ∨ z.toInt = 1) : nar .boolean z = z := by rcases own_b01 h with rfl | rfl <;> decide
theorem own_fbool {z : Int32} (h : z.toInt = 0 ∨ z.toInt = 1) : fits .boolean (.int z) = true := by rcases own_b01 h with rfl | rfl <;> decide
theorem own_lt {x y : Int32} : x.toInt < y.toInt ↔ x < y := Int32.lt_iff_toInt_lt.symm
theorem own_yes_lt {x y : Int32} {a b : Int} (ha : x.toInt = a) (hb : y.toInt = b) (h : a < b) : if_icmp.holds .lt x y = true := by subst ha hb; exact (tlt (own_lt.mp h)).1
theorem own_no_lt {x y : Int32} {a b : Int} (ha : x.toInt = a) (hb : y.toInt = b) (h : ¬ a < b) : if_icmp.holds .lt x y = false := by subst ha hb; exact (flt (fun q => h (own_lt.mpr q))).1
theorem own_yes_ge {x y : Int32} {a b : Int} (ha : x.toInt = a) (hb : y.toInt = b) (h : ¬ a < b) : if_icmp.holds .ge x y = true := by subst ha hb; exact (flt (fun q => h (own_lt.mpr q))).2.1
theorem own_no_ge {x y : Int32} {a b : Int} (ha : x.toInt = a) (hb : y.toInt = b) (h : a < b) : if_icmp.holds .ge x y = false := by subst ha hb; exact (tlt (own_lt.mp h)).2.1
theorem own_yes_gt {x y : Int32} {a b : Int} (ha : x.toInt = a) (hb : y.toInt = b) (h : b < a) : if_icmp.holds .gt x y = true := by subst ha hb; exact (tlt (own_lt.mp h)).2.2.1
theorem own_no_gt {x y : Int32} {a b : Int} (ha : x.toInt = a) (hb : y.toInt = b) (h : ¬ b < a) : if_icmp.holds .gt x y = false := by subst ha hb; exact (flt (fun q => h (own_lt.mpr q))).2.2.1
theorem own_yes_le {x y : Int32} {a b : Int} (ha : x.toInt = a) (hb : y.toInt = b) (h : ¬ b < a) : if_icmp.holds .le x y = true := by subst ha hb; exact (flt (fun q => h (own_lt.mpr q))).2.2.2
theorem own_no_le {x y : Int32} {a b : Int} (ha : x.toInt = a) (hb : y.toInt = b) (h : b < a) : if_icmp.holds .le x y = false := by subst ha hb; exact (tlt (own_lt.mp h)).2.2.2
theorem own_yes_eq {x y : Int32} {a b : Int} (ha : x.toInt = a) (hb : y.toInt = b) (h : a = b) : if_icmp.holds .eq x y = true := by subst ha hb; exact (teq (Int32.toInt_inj.mp h)).1
theorem own_no_eq {x y : Int32} {a b : Int} (ha : x.toInt = a) (hb : y.toInt = b) (h : ¬ a = b) : if_icmp.holds .eq x y = false := by subst ha hb; exact (feq (fun q => h (congrArg Int32.toInt q))).1
theorem own_yes_ne {x y : Int32} {a b : Int} (ha : x.toInt = a) (hb : y.toInt = b) (h : ¬ a = b) : if_icmp.holds .ne x y = true := by subst ha hb; exact (feq (fun q => h (congrArg Int32.toInt q))).2
theorem own_no_ne {x y : Int32} {a b : Int} (ha : x.toInt = a) (hb : y.toInt = b) (h : a = b) : if_icmp.holds .ne x y = false := by subst ha hb; exact (teq (Int32.toInt_inj.mp h)).2
theorem own_z {cd : ClassFile.Cond} {x : Int32} {b : Bool} (h : if_icmp.holds cd x 0 = b) : ifCond.holds cd x = b := (if0 cd x).trans h
theorem own_lcm {x y : Int64} {a b : Int} (ha : x.toInt = a) (hb : y.toInt = b) : (a < b ∧ (lcmpW x y).toInt = -1) ∨ (a = b ∧ (lcmpW x y).toInt = 0) ∨ (b < a ∧ (lcmpW x y).toInt = 1) := by
  subst ha hb
  obtain ⟨h1, h2, h3⟩ := c_lcmp x y
  omega
theorem own_ne0 {x : Int32} {a : Int} (ha : x.toInt = a) (h : ¬ a = 0) : x ≠ 0 := fun q => h (by rw [← ha, q]; rfl)
theorem own_iloadN (X : Stand p l e R s m args below meth c T locs cells slots) (hx : p.tables.exec = Jvm.exec) {pc pc' : Nat} {Ls : Array Slot} {st : List Value} {k : Fin 4} {v : Int32} (hl : Ls[k.val]? = some (.val (.int v))) (hd : decode c.code pc = .ok (.iload_n k, 1)) (hp : pc + 1 = pc') (h : own_Go p e below Q F (T.setTop (mkF m pc' Ls (.int v :: st)))) : own_Go p e below Q F (T.setTop (mkF m pc Ls st)) := by
  subst hp
  exact own_by (fun _ q => XS.iloadN X.here hx rfl hd hl q) h
theorem own_iload (X : Stand p l e R s m args below meth c T locs cells slots) (hx : p.tables.exec = Jvm.exec) {pc pc' : Nat} {Ls : Array Slot} {st : List Value} {k : Nat} {v : Int32} (hl : Ls[k]? = some (.val (.int v))) (hd : decode c.code pc = .ok (.iload k, 2)) (hp : pc + 2 = pc') (h : own_Go p e below Q F (T.setTop (mkF m pc' Ls (.int v :: st)))) : own_Go p e below Q F (T.setTop (mkF m pc Ls st)) := by
  subst hp
  exact own_by (fun _ q => XS.iload X.here hx rfl hd hl q) h
theorem own_lloadN (X : Stand p l e R s m args below meth c T locs cells slots) (hx : p.tables.exec = Jvm.exec) {pc pc' : Nat} {Ls : Array Slot} {st : List Value} {k : Fin 4} {v : Int64} (hl : Ls[k.val]? = some (.val (.long v))) (hd : decode c.code pc = .ok (.lload_n k, 1)) (hp : pc + 1 = pc') (h : own_Go p e below Q F (T.setTop (mkF m pc' Ls (.long v :: st)))) : own_Go p e below Q F (T.setTop (mkF m pc Ls st)) := by
  subst hp
  exact own_by (fun _ q => XS.lloadN X.here hx rfl hd hl q) h
theorem own_lload (X : Stand p l e R s m args below meth c T locs cells slots) (hx : p.tables.exec = Jvm.exec) {pc pc' : Nat} {Ls : Array Slot} {st : List Value} {k : Nat} {v : Int64} (hl : Ls[k]? = some (.val (.long v))) (hd : decode c.code pc = .ok (.lload k, 2)) (hp : pc + 2 = pc') (h : own_Go p e below Q F (T.setTop (mkF m pc' Ls (.long v :: st)))) : own_Go p e below Q F (T.setTop (mkF m pc Ls st)) := by
  subst hp
  exact own_by (fun _ q => XS.lload X.here hx rfl hd hl q) h
theorem own_aloadN (X : Stand p l e R s m args below meth c T locs cells slots) (hx : p.tables.exec = Jvm.exec) {pc pc' : Nat} {Ls : Array Slot} {st : List Value} {k : Fin 4} {v : Value} (hl : Ls[k.val]? = some (.val v)) (hv : v.isRef = true) (hd : decode c.code pc = .ok (.aload_n k, 1)) (hp : pc + 1 = pc') (h : own_Go p e below Q F (T.setTop (mkF m pc' Ls (v :: st)))) : own_Go p e below Q F (T.setTop (mkF m pc Ls st)) := by
  subst hp
  exact own_by (fun _ q => XS.aloadN X.here hx rfl hd hl hv q) h
theorem own_aload (X : Stand p l e R s m args below meth c T locs cells slots) (hx : p.tables.exec = Jvm.exec) {pc pc' : Nat} {Ls : Array Slot} {st : List Value} {k : Nat} {v : Value} (hl : Ls[k]? = some (.val v)) (hv : v.isRef = true) (hd : decode c.code pc = .ok (.aload k, 2)) (hp : pc + 2 = pc') (h : own_Go p e below Q F (T.setTop (mkF m pc' Ls (v :: st)))) : own_Go p e below Q F (T.setTop (mkF m pc Ls st)) := by
  subst hp
  exact own_by (fun _ q => XS.aload X.here hx rfl hd hl hv q) h
theorem own_iconst (X : Stand p l e R s m args below meth c T locs cells slots) (hx : p.tables.exec = Jvm.exec) {pc pc' : Nat} {Ls : Array Slot} {st : List Value} {i : Int} (z : Int32) (hz : Int32.ofInt i = z) (hd : decode c.code pc = .ok (.iconst i, 1)) (hp : pc + 1 = pc') (h : own_Go p e below Q F (T.setTop (mkF m pc' Ls (.int z :: st)))) : own_Go p e below Q F (T.setTop (mkF m pc Ls st)) := by
  subst hp hz
  exact own_by (fun _ q => XS.iconst X.here hx rfl hd q) h
theorem own_bipush (X : Stand p l e R s m args below meth c T locs cells slots) (hx : p.tables.exec = Jvm.exec) {pc pc' : Nat} {Ls : Array Slot} {st : List Value} {i : Int} (z : Int32) (hz : (Int8.ofInt i).toInt32 = z) (hd : decode c.code pc = .ok (.bipush i, 2)) (hp : pc + 2 = pc') (h : own_Go p e below Q F (T.setTop (mkF m pc' Ls (.int z :: st)))) : own_Go p e below Q F (T.setTop (mkF m pc Ls st)) := by
  subst hp hz
  exact own_by (fun _ q => XS.bipush X.here hx rfl hd q) h
theorem own_sipush (X : Stand p l e R s m args below meth c T locs cells slots) (hx : p.tables.exec = Jvm.exec) {pc pc' : Nat} {Ls : Array Slot} {st : List Value} {i : Int} (z : Int32) (hz : (Int16.ofInt i).toInt32 = z) (hd : decode c.code pc = .ok (.sipush i, 3)) (hp : pc + 3 = pc') (h : own_Go p e below Q F (T.setTop (mkF m pc' Ls (.int z :: st)))) : own_Go p e below Q F (T.setTop (mkF m pc Ls st)) := by
  subst hp hz
  exact own_by (fun _ q => XS.sipush X.here hx rfl hd q) h
theorem own_lconst (X : Stand p l e R s m args below meth c T locs cells slots) (hx : p.tables.exec = Jvm.exec) {pc pc' : Nat} {Ls : Array Slot} {st : List Value} {k : Fin 2} (z : Int64) (hz : Int64.ofNat k = z) (hd : decode c.code pc = .ok (.lconst k, 1)) (hp : pc + 1 = pc') (h : own_Go p e below Q F (T.setTop (mkF m pc' Ls (.long z :: st)))) : own_Go p e below Q F (T.setTop (mkF m pc Ls st)) := by
  subst hp hz
  exact own_by (fun _ q => XS.lconst X.here hx rfl hd q) h
theorem own_aconstNull (X : Stand p l e R s m args below meth c T locs cells slots) (hx : p.tables.exec = Jvm.exec) {pc pc' : Nat} {Ls : Array Slot} {st : List Value}  (hd : decode c.code pc = .ok (.aconst_null, 1)) (hp : pc + 1 = pc') (h : own_Go p e below Q F (T.setTop (mkF m pc' Ls (.null :: st)))) : own_Go p e below Q F (T.setTop (mkF m pc Ls st)) := by
  subst hp
  exact own_by (fun _ q => XS.aconstNull X.here hx rfl hd q) h
theorem own_iadd (X : Stand p l e R s m args below meth c T locs cells slots) (hx : p.tables.exec = Jvm.exec) {pc pc' : Nat} {Ls : Array Slot} {st : List Value} {x y z : Int32} (hz : x + y = z) (hd : decode c.code pc = .ok (.iadd, 1)) (hp : pc + 1 = pc') (h : own_Go p e below Q F (T.setTop (mkF m pc' Ls (.int z :: st)))) : own_Go p e below Q F (T.setTop (mkF m pc Ls (.int y :: .int x :: st))) := by
  subst hp hz
  exact own_by (fun _ q => XS.iadd X.here hx rfl hd rfl q) h
theorem own_isub (X : Stand p l e R s m args below meth c T locs cells slots) (hx : p.tables.exec = Jvm.exec) {pc pc' : Nat} {Ls : Array Slot} {st : List Value} {x y z : Int32} (hz : x - y = z) (hd : decode c.code pc = .ok (.isub, 1)) (hp : pc + 1 = pc') (h : own_Go p e below Q F (T.setTop (mkF m pc' Ls (.int z :: st)))) : own_Go p e below Q F (T.setTop (mkF m pc Ls (.int y :: .int x :: st))) := by
  subst hp hz
  exact own_by (fun _ q => XS.isub X.here hx rfl hd rfl q) h
theorem own_imul (X : Stand p l e R s m args below meth c T locs cells slots) (hx : p.tables.exec = Jvm.exec) {pc pc' : Nat} {Ls : Array Slot} {st : List Value} {x y z : Int32} (hz : x * y = z) (hd : decode c.code pc = .ok (.imul, 1)) (hp : pc + 1 = pc') (h : own_Go p e below Q F (T.setTop (mkF m pc' Ls (.int z :: st)))) : own_Go p e below Q F (T.setTop (mkF m pc Ls (.int y :: .int x :: st))) := by
  subst hp hz
  exact own_by (fun _ q => XS.imul X.here hx rfl hd rfl q) h
theorem own_iand (X : Stand p l e R s m args below meth c T locs cells slots) (hx : p.tables.exec = Jvm.exec) {pc pc' : Nat} {Ls : Array Slot} {st : List Value} {x y z : Int32} (hz : x &&& y = z) (hd : decode c.code pc = .ok (.iand, 1)) (hp : pc + 1 = pc') (h : own_Go p e below Q F (T.setTop (mkF m pc' Ls (.int z :: st)))) : own_Go p e below Q F (T.setTop (mkF m pc Ls (.int y :: .int x :: st))) := by
  subst hp hz
  exact own_by (fun _ q => XS.iand X.here hx rfl hd rfl q) h
theorem own_ior (X : Stand p l e R s m args below meth c T locs cells slots) (hx : p.tables.exec = Jvm.exec) {pc pc' : Nat} {Ls : Array Slot} {st : List Value} {x y z : Int32} (hz : x ||| y = z) (hd : decode c.code pc = .ok (.ior, 1)) (hp : pc + 1 = pc') (h : own_Go p e below Q F (T.setTop (mkF m pc' Ls (.int z :: st)))) : own_Go p e below Q F (T.setTop (mkF m pc Ls (.int y :: .int x :: st))) := by
  subst hp hz
  exact own_by (fun _ q => XS.ior X.here hx rfl hd rfl q) h
theorem own_ixor (X : Stand p l e R s m args below meth c T locs cells slots) (hx : p.tables.exec = Jvm.exec) {pc pc' : Nat} {Ls : Array Slot} {st : List Value} {x y z : Int32} (hz : x ^^^ y = z) (hd : decode c.code pc = .ok (.ixor, 1)) (hp : pc + 1 = pc') (h : own_Go p e below Q F (T.setTop (mkF m pc' Ls (.int z :: st)))) : own_Go p e below Q F (T.setTop (mkF m pc Ls (.int y :: .int x :: st))) := by
  subst hp hz
  exact own_by (fun _ q => XS.ixor X.here hx rfl hd rfl q) h
theorem own_ishl (X : Stand p l e R s m args below meth c T locs cells slots) (hx : p.tables.exec = Jvm.exec) {pc pc' : Nat} {Ls : Array Slot} {st : List Value} {x y z : Int32} (hz : x <<< (y &&& 31) = z) (hd : decode c.code pc = .ok (.ishl, 1)) (hp : pc + 1 = pc') (h : own_Go p e below Q F (T.setTop (mkF m pc' Ls (.int z :: st)))) : own_Go p e below Q F (T.setTop (mkF m pc Ls (.int y :: .int x :: st))) := by
  subst hp hz
  exact own_by (fun _ q => XS.ishl X.here hx rfl hd rfl q) h
theorem own_ishr (X : Stand p l e R s m args below meth c T locs cells slots) (hx : p.tables.exec = Jvm.exec) {pc pc' : Nat} {Ls : Array Slot} {st : List Value} {x y z : Int32} (hz : x >>> (y &&& 31) = z) (hd : decode c.code pc = .ok (.ishr, 1)) (hp : pc + 1 = pc') (h : own_Go p e below Q F (T.setTop (mkF m pc' Ls (.int z :: st)))) : own_Go p e below Q F (T.setTop (mkF m pc Ls (.int y :: .int x :: st))) := by
  subst hp hz
  exact own_by (fun _ q => XS.ishr X.here hx rfl hd rfl q) h
theorem own_iushr (X : Stand p l e R s m args below meth c T locs cells slots) (hx : p.tables.exec = Jvm.exec) {pc pc' : Nat} {Ls : Array Slot} {st : List Value} {x y z : Int32} (hz : (x.toUInt32 >>> (y &&& 31).toUInt32).toInt32 = z) (hd : decode c.code pc = .ok (.iushr, 1)) (hp : pc + 1 = pc') (h : own_Go p e below Q F (T.setTop (mkF m pc' Ls (.int z :: st)))) : own_Go p e below Q F (T.setTop (mkF m pc Ls (.int y :: .int x :: st))) := by
  subst hp hz
  exact own_by (fun _ q => XS.iushr X.here hx rfl hd rfl q) h
theorem own_idiv (X : Stand p l e R s m args below meth c T locs cells slots) (hx : p.tables.exec = Jvm.exec) {pc pc' : Nat} {Ls : Array Slot} {st : List Value} {x y z : Int32} (hy : y ≠ 0) (hz : x / y = z) (hd : decode c.code pc = .ok (.idiv, 1)) (hp : pc + 1 = pc') (h : own_Go p e below Q F (T.setTop (mkF m pc' Ls (.int z :: st)))) : own_Go p e below Q F (T.setTop (mkF m pc Ls (.int y :: .int x :: st))) := by
  subst hp hz
  exact own_by (fun _ q => XS.idiv X.here hx rfl hd rfl hy q) h
theorem own_irem (X : Stand p l e R s m args below meth c T locs cells slots) (hx : p.tables.exec = Jvm.exec) {pc pc' : Nat} {Ls : Array Slot} {st : List Value} {x y z : Int32} (hy : y ≠ 0) (hz : x % y = z) (hd : decode c.code pc = .ok (.irem, 1)) (hp : pc + 1 = pc') (h : own_Go p e below Q F (T.setTop (mkF m pc' Ls (.int z :: st)))) : own_Go p e below Q F (T.setTop (mkF m pc Ls (.int y :: .int x :: st))) := by
  subst hp hz
  exact own_by (fun _ q => iremM X hx rfl hd rfl hy q) h
theorem own_ladd (X : Stand p l e R s m args below meth c T locs cells slots) (hx : p.tables.exec = Jvm.exec) {pc pc' : Nat} {Ls : Array Slot} {st : List Value} {x y z : Int64} (hz : x + y = z) (hd : decode c.code pc = .ok (.ladd, 1)) (hp : pc + 1 = pc') (h : own_Go p e below Q F (T.setTop (mkF m pc' Ls (.long z :: st)))) : own_Go p e below Q F (T.setTop (mkF m pc Ls (.long y :: .long x :: st))) := by
  subst hp hz
  exact own_by (fun _ q => XS.ladd X.here hx rfl hd rfl q) h
theorem own_lsub (X : Stand p l e R s m args below meth c T locs cells slots) (hx : p.tables.exec = Jvm.exec) {pc pc' : Nat} {Ls : Array Slot} {st : List Value} {x y z : Int64} (hz : x - y = z) (hd : decode c.code pc = .ok (.lsub, 1)) (hp : pc + 1 = pc') (h : own_Go p e below Q F (T.setTop (mkF m pc' Ls (.long z :: st)))) : own_Go p e below Q F (T.setTop (mkF m pc Ls (.long y :: .long x :: st))) := by
  subst hp hz
  exact own_by (fun _ q => XS.lsub X.here hx rfl hd rfl q) h
theorem own_lmul (X : Stand p l e R s m args below meth c T locs cells slots) (hx : p.tables.exec = Jvm.exec) {pc pc' : Nat} {Ls : Array Slot} {st : List Value} {x y z : Int64} (hz : x * y = z) (hd : decode c.code pc = .ok (.lmul, 1)) (hp : pc + 1 = pc') (h : own_Go p e below Q F (T.setTop (mkF m pc' Ls (.long z :: st)))) : own_Go p e below Q F (T.setTop (mkF m pc Ls (.long y :: .long x :: st))) := by
  subst hp hz
  exact own_by (fun _ q => XS.lmul X.here hx rfl hd rfl q) h
theorem own_land (X : Stand p l e R s m args below meth c T locs cells slots) (hx : p.tables.exec = Jvm.exec) {pc pc' : Nat} {Ls : Array Slot} {st : List Value} {x y z : Int64} (hz : x &&& y = z) (hd : decode c.code pc = .ok (.land, 1)) (hp : pc + 1 = pc') (h : own_Go p e below Q F (T.setTop (mkF m pc' Ls (.long z :: st)))) : own_Go p e below Q F (T.setTop (mkF m pc Ls (.long y :: .long x :: st))) := by
  subst hp hz
  exact own_by (fun _ q => XS.land X.here hx rfl hd rfl q) h
theorem own_lor (X : Stand p l e R s m args below meth c T locs cells slots) (hx : p.tables.exec = Jvm.exec) {pc pc' : Nat} {Ls : Array Slot} {st : List Value} {x y z : Int64} (hz : x ||| y = z) (hd : decode c.code pc = .ok (.lor, 1)) (hp : pc + 1 = pc') (h : own_Go p e below Q F (T.setTop (mkF m pc' Ls (.long z :: st)))) : own_Go p e below Q F (T.setTop (mkF m pc Ls (.long y :: .long x :: st))) := by
  subst hp hz
  exact own_by (fun _ q => XS.lor X.here hx rfl hd rfl q) h
theorem own_lcmp (X : Stand p l e R s m args below meth c T locs cells slots) (hx : p.tables.exec = Jvm.exec) {pc pc' : Nat} {Ls : Array Slot} {st : List Value} {x y : Int64} {z : Int32} (hz : lcmpW x y = z) (hd : decode c.code pc = .ok (.lcmp, 1)) (hp : pc + 1 = pc') (h : own_Go p e below Q F (T.setTop (mkF m pc' Ls (.int z :: st)))) : own_Go p e below Q F (T.setTop (mkF m pc Ls (.long y :: .long x :: st))) := by
  subst hp hz
  exact own_by (fun _ q => XS.lcmp X.here hx rfl hd rfl q) h
theorem own_ineg (X : Stand p l e R s m args below meth c T locs cells slots) (hx : p.tables.exec = Jvm.exec) {pc pc' : Nat} {Ls : Array Slot} {st : List Value} {x z : Int32} (hz : -x = z) (hd : decode c.code pc = .ok (.ineg, 1)) (hp : pc + 1 = pc') (h : own_Go p e below Q F (T.setTop (mkF m pc' Ls (.int z :: st)))) : own_Go p e below Q F (T.setTop (mkF m pc Ls (.int x :: st))) := by
  subst hp hz
  exact own_by (fun _ q => XS.ineg X.here hx rfl hd rfl q) h
theorem own_i2l (X : Stand p l e R s m args below meth c T locs cells slots) (hx : p.tables.exec = Jvm.exec) {pc pc' : Nat} {Ls : Array Slot} {st : List Value} {x : Int32} {z : Int64} (hz : x.toInt64 = z) (hd : decode c.code pc = .ok (.i2l, 1)) (hp : pc + 1 = pc') (h : own_Go p e below Q F (T.setTop (mkF m pc' Ls (.long z :: st)))) : own_Go p e below Q F (T.setTop (mkF m pc Ls (.int x :: st))) := by
  subst hp hz
  exact own_by (fun _ q => XS.i2l X.here hx rfl hd rfl q) h
theorem own_l2i (X : Stand p l e R s m args below meth c T locs cells slots) (hx : p.tables.exec = Jvm.exec) {pc pc' : Nat} {Ls : Array Slot} {st : List Value} {x : Int64} {z : Int32} (hz : x.toInt32 = z) (hd : decode c.code pc = .ok (.l2i, 1)) (hp : pc + 1 = pc') (h : own_Go p e below Q F (T.setTop (mkF m pc' Ls (.int z :: st)))) : own_Go p e below Q F (T.setTop (mkF m pc Ls (.long x :: st))) := by
  subst hp hz
  exact own_by (fun _ q => XS.l2i X.here hx rfl hd rfl q) h
theorem own_i2b (X : Stand p l e R s m args below meth c T locs cells slots) (hx : p.tables.exec = Jvm.exec) {pc pc' : Nat} {Ls : Array Slot} {st : List Value} {x z : Int32} (hz : x.toInt8.toInt32 = z) (hd : decode c.code pc = .ok (.i2b, 1)) (hp : pc + 1 = pc') (h : own_Go p e below Q F (T.setTop (mkF m pc' Ls (.int z :: st)))) : own_Go p e below Q F (T.setTop (mkF m pc Ls (.int x :: st))) := by
  subst hp hz
  exact own_by (fun _ q => XS.i2b X.here hx rfl hd rfl q) h
theorem own_i2c (X : Stand p l e R s m args below meth c T locs cells slots) (hx : p.tables.exec = Jvm.exec) {pc pc' : Nat} {Ls : Array Slot} {st : List Value} {x z : Int32} (hz : x.toUInt32.toUInt16.toUInt32.toInt32 = z) (hd : decode c.code pc = .ok (.i2c, 1)) (hp : pc + 1 = pc') (h : own_Go p e below Q F (T.setTop (mkF m pc' Ls (.int z :: st)))) : own_Go p e below Q F (T.setTop (mkF m pc Ls (.int x :: st))) := by
  subst hp hz
  exact own_by (fun _ q => XS.i2c X.here hx rfl hd rfl q) h
theorem own_i2s (X : Stand p l e R s m args below meth c T locs cells slots) (hx : p.tables.exec = Jvm.exec) {pc pc' : Nat} {Ls : Array Slot} {st : List Value} {x z : Int32} (hz : x.toInt16.toInt32 = z) (hd : decode c.code pc = .ok (.i2s, 1)) (hp : pc + 1 = pc') (h : own_Go p e below Q F (T.setTop (mkF m pc' Ls (.int z :: st)))) : own_Go p e below Q F (T.setTop (mkF m pc Ls (.int x :: st))) := by
  subst hp hz
  exact own_by (fun _ q => XS.i2s X.here hx rfl hd rfl q) h
theorem own_dup (X : Stand p l e R s m args below meth c T locs cells slots) (hx : p.tables.exec = Jvm.exec) {pc pc' : Nat} {Ls : Array Slot} {st : List Value} {x : Value} (hc : x.category = 1) (hd : decode c.code pc = .ok (.dup, 1)) (hp : pc + 1 = pc') (h : own_Go p e below Q F (T.setTop (mkF m pc' Ls (x :: x :: st)))) : own_Go p e below Q F (T.setTop (mkF m pc Ls (x :: st))) := by
  subst hp
  exact own_by (fun _ q => XS.dup X.here hx rfl hd rfl hc q) h
theorem own_dupX1 (X : Stand p l e R s m args below meth c T locs cells slots) (hx : p.tables.exec = Jvm.exec) {pc pc' : Nat} {Ls : Array Slot} {st : List Value} {x y : Value} (hc : x.category = 1) (hc2 : y.category = 1) (hd : decode c.code pc = .ok (.dup_x1, 1)) (hp : pc + 1 = pc') (h : own_Go p e below Q F (T.setTop (mkF m pc' Ls (x :: y :: x :: st)))) : own_Go p e below Q F (T.setTop (mkF m pc Ls (x :: y :: st))) := by
  subst hp
  exact own_by (fun _ q => XS.dupX1 X.here hx rfl hd rfl hc hc2 q) h
theorem own_pop (X : Stand p l e R s m args below meth c T locs cells slots) (hx : p.tables.exec = Jvm.exec) {pc pc' : Nat} {Ls : Array Slot} {st : List Value} {x : Value} (hc : x.category = 1) (hd : decode c.code pc = .ok (.pop, 1)) (hp : pc + 1 = pc') (h : own_Go p e below Q F (T.setTop (mkF m pc' Ls st))) : own_Go p e below Q F (T.setTop (mkF m pc Ls (x :: st))) := by
  subst hp
  exact own_by (fun _ q => XS.pop X.here hx rfl hd rfl hc q) h
theorem own_istoreN (X : Stand p l e R s m args below meth c T locs cells slots) (hx : p.tables.exec = Jvm.exec) {pc pc' : Nat} {Ls : Array Slot} {st : List Value} {k : Fin 4} {x : Int32} (L' : Array Slot) (hl : storeLocals Ls k.val (.int x) = some L') (hd : decode c.code pc = .ok (.istore_n k, 1)) (hp : pc + 1 = pc') (h : own_Go p e below Q F (T.setTop (mkF m pc' L' st))) : own_Go p e below Q F (T.setTop (mkF m pc Ls (.int x :: st))) := by
  subst hp
  exact own_by (fun _ q => XS.istoreN X.here hx rfl hd rfl hl q) h
theorem own_istore (X : Stand p l e R s m args below meth c T locs cells slots) (hx : p.tables.exec = Jvm.exec) {pc pc' : Nat} {Ls : Array Slot} {st : List Value} {k : Nat} {x : Int32} (L' : Array Slot) (hl : storeLocals Ls k (.int x) = some L') (hd : decode c.code pc = .ok (.istore k, 2)) (hp : pc + 2 = pc') (h : own_Go p e below Q F (T.setTop (mkF m pc' L' st))) : own_Go p e below Q F (T.setTop (mkF m pc Ls (.int x :: st))) := by
  subst hp
  exact own_by (fun _ q => XS.istore X.here hx rfl hd rfl hl q) h
theorem own_lstoreN (X : Stand p l e R s m args below meth c T locs cells slots) (hx : p.tables.exec = Jvm.exec) {pc pc' : Nat} {Ls : Array Slot} {st : List Value} {k : Fin 4} {x : Int64} (L' : Array Slot) (hl : storeLocals Ls k.val (.long x) = some L') (hd : decode c.code pc = .ok (.lstore_n k, 1)) (hp : pc + 1 = pc') (h : own_Go p e below Q F (T.setTop (mkF m pc' L' st))) : own_Go p e below Q F (T.setTop (mkF m pc Ls (.long x :: st))) := by
  subst hp
  exact own_by (fun _ q => XS.lstoreN X.here hx rfl hd rfl hl q) h
theorem own_lstore (X : Stand p l e R s m args below meth c T locs cells slots) (hx : p.tables.exec = Jvm.exec) {pc pc' : Nat} {Ls : Array Slot} {st : List Value} {k : Nat} {x : Int64} (L' : Array Slot) (hl : storeLocals Ls k (.long x) = some L') (hd : decode c.code pc = .ok (.lstore k, 2)) (hp : pc + 2 = pc') (h : own_Go p e below Q F (T.setTop (mkF m pc' L' st))) : own_Go p e below Q F (T.setTop (mkF m pc Ls (.long x :: st))) := by
  subst hp
  exact own_by (fun _ q => XS.lstore X.here hx rfl hd rfl hl q) h
theorem own_astoreN (X : Stand p l e R s m args below meth c T locs cells slots) (hx : p.tables.exec = Jvm.exec) {pc pc' : Nat} {Ls : Array Slot} {st : List Value} {k : Fin 4} {x : Value} (L' : Array Slot) (hv : x.isRef = true) (hl : storeLocals Ls k.val x = some L') (hd : decode c.code pc = .ok (.astore_n k, 1)) (hp : pc + 1 = pc') (h : own_Go p e below Q F (T.setTop (mkF m pc' L' st))) : own_Go p e below Q F (T.setTop (mkF m pc Ls (x :: st))) := by
  subst hp
  exact own_by (fun _ q => XS.astoreN X.here hx rfl hd rfl hv hl q) h
theorem own_astore (X : Stand p l e R s m args below meth c T locs cells slots) (hx : p.tables.exec = Jvm.exec) {pc pc' : Nat} {Ls : Array Slot} {st : List Value} {k : Nat} {x : Value} (L' : Array Slot) (hv : x.isRef = true) (hl : storeLocals Ls k x = some L') (hd : decode c.code pc = .ok (.astore k, 2)) (hp : pc + 2 = pc') (h : own_Go p e below Q F (T.setTop (mkF m pc' L' st))) : own_Go p e below Q F (T.setTop (mkF m pc Ls (x :: st))) := by
  subst hp
  exact own_by (fun _ q => XS.astore X.here hx rfl hd rfl hv hl q) h
theorem own_iinc (X : Stand p l e R s m args below meth c T locs cells slots) (hx : p.tables.exec = Jvm.exec) {pc pc' : Nat} {Ls : Array Slot} {st : List Value} {k : Nat} {cst : Int} {x z : Int32} (L' : Array Slot) (hv : Ls[k]? = some (.val (.int x))) (hz : x + Int32.ofInt cst = z) (hl : storeLocals Ls k (.int z) = some L') (hd : decode c.code pc = .ok (.iinc k cst, 3)) (hp : pc + 3 = pc') (h : own_Go p e below Q F (T.setTop (mkF m pc' L' st))) : own_Go p e below Q F (T.setTop (mkF m pc Ls st)) := by
  subst hp hz
  exact own_by (fun _ q => XS.iinc X.here hx rfl hd hv hl q) h
theorem own_goto (X : Stand p l e R s m args below meth c T locs cells slots) (hx : p.tables.exec = Jvm.exec) {pc pc' : Nat} {Ls : Array Slot} {st : List Value} {o : Int}  (hd : decode c.code pc = .ok (.goto o, 3))  (ho : 0 ≤ (pc : Int) + o) (hp : ((pc : Int) + o).toNat = pc') (h : own_Go p e below Q F (T.setTop (mkF m pc' Ls st))) : own_Go p e below Q F (T.setTop (mkF m pc Ls st)) := by
  exact own_by (fun _ q => XS.goto X.here hx rfl rfl hd ho hp q) h
theorem own_ifYes (X : Stand p l e R s m args below meth c T locs cells slots) (hx : p.tables.exec = Jvm.exec) {pc pc' : Nat} {Ls : Array Slot} {st : List Value} {o : Int} {cd : ClassFile.Cond} {x : Int32} (hd : decode c.code pc = .ok (.ifCond cd o, 3)) (hc : ifCond.holds cd x = true) (ho : 0 ≤ (pc : Int) + o) (hp : ((pc : Int) + o).toNat = pc') (h : own_Go p e below Q F (T.setTop (mkF m pc' Ls st))) : own_Go p e below Q F (T.setTop (mkF m pc Ls (.int x :: st))) := by
  exact own_by (fun _ q => XS.ifYes X.here hx rfl rfl hd rfl hc ho hp q) h
theorem own_icmpYes (X : Stand p l e R s m args below meth c T locs cells slots) (hx : p.tables.exec = Jvm.exec) {pc pc' : Nat} {Ls : Array Slot} {st : List Value} {o : Int} {cd : ClassFile.Cond} {x y : Int32} (hd : decode c.code pc = .ok (.if_icmp cd o, 3)) (hc : if_icmp.holds cd x y = true) (ho : 0 ≤ (pc : Int) + o) (hp : ((pc : Int) + o).toNat = pc') (h : own_Go p e below Q F (T.setTop (mkF m pc' Ls st))) : own_Go p e below Q F (T.setTop (mkF m pc Ls (.int y :: .int x :: st))) := by
  exact own_by (fun _ q => XS.icmpYes X.here hx rfl rfl hd rfl hc ho hp q) h
theorem own_ifnullYes (X : Stand p l e R s m args below meth c T locs cells slots) (hx : p.tables.exec = Jvm.exec) {pc pc' : Nat} {Ls : Array Slot} {st : List Value} {o : Int}  (hd : decode c.code pc = .ok (.ifnull o, 3))  (ho : 0 ≤ (pc : Int) + o) (hp : ((pc : Int) + o).toNat = pc') (h : own_Go p e below Q F (T.setTop (mkF m pc' Ls st))) : own_Go p e below Q F (T.setTop (mkF m pc Ls (.null :: st))) := by
  exact own_by (fun _ q => XS.ifnullYes X.here hx rfl rfl hd rfl ho hp q) h
theorem own_ifnonnullYes (X : Stand p l e R s m args below meth c T locs cells slots) (hx : p.tables.exec = Jvm.exec) {pc pc' : Nat} {Ls : Array Slot} {st : List Value} {o : Int} {b : Addr} (hd : decode c.code pc = .ok (.ifnonnull o, 3))  (ho : 0 ≤ (pc : Int) + o) (hp : ((pc : Int) + o).toNat = pc') (h : own_Go p e below Q F (T.setTop (mkF m pc' Ls st))) : own_Go p e below Q F (T.setTop (mkF m pc Ls (.ref b :: st))) := by
  exact own_by (fun _ q => XS.ifnonnullYes X.here hx rfl rfl hd rfl ho hp q) h
theorem own_acmpYes (X : Stand p l e R s m args below meth c T locs cells slots) (hx : p.tables.exec = Jvm.exec) {pc pc' : Nat} {Ls : Array Slot} {st : List Value} {o : Int} {cd : ClassFile.ACond} {a b : Addr} (hd : decode c.code pc = .ok (.if_acmp cd o, 3)) (hc : if_acmp.holds cd (some a) (some b) = true) (ho : 0 ≤ (pc : Int) + o) (hp : ((pc : Int) + o).toNat = pc') (h : own_Go p e below Q F (T.setTop (mkF m pc' Ls st))) : own_Go p e below Q F (T.setTop (mkF m pc Ls (.ref b :: .ref a :: st))) := by
  exact own_by (fun _ q => XS.acmpYes X.here hx rfl rfl hd rfl hc ho hp q) h
theorem own_ifNo (X : Stand p l e R s m args below meth c T locs cells slots) (hx : p.tables.exec = Jvm.exec) {pc pc' : Nat} {Ls : Array Slot} {st : List Value} {cd : ClassFile.Cond} {x : Int32} {o : Int} (hc : ifCond.holds cd x = false) (hd : decode c.code pc = .ok (.ifCond cd o, 3)) (hp : pc + 3 = pc') (h : own_Go p e below Q F (T.setTop (mkF m pc' Ls st))) : own_Go p e below Q F (T.setTop (mkF m pc Ls (.int x :: st))) := by
  subst hp
  exact own_by (fun _ q => XS.ifNo X.here hx rfl hd rfl hc q) h
theorem own_icmpNo (X : Stand p l e R s m args below meth c T locs cells slots) (hx : p.tables.exec = Jvm.exec) {pc pc' : Nat} {Ls : Array Slot} {st : List Value} {cd : ClassFile.Cond} {x y : Int32} {o : Int} (hc : if_icmp.holds cd x y = false) (hd : decode c.code pc = .ok (.if_icmp cd o, 3)) (hp : pc + 3 = pc') (h : own_Go p e below Q F (T.setTop (mkF m pc' Ls st))) : own_Go p e below Q F (T.setTop (mkF m pc Ls (.int y :: .int x :: st))) := by
  subst hp
  exact own_by (fun _ q => XS.icmpNo X.here hx rfl hd rfl hc q) h
theorem own_ifnullNo (X : Stand p l e R s m args below meth c T locs cells slots) (hx : p.tables.exec = Jvm.exec) {pc pc' : Nat} {Ls : Array Slot} {st : List Value} {b : Addr} {o : Int}  (hd : decode c.code pc = .ok (.ifnull o, 3)) (hp : pc + 3 = pc') (h : own_Go p e below Q F (T.setTop (mkF m pc' Ls st))) : own_Go p e below Q F (T.setTop (mkF m pc Ls (.ref b :: st))) := by
  subst hp
  exact own_by (fun _ q => XS.ifnullNo X.here hx rfl hd rfl q) h
theorem own_ifnonnullNo (X : Stand p l e R s m args below meth c T locs cells slots) (hx : p.tables.exec = Jvm.exec) {pc pc' : Nat} {Ls : Array Slot} {st : List Value} {o : Int}  (hd : decode c.code pc = .ok (.ifnonnull o, 3)) (hp : pc + 3 = pc') (h : own_Go p e below Q F (T.setTop (mkF m pc' Ls st))) : own_Go p e below Q F (T.setTop (mkF m pc Ls (.null :: st))) := by
  subst hp
  exact own_by (fun _ q => XS.ifnonnullNo X.here hx rfl hd rfl q) h
theorem own_acmpNo (X : Stand p l e R s m args below meth c T locs cells slots) (hx : p.tables.exec = Jvm.exec) {pc pc' : Nat} {Ls : Array Slot} {st : List Value} {cd : ClassFile.ACond} {a b : Addr} {o : Int} (hc : if_acmp.holds cd (some a) (some b) = false) (hd : decode c.code pc = .ok (.if_acmp cd o, 3)) (hp : pc + 3 = pc') (h : own_Go p e below Q F (T.setTop (mkF m pc' Ls st))) : own_Go p e below Q F (T.setTop (mkF m pc Ls (.ref b :: .ref a :: st))) := by
  subst hp
  exact own_by (fun _ q => XS.acmpNo X.here hx rfl hd rfl hc q) h
theorem own_ldcInt (X : Stand p l e R s m args below meth c T locs cells slots) (hx : p.tables.exec = Jvm.exec) {pc pc' : Nat} {Ls : Array Slot} {st : List Value} {Z : State} {a0 : Array Value} {own : String} {index : Nat} {v : Int32} (hZ : Z.Warmed39 s.vm) (hown : s.vm.findClass own = some m.cls) (w : (Jvm.Cond.constant own index v).before a0 Z = true) (hd : decode c.code pc = .ok (.ldc index, 2)) (hp : pc + 2 = pc') (h : own_Go p e below Q F (T.setTop (mkF m pc' Ls (.int v :: st)))) : own_Go p e below Q F (T.setTop (mkF m pc Ls st)) := by
  subst hp
  exact own_by (fun _ q => X.ldcInt hx hown (mv hZ w) (g := mkF m pc Ls st) rfl hd _ q) h
theorem own_ldc2Long (X : Stand p l e R s m args below meth c T locs cells slots) (hx : p.tables.exec = Jvm.exec) {pc pc' : Nat} {Ls : Array Slot} {st : List Value} {Z : State} {a0 : Array Value} {own : String} {index : Nat} {v : Int64} (hZ : Z.Warmed39 s.vm) (hown : s.vm.findClass own = some m.cls) (w : (Jvm.Cond.constantLong own index v).before a0 Z = true) (hd : decode c.code pc = .ok (.ldc2_w index, 3)) (hp : pc + 3 = pc') (h : own_Go p e below Q F (T.setTop (mkF m pc' Ls (.long v :: st)))) : own_Go p e below Q F (T.setTop (mkF m pc Ls st)) := by
  subst hp
  exact own_by (fun _ q => X.ldc2Long hx hown (mv hZ w) (g := mkF m pc Ls st) rfl hd _ q) h
theorem own_lyes_lt {x y : Int64} {a b : Int} (ha : x.toInt = a) (hb : y.toInt = b) (h : a < b) : ifCond.holds .lt (lcmpW x y) = true := by
  have q := own_lcm ha hb
  have r :  (lcmpW x y).toInt < 0 := by omega
  exact own_z (own_yes_lt rfl rfl r)
theorem own_lno_lt {x y : Int64} {a b : Int} (ha : x.toInt = a) (hb : y.toInt = b) (h : ¬ a < b) : ifCond.holds .lt (lcmpW x y) = false := by
  have q := own_lcm ha hb
  have r : ¬ (lcmpW x y).toInt < 0 := by omega
  exact own_z (own_no_lt rfl rfl r)
theorem own_lyes_ge {x y : Int64} {a b : Int} (ha : x.toInt = a) (hb : y.toInt = b) (h : ¬ a < b) : ifCond.holds .ge (lcmpW x y) = true := by
  have q := own_lcm ha hb
  have r : ¬ (lcmpW x y).toInt < 0 := by omega
  exact own_z (own_yes_ge rfl rfl r)
theorem own_lno_ge {x y : Int64} {a b : Int} (ha : x.toInt = a) (hb : y.toInt = b) (h : a < b) : ifCond.holds .ge (lcmpW x y) = false := by
  have q := own_lcm ha hb
  have r :  (lcmpW x y).toInt < 0 := by omega
  exact own_z (own_no_ge rfl rfl r)
theorem own_lyes_gt {x y : Int64} {a b : Int} (ha : x.toInt = a) (hb : y.toInt = b) (h : b < a) : ifCond.holds .gt (lcmpW x y) = true := by
  have q := own_lcm ha hb
  have r :  0 < (lcmpW x y).toInt := by omega
  exact own_z (own_yes_gt rfl rfl r)
theorem own_lno_gt {x y : Int64} {a b : Int} (ha : x.toInt = a) (hb : y.toInt = b) (h : ¬ b < a) : ifCond.holds .gt (lcmpW x y) = false := by
  have q := own_lcm ha hb
  have r : ¬ 0 < (lcmpW x y).toInt := by omega
  exact own_z (own_no_gt rfl rfl r)
theorem own_lyes_le {x y : Int64} {a b : Int} (ha : x.toInt = a) (hb : y.toInt = b) (h : ¬ b < a) : ifCond.holds .le (lcmpW x y) = true := by
  have q := own_lcm ha hb
  have r : ¬ 0 < (lcmpW x y).toInt := by omega
  exact own_z (own_yes_le rfl rfl r)
theorem own_lno_le {x y : Int64} {a b : Int} (ha : x.toInt = a) (hb : y.toInt = b) (h : b < a) : ifCond.holds .le (lcmpW x y) = false := by
  have q := own_lcm ha hb
  have r :  0 < (lcmpW x y).toInt := by omega
  exact own_z (own_no_le rfl rfl r)
theorem own_lyes_eq {x y : Int64} {a b : Int} (ha : x.toInt = a) (hb : y.toInt = b) (h : a = b) : ifCond.holds .eq (lcmpW x y) = true := by
  have q := own_lcm ha hb
  have r :  (lcmpW x y).toInt = 0 := by omega
  exact own_z (own_yes_eq rfl rfl r)
theorem own_lno_eq {x y : Int64} {a b : Int} (ha : x.toInt = a) (hb : y.toInt = b) (h : ¬ a = b) : ifCond.holds .eq (lcmpW x y) = false := by
  have q := own_lcm ha hb
  have r : ¬ (lcmpW x y).toInt = 0 := by omega
  exact own_z (own_no_eq rfl rfl r)
theorem own_lyes_ne {x y : Int64} {a b : Int} (ha : x.toInt = a) (hb : y.toInt = b) (h : ¬ a = b) : ifCond.holds .ne (lcmpW x y) = true := by
  have q := own_lcm ha hb
  have r : ¬ (lcmpW x y).toInt = 0 := by omega
  exact own_z (own_yes_ne rfl rfl r)
theorem own_lno_ne {x y : Int64} {a b : Int} (ha : x.toInt = a) (hb : y.toInt = b) (h : a = b) : ifCond.holds .ne (lcmpW x y) = false := by
  have q := own_lcm ha hb
  have r :  (lcmpW x y).toInt = 0 := by omega
  exact own_z (own_no_ne rfl rfl r)
theorem own_tswIn (X : Stand p l e R s m args below meth c T locs cells slots) (hx : p.tables.exec = Jvm.exec) {pc pc' : Nat} {Ls : Array Slot} {st : List Value} {dflt low high : Int} {offs : Array Int} {len : Nat} (o : Int) {i : Int32} (hd : decode c.code pc = .ok (.tableswitch dflt low high offs, len)) (hin : ¬ (i.toInt < low ∨ i.toInt > high)) (hoff : offs[(i.toInt - low).toNat]? = some o) (ho : 0 ≤ (pc : Int) + o) (hp : ((pc : Int) + o).toNat = pc') (h : own_Go p e below Q F (T.setTop (mkF m pc' Ls st))) : own_Go p e below Q F (T.setTop (mkF m pc Ls (.int i :: st))) := by
  exact own_by (fun _ q => XS.tswIn X.here hx rfl rfl hd rfl hin hoff ho hp q) h
theorem own_tswOut (X : Stand p l e R s m args below meth c T locs cells slots) (hx : p.tables.exec = Jvm.exec) {pc pc' : Nat} {Ls : Array Slot} {st : List Value} {dflt low high : Int} {offs : Array Int} {len : Nat} {i : Int32} (hd : decode c.code pc = .ok (.tableswitch dflt low high offs, len)) (hout : i.toInt < low ∨ i.toInt > high) (ho : 0 ≤ (pc : Int) + dflt) (hp : ((pc : Int) + dflt).toNat = pc') (h : own_Go p e below Q F (T.setTop (mkF m pc' Ls st))) : own_Go p e below Q F (T.setTop (mkF m pc Ls (.int i :: st))) := by
  exact own_by (fun _ q => XS.tswOut X.here hx rfl rfl hd rfl hout ho hp q) h
end OwnKit
theorem pd_0 : parseMethodDescriptor "(J)V" = some ⟨[.long], none⟩ := by decide +kernel
theorem d1_0 : decode prog_42_method_1_code 0 = .ok (.aload_n 0, 1) := by decide +kernel
theorem d1_1 : decode prog_42_method_1_code 1 = .ok (.invokespecial 1, 3) := by decide +kernel
theorem d1_4 : decode prog_42_method_1_code 4 = .ok (.aload_n 0, 1) := by decide +kernel
theorem d1_5 : decode prog_42_method_1_code 5 = .ok (.lload_n 1, 1) := by decide +kernel
theorem d1_6 : decode prog_42_method_1_code 6 = .ok (.putfield 7, 3) := by decide +kernel
theorem d1_9 : decode prog_42_method_1_code 9 = .ok (.return_, 1) := by decide +kernel
theorem pn_0 : plainName "com/example/rebalanced/rebalanced/server/RequestBudget" = true := by first | (simp [plainName, overriddenIn]; done) | decide +kernel
theorem ef_1 (m : MethodId) (x0 : Addr) (x1 : Int64) : entryFrame m #[(.ref x0), (.long x1)] 3 = mkF m 0 #[.val (.ref x0), .val (.long x1), .second] [] := by first | (simp [entryFrame, mkF, argsToLocals, Value.category, maxLocals]; done) | rfl
def Q1 (Z : State) (a1 : Addr) (q2 : Int64) (h0 : Heap) (n0 : Nat) (v : Option Value) (h : Heap) (L : List Loc) : Prop := v = none ∧ (True) ∧ Fr n0 L ∧ Keep h0 h [a1] ∧ Exa Z h a1 "com/example/rebalanced/rebalanced/server/RequestBudget" ∧ Fld Z h a1 "com/example/rebalanced/rebalanced/server/RequestBudget" "limitBytes" "J" (.long q2) ∧ Fld Z h a1 "com/example/rebalanced/rebalanced/server/RequestBudget" "reservedBytes" "J" (.long (0 : Int64))
set_option maxRecDepth 65536 in
set_option maxHeartbeats 40000000 in
theorem rm1 (l : Launch) (Z : State) (a0 : Array Value) (hw : ∀ d ∈ tables_1, d.before a0 Z = true) (ws : List Jvm.Cond) (a1 : Addr) (q2 : Int64) (h0 : Heap) (n0 : Nat) (Z0 : n0 ≤ h0.size) (E_a1 : Exa Z h0 a1 "com/example/rebalanced/rebalanced/server/RequestBudget") (F_limitBytes_a1 : Fld Z h0 a1 "com/example/rebalanced/rebalanced/server/RequestBudget" "limitBytes" "J" (.long (0 : Int64))) (F_reservedBytes_a1 : Fld Z h0 a1 "com/example/rebalanced/rebalanced/server/RequestBudget" "reservedBytes" "J" (.long (0 : Int64))) (g_a1 : n0 ≤ a1) :
    MetFree l (⟨"com/example/rebalanced/rebalanced/server/RequestBudget", "<init>", "(J)V"⟩ : MethodName) (head1 (Jvm.Cond.code (⟨"com/example/rebalanced/rebalanced/server/RequestBudget", "<init>", "(J)V"⟩ : MethodName) prog_42_method_1_code 3 none :: ws) ({ frames := 1, cells := 0, slots := 0, locals := 12 } : Room)) (fun a U => a = #[(.ref a1), (.long q2)] ∧ Z.Warmed39 U.vm ∧ U.heap = h0) (fun _ _ _ _ _ => True) (fun _ U o U' => ∃ v L, o = .returned v ∧ Q1 Z a1 q2 h0 n0 v U'.heap L ∧ FrameEnd U o U' L ({ frames := 1, cells := 0, slots := 0, locals := 12 } : Room).cells ({ frames := 1, cells := 0, slots := 0, locals := 12 } : Room).slots) := by
  refine MetFree.of_bodySF (plainFor_of_name pn_0) hisR ?_
  intro p e s m args below meth c s₁ Bd hml0 hP hK
  obtain ⟨rfl, hZ, hh⟩ := hP
  have hx := Bd.exec
  have hby := Bd.bytes
  have hml : c.maxLocals = 3 := hml0
  have hown : s.vm.findClass "com/example/rebalanced/rebalanced/server/RequestBudget" = some m.cls := findClass_of_methodNamed Bd.named
  have hnm := (name_of_methodNamed Bd.named Bd.method).1
  have X0 : Stand p l e ({ frames := 1, cells := 0, slots := 0, locals := 12 } : Room) s m #[(.ref a1), (.long q2)] below meth c s₁ [] 0 0 := Stand.of_body Bd
  have e0 : s₁.heap = h0 := by rw [← hh, Bd.state]; rfl
  have N0 := Fr.nil n0
  change own_Go p e below (Q1 Z a1 q2 h0 n0) (own_Fr s ({ frames := 1, cells := 0, slots := 0, locals := 12 } : Room).cells ({ frames := 1, cells := 0, slots := 0, locals := 12 } : Room).slots) (s₁.setTop (entryFrame m #[(.ref a1), (.long q2)] 3))
  rw [ef_1 m a1 q2]
  have rq2 := rng64 q2
  have K0 : Keep h0 h0 [a1] := Keep.refl h0 [a1]
  refine own_aloadN (pc' := 1) X0 hx rfl rfl (hb hby d1_0) rfl ?_
  obtain ⟨T1, X1, e1, st1⟩ := initO X0 hx hZ hown (hw _ (List.mem_of_getElem? (i := 8) rfl)) (hw _ (List.mem_of_getElem? (i := 9) rfl)) (hw _ (List.mem_of_getElem? (i := 10) rfl)) e0 (g := (mkF m 1 #[.val (.ref a1), .val (.long q2), .second] [(.ref a1)])) rfl (by rw [hml]; rfl) rfl (hb hby d1_1) (by decide) (W := 0) (by show 2 * 0 + _ ≤ _; exact Nat.le_of_eq rfl) (by decide)
  refine own_by st1 ?_
  show own_Go p e below (Q1 Z a1 q2 h0 n0) (own_Fr s ({ frames := 1, cells := 0, slots := 0, locals := 12 } : Room).cells ({ frames := 1, cells := 0, slots := 0, locals := 12 } : Room).slots) (T1.setTop (mkF m 4 #[.val (.ref a1), .val (.long q2), .second] []))
  refine own_aloadN (pc' := 5) X1 hx rfl rfl (hb hby d1_4) rfl ?_
  refine own_lloadN (pc' := 6) X1 hx rfl (hb hby d1_5) rfl ?_
  obtain ⟨T2, h2, X2, e2, W2, st2⟩ := putF X1 hx hZ hown (host := "") (Or.inl (hw _ (List.mem_of_getElem? (i := 11) rfl))) Via.refl e1 F_limitBytes_a1 E_a1 (Or.inr ⟨(hw _ (List.mem_of_getElem? (i := 12) rfl)), rfl, hnm⟩) (hw _ (List.mem_of_getElem? (i := 3) rfl)) (ty := .long) (by decide) rfl rfl (g := (mkF m 6 #[.val (.ref a1), .val (.long q2), .second] [(.long q2), (.ref a1)])) rfl rfl (hb hby d1_6)
  have Fw2 : Fld Z h2 a1 "com/example/rebalanced/rebalanced/server/RequestBudget" "limitBytes" "J" (.long q2) := F_limitBytes_a1.same W2
  have F3 : Fld Z h2 a1 "com/example/rebalanced/rebalanced/server/RequestBudget" "reservedBytes" "J" (.long (0 : Int64)) := F_reservedBytes_a1.other W2 (Or.inr (slot_ne (Or.inl (hw _ (List.mem_of_getElem? (i := 19) rfl))) (Or.inr (hw _ (List.mem_of_getElem? (i := 12) rfl))) (by decide) (t := .long) (by decide) (t' := .long) (by decide)))
  have E4 : Exa Z h2 a1 "com/example/rebalanced/rebalanced/server/RequestBudget" := E_a1.wr W2
  have Z5 : n0 ≤ h2.size := Nat.le_trans Z0 (Nat.le_of_eq W2.size.symm)
  have N6 := Fr.snoc X2 N0 g_a1
  have K7 : Keep h0 h2 [a1] := K0.wr W2 (Or.inl (List.mem_of_getElem? (i := 0) rfl))
  refine own_by st2 ?_
  show own_Go p e below (Q1 Z a1 q2 h0 n0) (own_Fr s ({ frames := 1, cells := 0, slots := 0, locals := 12 } : Room).cells ({ frames := 1, cells := 0, slots := 0, locals := 12 } : Room).slots) (T2.setTop (mkF m 9 #[.val (.ref a1), .val (.long q2), .second] []))
  refine own_ret0 X2 hx Bd.returns Bd.notSynchronized (hb hby d1_9) rfl (by decide) (by decide) ?_
  show Q1 Z a1 q2 h0 n0 _ T2.heap _
  rw [e2]
  exact ⟨rfl, trivial, N6, K7, E4, Fw2, F3⟩
theorem pd_1 : parseMethodDescriptor "(I)Z" = some ⟨[.int], some .boolean⟩ := by decide +kernel
theorem d3_0 : decode prog_42_method_2_code 0 = .ok (.iload_n 1, 1) := by decide +kernel
theorem d3_1 : decode prog_42_method_2_code 1 = .ok (.i2l, 1) := by decide +kernel
theorem d3_2 : decode prog_42_method_2_code 2 = .ok (.aload_n 0, 1) := by decide +kernel
theorem d3_3 : decode prog_42_method_2_code 3 = .ok (.getfield 7, 3) := by decide +kernel
theorem d3_6 : decode prog_42_method_2_code 6 = .ok (.aload_n 0, 1) := by decide +kernel
theorem d3_7 : decode prog_42_method_2_code 7 = .ok (.getfield 13, 3) := by decide +kernel
theorem d3_10 : decode prog_42_method_2_code 10 = .ok (.lsub, 1) := by decide +kernel
theorem d3_11 : decode prog_42_method_2_code 11 = .ok (.lcmp, 1) := by decide +kernel
theorem d3_12 : decode prog_42_method_2_code 12 = .ok (.ifCond .le 5, 3) := by decide +kernel
theorem d3_15 : decode prog_42_method_2_code 15 = .ok (.iconst 0, 1) := by decide +kernel
theorem d3_16 : decode prog_42_method_2_code 16 = .ok (.ireturn, 1) := by decide +kernel
theorem d3_17 : decode prog_42_method_2_code 17 = .ok (.aload_n 0, 1) := by decide +kernel
theorem d3_18 : decode prog_42_method_2_code 18 = .ok (.dup, 1) := by decide +kernel
theorem d3_19 : decode prog_42_method_2_code 19 = .ok (.getfield 13, 3) := by decide +kernel
theorem d3_22 : decode prog_42_method_2_code 22 = .ok (.iload_n 1, 1) := by decide +kernel
theorem d3_23 : decode prog_42_method_2_code 23 = .ok (.i2l, 1) := by decide +kernel
theorem d3_24 : decode prog_42_method_2_code 24 = .ok (.ladd, 1) := by decide +kernel
theorem d3_25 : decode prog_42_method_2_code 25 = .ok (.putfield 13, 3) := by decide +kernel
theorem d3_28 : decode prog_42_method_2_code 28 = .ok (.iconst 1, 1) := by decide +kernel
theorem d3_29 : decode prog_42_method_2_code 29 = .ok (.ireturn, 1) := by decide +kernel
theorem ef_3 (m : MethodId) (x0 : Addr) (x1 : Int32) : entryFrame m #[(.ref x0), (.int x1)] 2 = mkF m 0 #[.val (.ref x0), .val (.int x1)] [] := by first | (simp [entryFrame, mkF, argsToLocals, Value.category, maxLocals]; done) | rfl
def Q3 (Z : State) (a1 : Addr) (p2 : Int32) (w3 : Int64) (w5 : Int64) (h0 : Heap) (n0 : Nat) (v : Option Value) (h : Heap) (L : List Loc) : Prop := ∃ r : Int32, ∃ n5 : Int64, v = some (.int r) ∧ ((r.toInt = 1 ∧ p2.toInt ≤ w3.toInt - w5.toInt ∧ n5.toInt = w5.toInt + p2.toInt) ∨ (r.toInt = 0 ∧ w3.toInt - w5.toInt < p2.toInt ∧ n5.toInt = w5.toInt)) ∧ Fr n0 L ∧ Keep h0 h [a1] ∧ Exa Z h a1 "com/example/rebalanced/rebalanced/server/RequestBudget" ∧ Fld Z h a1 "com/example/rebalanced/rebalanced/server/RequestBudget" "limitBytes" "J" (.long w3) ∧ Fld Z h a1 "com/example/rebalanced/rebalanced/server/RequestBudget" "reservedBytes" "J" (.long n5)
set_option maxRecDepth 65536 in
set_option maxHeartbeats 40000000 in
theorem rm3 (l : Launch) (Z : State) (a0 : Array Value) (hw : ∀ d ∈ tables_1, d.before a0 Z = true) (ws : List Jvm.Cond) (a1 : Addr) (p2 : Int32) (w3 : Int64) (w5 : Int64) (h0 : Heap) (n0 : Nat) (Z0 : n0 ≤ h0.size) (E_a1 : Exa Z h0 a1 "com/example/rebalanced/rebalanced/server/RequestBudget") (F_limitBytes_a1 : Fld Z h0 a1 "com/example/rebalanced/rebalanced/server/RequestBudget" "limitBytes" "J" (.long w3)) (F_reservedBytes_a1 : Fld Z h0 a1 "com/example/rebalanced/rebalanced/server/RequestBudget" "reservedBytes" "J" (.long w5)) (g_a1 : n0 ≤ a1) (hb0 : 0 ≤ p2.toInt) (hb1 : 0 ≤ w5.toInt ∧ w5.toInt ≤ w3.toInt) :
    MetFree l (⟨"com/example/rebalanced/rebalanced/server/RequestBudget", "tryReserve", "(I)Z"⟩ : MethodName) (head1 (Jvm.Cond.code (⟨"com/example/rebalanced/rebalanced/server/RequestBudget", "tryReserve", "(I)Z"⟩ : MethodName) prog_42_method_2_code 2 (some .boolean) :: ws) ({ frames := 0, cells := 0, slots := 0, locals := 0 } : Room)) (fun a U => a = #[(.ref a1), (.int p2)] ∧ Z.Warmed39 U.vm ∧ U.heap = h0) (fun _ _ _ _ _ => True) (fun _ U o U' => ∃ v L, o = .returned v ∧ Q3 Z a1 p2 w3 w5 h0 n0 v U'.heap L ∧ FrameEnd U o U' L ({ frames := 0, cells := 0, slots := 0, locals := 0 } : Room).cells ({ frames := 0, cells := 0, slots := 0, locals := 0 } : Room).slots) := by
  refine MetFree.of_bodySF (plainFor_of_name pn_0) hisR ?_
  intro p e s m args below meth c s₁ Bd hml0 hP hK
  obtain ⟨rfl, hZ, hh⟩ := hP
  have hx := Bd.exec
  have hby := Bd.bytes
  have hml : c.maxLocals = 2 := hml0
  have hown : s.vm.findClass "com/example/rebalanced/rebalanced/server/RequestBudget" = some m.cls := findClass_of_methodNamed Bd.named
  have hnm := (name_of_methodNamed Bd.named Bd.method).1
  have X0 : Stand p l e ({ frames := 0, cells := 0, slots := 0, locals := 0 } : Room) s m #[(.ref a1), (.int p2)] below meth c s₁ [] 0 0 := Stand.of_body Bd
  have e0 : s₁.heap = h0 := by rw [← hh, Bd.state]; rfl
  have N0 := Fr.nil n0
  change own_Go p e below (Q3 Z a1 p2 w3 w5 h0 n0) (own_Fr s ({ frames := 0, cells := 0, slots := 0, locals := 0 } : Room).cells ({ frames := 0, cells := 0, slots := 0, locals := 0 } : Room).slots) (s₁.setTop (entryFrame m #[(.ref a1), (.int p2)] 2))
  rw [ef_3 m a1 p2]
  have rp2 := rng32 p2
  have rw3 := rng64 w3
  have rw5 := rng64 w5
  have K0 : Keep h0 h0 [a1] := Keep.refl h0 [a1]
  refine own_iloadN (pc' := 1) X0 hx rfl (hb hby d3_0) rfl ?_
  obtain ⟨v1, hv1⟩ : ∃ z, p2.toInt64 = z := ⟨_, rfl⟩
  have f2 : v1.toInt = p2.toInt := by rw [← hv1]; exact c_i2l p2
  refine own_i2l (pc' := 2) X0 hx (z := v1) hv1 (hb hby d3_1) rfl ?_
  refine own_aloadN (pc' := 3) X0 hx rfl rfl (hb hby d3_2) rfl ?_
  obtain ⟨T3, X3, e3, st3⟩ := getF X0 hx hZ hown (host := "") (Or.inl (hw _ (List.mem_of_getElem? (i := 11) rfl))) Via.refl e0 F_limitBytes_a1 (g := (mkF m 3 #[.val (.ref a1), .val (.int p2)] [(.ref a1), (.long v1)])) rfl rfl (hb hby d3_3)
  refine own_by st3 ?_
  show own_Go p e below (Q3 Z a1 p2 w3 w5 h0 n0) (own_Fr s ({ frames := 0, cells := 0, slots := 0, locals := 0 } : Room).cells ({ frames := 0, cells := 0, slots := 0, locals := 0 } : Room).slots) (T3.setTop (mkF m 6 #[.val (.ref a1), .val (.int p2)] [(.long w3), (.long v1)]))
  refine own_aloadN (pc' := 7) X3 hx rfl rfl (hb hby d3_6) rfl ?_
  obtain ⟨T4, X4, e4, st4⟩ := getF X3 hx hZ hown (host := "") (Or.inl (hw _ (List.mem_of_getElem? (i := 18) rfl))) Via.refl e3 F_reservedBytes_a1 (g := (mkF m 7 #[.val (.ref a1), .val (.int p2)] [(.ref a1), (.long w3), (.long v1)])) rfl rfl (hb hby d3_7)
  refine own_by st4 ?_
  show own_Go p e below (Q3 Z a1 p2 w3 w5 h0 n0) (own_Fr s ({ frames := 0, cells := 0, slots := 0, locals := 0 } : Room).cells ({ frames := 0, cells := 0, slots := 0, locals := 0 } : Room).slots) (T4.setTop (mkF m 10 #[.val (.ref a1), .val (.int p2)] [(.long w5), (.long w3), (.long v1)]))
  obtain ⟨v5, hv5⟩ : ∃ z, w3 - w5 = z := ⟨_, rfl⟩
  have f6 : (v5.toInt - (w3.toInt - w5.toInt)) % 18446744073709551616 = 0 := by rw [← hv5]; exact c_lsub w3 w5
  have rv5 := rng64 v5
  replace f6 : v5.toInt = w3.toInt - w5.toInt := by omega
  refine own_lsub (pc' := 11) X4 hx (z := v5) hv5 (hb hby d3_10) rfl ?_
  refine own_lcmp (pc' := 12) X4 hx rfl (hb hby d3_11) rfl ?_
  by_cases b7 : v5.toInt < v1.toInt
  · refine own_ifNo (pc' := 15) X4 hx (own_lno_le rfl rfl b7) (hb hby d3_12) rfl ?_
    refine own_iconst (pc' := 16) X4 hx (0 : Int32) (by decide) (hb hby d3_15) rfl ?_
    refine own_ret X4 hx Bd.returns Bd.notSynchronized (Or.inl ⟨rfl, by simp, _, rfl⟩) (hb hby d3_16) rfl (by decide) (by decide) ?_
    show Q3 Z a1 p2 w3 w5 h0 n0 _ T4.heap _
    rw [e4]
    have kc0 : ((0 : Int32)).toInt = 0 := by decide
    exact ⟨(0 : Int32), w5, rfl, by omega, N0, K0, E_a1, F_limitBytes_a1, F_reservedBytes_a1⟩
  · refine own_ifYes (pc' := 17) X4 hx (hb hby d3_12) (own_lyes_le rfl rfl b7) (by decide) (by decide) ?_
    refine own_aloadN (pc' := 18) X4 hx rfl rfl (hb hby d3_17) rfl ?_
    refine own_dup (pc' := 19) X4 hx rfl (hb hby d3_18) rfl ?_
    obtain ⟨T8, X8, e8, st8⟩ := getF X4 hx hZ hown (host := "") (Or.inl (hw _ (List.mem_of_getElem? (i := 18) rfl))) Via.refl e4 F_reservedBytes_a1 (g := (mkF m 19 #[.val (.ref a1), .val (.int p2)] [(.ref a1), (.ref a1)])) rfl rfl (hb hby d3_19)
    refine own_by st8 ?_
    show own_Go p e below (Q3 Z a1 p2 w3 w5 h0 n0) (own_Fr s ({ frames := 0, cells := 0, slots := 0, locals := 0 } : Room).cells ({ frames := 0, cells := 0, slots := 0, locals := 0 } : Room).slots) (T8.setTop (mkF m 22 #[.val (.ref a1), .val (.int p2)] [(.long w5), (.ref a1)]))
    refine own_iloadN (pc' := 23) X8 hx rfl (hb hby d3_22) rfl ?_
    obtain ⟨v9, hv9⟩ : ∃ z, p2.toInt64 = z := ⟨_, rfl⟩
    have f10 : v9.toInt = p2.toInt := by rw [← hv9]; exact c_i2l p2
    refine own_i2l (pc' := 24) X8 hx (z := v9) hv9 (hb hby d3_23) rfl ?_
    obtain ⟨v11, hv11⟩ : ∃ z, w5 + v9 = z := ⟨_, rfl⟩
    have f12 : (v11.toInt - (w5.toInt + v9.toInt)) % 18446744073709551616 = 0 := by rw [← hv11]; exact c_ladd w5 v9
    have rv11 := rng64 v11
    replace f12 : v11.toInt = w5.toInt + v9.toInt := by omega
    refine own_ladd (pc' := 25) X8 hx (z := v11) hv11 (hb hby d3_24) rfl ?_
    obtain ⟨T13, h13, X13, e13, W13, st13⟩ := putF X8 hx hZ hown (host := "") (Or.inl (hw _ (List.mem_of_getElem? (i := 18) rfl))) Via.refl e8 F_reservedBytes_a1 E_a1 (Or.inl (hw _ (List.mem_of_getElem? (i := 19) rfl))) (hw _ (List.mem_of_getElem? (i := 3) rfl)) (ty := .long) (by decide) rfl rfl (g := (mkF m 25 #[.val (.ref a1), .val (.int p2)] [(.long v11), (.ref a1)])) rfl rfl (hb hby d3_25)
    have Fw13 : Fld Z h13 a1 "com/example/rebalanced/rebalanced/server/RequestBudget" "reservedBytes" "J" (.long v11) := F_reservedBytes_a1.same W13
    have F14 : Fld Z h13 a1 "com/example/rebalanced/rebalanced/server/RequestBudget" "limitBytes" "J" (.long w3) := F_limitBytes_a1.other W13 (Or.inr (slot_ne (Or.inr (hw _ (List.mem_of_getElem? (i := 12) rfl))) (Or.inl (hw _ (List.mem_of_getElem? (i := 19) rfl))) (by decide) (t := .long) (by decide) (t' := .long) (by decide)))
    have E15 : Exa Z h13 a1 "com/example/rebalanced/rebalanced/server/RequestBudget" := E_a1.wr W13
    have Z16 : n0 ≤ h13.size := Nat.le_trans Z0 (Nat.le_of_eq W13.size.symm)
    have N17 := Fr.snoc X13 N0 g_a1
    have K18 : Keep h0 h13 [a1] := K0.wr W13 (Or.inl (List.mem_of_getElem? (i := 0) rfl))
    refine own_by st13 ?_
    show own_Go p e below (Q3 Z a1 p2 w3 w5 h0 n0) (own_Fr s ({ frames := 0, cells := 0, slots := 0, locals := 0 } : Room).cells ({ frames := 0, cells := 0, slots := 0, locals := 0 } : Room).slots) (T13.setTop (mkF m 28 #[.val (.ref a1), .val (.int p2)] []))
    refine own_iconst (pc' := 29) X13 hx (1 : Int32) (by decide) (hb hby d3_28) rfl ?_
    refine own_ret X13 hx Bd.returns Bd.notSynchronized (Or.inl ⟨rfl, by simp, _, rfl⟩) (hb hby d3_29) rfl (by decide) (by decide) ?_
    show Q3 Z a1 p2 w3 w5 h0 n0 _ T13.heap _
    rw [e13]
    have kc0 : ((1 : Int32)).toInt = 1 := by decide
    exact ⟨(1 : Int32), v11, rfl, by omega, N17, K18, E15, F14, Fw13⟩
theorem pd_2 : parseMethodDescriptor "(I)V" = some ⟨[.int], none⟩ := by decide +kernel
theorem d4_0 : decode prog_42_method_3_code 0 = .ok (.aload_n 0, 1) := by decide +kernel
theorem d4_1 : decode prog_42_method_3_code 1 = .ok (.dup, 1) := by decide +kernel
theorem d4_2 : decode prog_42_method_3_code 2 = .ok (.getfield 13, 3) := by decide +kernel
theorem d4_5 : decode prog_42_method_3_code 5 = .ok (.iload_n 1, 1) := by decide +kernel
theorem d4_6 : decode prog_42_method_3_code 6 = .ok (.i2l, 1) := by decide +kernel
theorem d4_7 : decode prog_42_method_3_code 7 = .ok (.lsub, 1) := by decide +kernel
theorem d4_8 : decode prog_42_method_3_code 8 = .ok (.putfield 13, 3) := by decide +kernel
theorem d4_11 : decode prog_42_method_3_code 11 = .ok (.return_, 1) := by decide +kernel
theorem ef_4 (m : MethodId) (x0 : Addr) (x1 : Int32) : entryFrame m #[(.ref x0), (.int x1)] 2 = mkF m 0 #[.val (.ref x0), .val (.int x1)] [] := by first | (simp [entryFrame, mkF, argsToLocals, Value.category, maxLocals]; done) | rfl
def Q4 (Z : State) (a1 : Addr) (p2 : Int32) (w3 : Int64) (w5 : Int64) (h0 : Heap) (n0 : Nat) (v : Option Value) (h : Heap) (L : List Loc) : Prop := ∃ n5 : Int64, v = none ∧ (n5.toInt = w5.toInt - p2.toInt) ∧ Fr n0 L ∧ Keep h0 h [a1] ∧ Exa Z h a1 "com/example/rebalanced/rebalanced/server/RequestBudget" ∧ Fld Z h a1 "com/example/rebalanced/rebalanced/server/RequestBudget" "limitBytes" "J" (.long w3) ∧ Fld Z h a1 "com/example/rebalanced/rebalanced/server/RequestBudget" "reservedBytes" "J" (.long n5)
set_option maxRecDepth 65536 in
set_option maxHeartbeats 40000000 in
theorem rm4 (l : Launch) (Z : State) (a0 : Array Value) (hw : ∀ d ∈ tables_1, d.before a0 Z = true) (ws : List Jvm.Cond) (a1 : Addr) (p2 : Int32) (w3 : Int64) (w5 : Int64) (h0 : Heap) (n0 : Nat) (Z0 : n0 ≤ h0.size) (E_a1 : Exa Z h0 a1 "com/example/rebalanced/rebalanced/server/RequestBudget") (F_limitBytes_a1 : Fld Z h0 a1 "com/example/rebalanced/rebalanced/server/RequestBudget" "limitBytes" "J" (.long w3)) (F_reservedBytes_a1 : Fld Z h0 a1 "com/example/rebalanced/rebalanced/server/RequestBudget" "reservedBytes" "J" (.long w5)) (g_a1 : n0 ≤ a1) (hb0 : 0 ≤ p2.toInt) (hb1 : p2.toInt ≤ w5.toInt) :
    MetFree l (⟨"com/example/rebalanced/rebalanced/server/RequestBudget", "release", "(I)V"⟩ : MethodName) (head1 (Jvm.Cond.code (⟨"com/example/rebalanced/rebalanced/server/RequestBudget", "release", "(I)V"⟩ : MethodName) prog_42_method_3_code 2 none :: ws) ({ frames := 0, cells := 0, slots := 0, locals := 0 } : Room)) (fun a U => a = #[(.ref a1), (.int p2)] ∧ Z.Warmed39 U.vm ∧ U.heap = h0) (fun _ _ _ _ _ => True) (fun _ U o U' => ∃ v L, o = .returned v ∧ Q4 Z a1 p2 w3 w5 h0 n0 v U'.heap L ∧ FrameEnd U o U' L ({ frames := 0, cells := 0, slots := 0, locals := 0 } : Room).cells ({ frames := 0, cells := 0, slots := 0, locals := 0 } : Room).slots) := by
  refine MetFree.of_bodySF (plainFor_of_name pn_0) hisR ?_
  intro p e s m args below meth c s₁ Bd hml0 hP hK
  obtain ⟨rfl, hZ, hh⟩ := hP
  have hx := Bd.exec
  have hby := Bd.bytes
  have hml : c.maxLocals = 2 := hml0
  have hown : s.vm.findClass "com/example/rebalanced/rebalanced/server/RequestBudget" = some m.cls := findClass_of_methodNamed Bd.named
  have hnm := (name_of_methodNamed Bd.named Bd.method).1
  have X0 : Stand p l e ({ frames := 0, cells := 0, slots := 0, locals := 0 } : Room) s m #[(.ref a1), (.int p2)] below meth c s₁ [] 0 0 := Stand.of_body Bd
  have e0 : s₁.heap = h0 := by rw [← hh, Bd.state]; rfl
  have N0 := Fr.nil n0
  change own_Go p e below (Q4 Z a1 p2 w3 w5 h0 n0) (own_Fr s ({ frames := 0, cells := 0, slots := 0, locals := 0 } : Room).cells ({ frames := 0, cells := 0, slots := 0, locals := 0 } : Room).slots) (s₁.setTop (entryFrame m #[(.ref a1), (.int p2)] 2))
  rw [ef_4 m a1 p2]
  have rp2 := rng32 p2
  have rw3 := rng64 w3
  have rw5 := rng64 w5
  have K0 : Keep h0 h0 [a1] := Keep.refl h0 [a1]
  refine own_aloadN (pc' := 1) X0 hx rfl rfl (hb hby d4_0) rfl ?_
  refine own_dup (pc' := 2) X0 hx rfl (hb hby d4_1) rfl ?_
  obtain ⟨T1, X1, e1, st1⟩ := getF X0 hx hZ hown (host := "") (Or.inl (hw _ (List.mem_of_getElem? (i := 18) rfl))) Via.refl e0 F_reservedBytes_a1 (g := (mkF m 2 #[.val (.ref a1), .val (.int p2)] [(.ref a1), (.ref a1)])) rfl rfl (hb hby d4_2)
  refine own_by st1 ?_
  show own_Go p e below (Q4 Z a1 p2 w3 w5 h0 n0) (own_Fr s ({ frames := 0, cells := 0, slots := 0, locals := 0 } : Room).cells ({ frames := 0, cells := 0, slots := 0, locals := 0 } : Room).slots) (T1.setTop (mkF m 5 #[.val (.ref a1), .val (.int p2)] [(.long w5), (.ref a1)]))
  refine own_iloadN (pc' := 6) X1 hx rfl (hb hby d4_5) rfl ?_
  obtain ⟨v2, hv2⟩ : ∃ z, p2.toInt64 = z := ⟨_, rfl⟩
  have f3 : v2.toInt = p2.toInt := by rw [← hv2]; exact c_i2l p2
  refine own_i2l (pc' := 7) X1 hx (z := v2) hv2 (hb hby d4_6) rfl ?_
  obtain ⟨v4, hv4⟩ : ∃ z, w5 - v2 = z := ⟨_, rfl⟩
  have f5 : (v4.toInt - (w5.toInt - v2.toInt)) % 18446744073709551616 = 0 := by rw [← hv4]; exact c_lsub w5 v2
  have rv4 := rng64 v4
  replace f5 : v4.toInt = w5.toInt - v2.toInt := by omega
  refine own_lsub (pc' := 8) X1 hx (z := v4) hv4 (hb hby d4_7) rfl ?_
  obtain ⟨T6, h6, X6, e6, W6, st6⟩ := putF X1 hx hZ hown (host := "") (Or.inl (hw _ (List.mem_of_getElem? (i := 18) rfl))) Via.refl e1 F_reservedBytes_a1 E_a1 (Or.inl (hw _ (List.mem_of_getElem? (i := 19) rfl))) (hw _ (List.mem_of_getElem? (i := 3) rfl)) (ty := .long) (by decide) rfl rfl (g := (mkF m 8 #[.val (.ref a1), .val (.int p2)] [(.long v4), (.ref a1)])) rfl rfl (hb hby d4_8)
  have Fw6 : Fld Z h6 a1 "com/example/rebalanced/rebalanced/server/RequestBudget" "reservedBytes" "J" (.long v4) := F_reservedBytes_a1.same W6
  have F7 : Fld Z h6 a1 "com/example/rebalanced/rebalanced/server/RequestBudget" "limitBytes" "J" (.long w3) := F_limitBytes_a1.other W6 (Or.inr (slot_ne (Or.inr (hw _ (List.mem_of_getElem? (i := 12) rfl))) (Or.inl (hw _ (List.mem_of_getElem? (i := 19) rfl))) (by decide) (t := .long) (by decide) (t' := .long) (by decide)))
  have E8 : Exa Z h6 a1 "com/example/rebalanced/rebalanced/server/RequestBudget" := E_a1.wr W6
  have Z9 : n0 ≤ h6.size := Nat.le_trans Z0 (Nat.le_of_eq W6.size.symm)
  have N10 := Fr.snoc X6 N0 g_a1
  have K11 : Keep h0 h6 [a1] := K0.wr W6 (Or.inl (List.mem_of_getElem? (i := 0) rfl))
  refine own_by st6 ?_
  show own_Go p e below (Q4 Z a1 p2 w3 w5 h0 n0) (own_Fr s ({ frames := 0, cells := 0, slots := 0, locals := 0 } : Room).cells ({ frames := 0, cells := 0, slots := 0, locals := 0 } : Room).slots) (T6.setTop (mkF m 11 #[.val (.ref a1), .val (.int p2)] []))
  refine own_ret0 X6 hx Bd.returns Bd.notSynchronized (hb hby d4_11) rfl (by decide) (by decide) ?_
  show Q4 Z a1 p2 w3 w5 h0 n0 _ T6.heap _
  rw [e6]
  exact ⟨v4, rfl, by omega, N10, K11, E8, F7, Fw6⟩
theorem pn_1 : plainName "com/example/rebalanced/rebalanced/server/RequestBudgetTryReservePinLaw" = true := by first | (simp [plainName, overriddenIn]; done) | decide +kernel
theorem ef_0 (m : MethodId) (x0 : Int64) (x1 : Int32) (x2 : Int32) (x3 : Int32) (x4 : Int32) : entryFrame m #[(.long x0), (.int x1), (.int x2), (.int x3), (.int x4)] maxLocals = mkF m 0 #[.val (.long x0), .second, .val (.int x1), .val (.int x2), .val (.int x3), .val (.int x4), .unset, .unset, .unset, .unset, .unset, .unset, .unset, .unset, .unset, .unset, .unset, .unset, .unset, .unset, .unset, .unset, .unset, .unset, .unset, .unset, .unset, .unset, .unset] [] := by first | (simp [entryFrame, mkF, argsToLocals, Value.category, maxLocals]; done) | rfl
def Q0 (Z : State) (p1 : Int64) (p2 : Int32) (p3 : Int32) (p4 : Int32) (p5 : Int32) (h0 : Heap) (n0 : Nat) (v : Option Value) (h : Heap) (L : List Loc) : Prop := v = some (.int 1) ∧ Fr n0 L
set_option maxRecDepth 65536 in
set_option maxHeartbeats 40000000 in
theorem rm0 (l : Launch) (Z : State) (a0 : Array Value) (hw : ∀ d ∈ tables_1, d.before a0 Z = true) (ws : List Jvm.Cond) (p1 : Int64) (p2 : Int32) (p3 : Int32) (p4 : Int32) (p5 : Int32) (h0 : Heap) (n0 : Nat) (Z0 : n0 ≤ h0.size) :
    MetFree l x (head1 (Jvm.Cond.code x code maxLocals ret :: ws) room_1) (fun a U => a = #[(.long p1), (.int p2), (.int p3), (.int p4), (.int p5)] ∧ Z.Warmed39 U.vm ∧ U.heap = h0) (fun _ _ _ _ _ => True) (fun _ U o U' => ∃ v L, o = .returned v ∧ Q0 Z p1 p2 p3 p4 p5 h0 n0 v U'.heap L ∧ FrameEnd U o U' L room_1.cells room_1.slots) := by
  refine MetFree.of_bodySF (plainFor_of_name pn_1) hisR ?_
  intro p e s m args below meth c s₁ Bd hml0 hP hK
  obtain ⟨rfl, hZ, hh⟩ := hP
  have hx := Bd.exec
  have hby := Bd.bytes
  have hml : c.maxLocals = 29 := hml0
  have hown : s.vm.findClass "com/example/rebalanced/rebalanced/server/RequestBudgetTryReservePinLaw" = some m.cls := findClass_of_methodNamed Bd.named
  have hnm := (name_of_methodNamed Bd.named Bd.method).1
  have X0 : Stand p l e room_1 s m #[(.long p1), (.int p2), (.int p3), (.int p4), (.int p5)] below meth c s₁ [] 0 0 := Stand.of_body Bd
  have e0 : s₁.heap = h0 := by rw [← hh, Bd.state]; rfl
  have N0 := Fr.nil n0
  change own_Go p e below (Q0 Z p1 p2 p3 p4 p5 h0 n0) (own_Fr s room_1.cells room_1.slots) (s₁.setTop (entryFrame m #[(.long p1), (.int p2), (.int p3), (.int p4), (.int p5)] maxLocals))
  rw [ef_0 m p1 p2 p3 p4 p5]
  have rp1 := rng64 p1
  have rp2 := rng32 p2
  have rp3 := rng32 p3
  have rp4 := rng32 p4
  have rp5 := rng32 p5
  refine own_lloadN (pc' := 1) X0 hx rfl (hb hby at_0) rfl ?_
  refine own_ldc2Long (pc' := 4) X0 hx hZ hown (hw _ (List.mem_of_getElem? (i := 0) rfl)) (hb hby at_1) rfl ?_
  obtain ⟨v1, hv1⟩ : ∃ z, p1 &&& (9223372036854775807 : Int64) = z := ⟨_, rfl⟩
  have f2 : v1.toInt = p1.toInt % 9223372036854775808 := by rw [← hv1]; exact c_maskL p1 (9223372036854775807 : Int64) 63 (by decide) (by decide)
  refine own_land (pc' := 5) X0 hx (z := v1) hv1 (hb hby at_4) rfl ?_
  refine own_lstore (pc' := 7) X0 hx #[.val (.long p1), .second, .val (.int p2), .val (.int p3), .val (.int p4), .val (.int p5), .val (.long v1), .second, .unset, .unset, .unset, .unset, .unset, .unset, .unset, .unset, .unset, .unset, .unset, .unset, .unset, .unset, .unset, .unset, .unset, .unset, .unset, .unset, .unset] rfl (hb hby at_5) rfl ?_
  refine own_iloadN (pc' := 8) X0 hx rfl (hb hby at_7) rfl ?_
  refine own_ldcInt (pc' := 10) X0 hx hZ hown (hw _ (List.mem_of_getElem? (i := 1) rfl)) (hb hby at_8) rfl ?_
  obtain ⟨v3, hv3⟩ : ∃ z, p2 &&& (2147483647 : Int32) = z := ⟨_, rfl⟩
  have f4 : v3.toInt = p2.toInt % 2147483648 := by rw [← hv3]; exact c_mask p2 (2147483647 : Int32) 31 (by decide) (by decide)
  refine own_iand (pc' := 11) X0 hx (z := v3) hv3 (hb hby at_10) rfl ?_
  refine own_istore (pc' := 13) X0 hx #[.val (.long p1), .second, .val (.int p2), .val (.int p3), .val (.int p4), .val (.int p5), .val (.long v1), .second, .val (.int v3), .unset, .unset, .unset, .unset, .unset, .unset, .unset, .unset, .unset, .unset, .unset, .unset, .unset, .unset, .unset, .unset, .unset, .unset, .unset, .unset] rfl (hb hby at_11) rfl ?_
  refine own_iloadN (pc' := 14) X0 hx rfl (hb hby at_13) rfl ?_
  refine own_ldcInt (pc' := 16) X0 hx hZ hown (hw _ (List.mem_of_getElem? (i := 1) rfl)) (hb hby at_14) rfl ?_
  obtain ⟨v5, hv5⟩ : ∃ z, p3 &&& (2147483647 : Int32) = z := ⟨_, rfl⟩
  have f6 : v5.toInt = p3.toInt % 2147483648 := by rw [← hv5]; exact c_mask p3 (2147483647 : Int32) 31 (by decide) (by decide)
  refine own_iand (pc' := 17) X0 hx (z := v5) hv5 (hb hby at_16) rfl ?_
  refine own_istore (pc' := 19) X0 hx #[.val (.long p1), .second, .val (.int p2), .val (.int p3), .val (.int p4), .val (.int p5), .val (.long v1), .second, .val (.int v3), .val (.int v5), .unset, .unset, .unset, .unset, .unset, .unset, .unset, .unset, .unset, .unset, .unset, .unset, .unset, .unset, .unset, .unset, .unset, .unset, .unset] rfl (hb hby at_17) rfl ?_
  refine own_iload (pc' := 21) X0 hx rfl (hb hby at_19) rfl ?_
  refine own_ldcInt (pc' := 23) X0 hx hZ hown (hw _ (List.mem_of_getElem? (i := 1) rfl)) (hb hby at_21) rfl ?_
  obtain ⟨v7, hv7⟩ : ∃ z, p4 &&& (2147483647 : Int32) = z := ⟨_, rfl⟩
  have f8 : v7.toInt = p4.toInt % 2147483648 := by rw [← hv7]; exact c_mask p4 (2147483647 : Int32) 31 (by decide) (by decide)
  refine own_iand (pc' := 24) X0 hx (z := v7) hv7 (hb hby at_23) rfl ?_
  refine own_istore (pc' := 26) X0 hx #[.val (.long p1), .second, .val (.int p2), .val (.int p3), .val (.int p4), .val (.int p5), .val (.long v1), .second, .val (.int v3), .val (.int v5), .val (.int v7), .unset, .unset, .unset, .unset, .unset, .unset, .unset, .unset, .unset, .unset, .unset, .unset, .unset, .unset, .unset, .unset, .unset, .unset] rfl (hb hby at_24) rfl ?_
  refine own_iload (pc' := 28) X0 hx rfl (hb hby at_26) rfl ?_
  refine own_ldcInt (pc' := 30) X0 hx hZ hown (hw _ (List.mem_of_getElem? (i := 1) rfl)) (hb hby at_28) rfl ?_
  obtain ⟨v9, hv9⟩ : ∃ z, p5 &&& (2147483647 : Int32) = z := ⟨_, rfl⟩
  have f10 : v9.toInt = p5.toInt % 2147483648 := by rw [← hv9]; exact c_mask p5 (2147483647 : Int32) 31 (by decide) (by decide)
  refine own_iand (pc' := 31) X0 hx (z := v9) hv9 (hb hby at_30) rfl ?_
  refine own_istore (pc' := 33) X0 hx #[.val (.long p1), .second, .val (.int p2), .val (.int p3), .val (.int p4), .val (.int p5), .val (.long v1), .second, .val (.int v3), .val (.int v5), .val (.int v7), .val (.int v9), .unset, .unset, .unset, .unset, .unset, .unset, .unset, .unset, .unset, .unset, .unset, .unset, .unset, .unset, .unset, .unset, .unset] rfl (hb hby at_31) rfl ?_
  obtain ⟨T11, h11, X11, e11, E11, A11, D11, -, st11⟩ := newO X0 hx hZ hown (hw _ (List.mem_of_getElem? (i := 2) rfl)) (hw _ (List.mem_of_getElem? (i := 3) rfl)) (hw _ (List.mem_of_getElem? (i := 4) rfl)) e0 (g := (mkF m 33 #[.val (.long p1), .second, .val (.int p2), .val (.int p3), .val (.int p4), .val (.int p5), .val (.long v1), .second, .val (.int v3), .val (.int v5), .val (.int v7), .val (.int v9), .unset, .unset, .unset, .unset, .unset, .unset, .unset, .unset, .unset, .unset, .unset, .unset, .unset, .unset, .unset, .unset, .unset] [])) rfl (hb hby at_33) (by decide) (by decide)
  obtain ⟨a11, ga11⟩ : ∃ z, z = h0.size := ⟨_, rfl⟩
  rw [← ga11] at A11 D11 st11
  have fr11 : n0 ≤ a11 := Nat.le_trans Z0 (Nat.le_of_eq ga11.symm)
  have Z12 : n0 ≤ h11.size := Nat.le_trans Z0 E11.1
  have F13 : Fld Z h11 a11 "com/example/rebalanced/rebalanced/server/RequestBudget" "limitBytes" "J" (.long (0 : Int64)) := D11 (Or.inr (hw _ (List.mem_of_getElem? (i := 12) rfl))) (ty := .long) (by decide)
  have F14 : Fld Z h11 a11 "com/example/rebalanced/rebalanced/server/RequestBudget" "reservedBytes" "J" (.long (0 : Int64)) := D11 (Or.inl (hw _ (List.mem_of_getElem? (i := 19) rfl))) (ty := .long) (by decide)
  refine own_by st11 ?_
  show own_Go p e below (Q0 Z p1 p2 p3 p4 p5 h0 n0) (own_Fr s room_1.cells room_1.slots) (T11.setTop (mkF m 36 #[.val (.long p1), .second, .val (.int p2), .val (.int p3), .val (.int p4), .val (.int p5), .val (.long v1), .second, .val (.int v3), .val (.int v5), .val (.int v7), .val (.int v9), .unset, .unset, .unset, .unset, .unset, .unset, .unset, .unset, .unset, .unset, .unset, .unset, .unset, .unset, .unset, .unset, .unset] [(.ref a11)]))
  refine own_dup (pc' := 37) X11 hx rfl (hb hby at_36) rfl ?_
  refine own_lload (pc' := 39) X11 hx rfl (hb hby at_37) rfl ?_
  obtain ⟨_, _, ⟨T15, L15, k15, n15⟩, -, X15, ⟨Lc15, hQ15, l15, y15, z15⟩, st15⟩ := X11.specialBack hx (y := (⟨"com/example/rebalanced/rebalanced/server/RequestBudget", "<init>", "(J)V"⟩ : MethodName)) rfl hown (mvT hZ (hw _ (List.mem_of_getElem? (i := 5) rfl))) (mvT hZ (hw _ (List.mem_of_getElem? (i := 6) rfl))) (mvT hZ (hw _ (List.mem_of_getElem? (i := 7) rfl))) (by decide) (backOf (W := 1) (rm1 l Z a0 hw [] a11 v1 h11 n0 Z12 A11 F13 F14 fr11) hZ (hw _ (List.mem_of_getElem? (i := 7) rfl)) (hw _ (List.mem_of_getElem? (i := 4) rfl)) (by decide) (by decide)) (g := (mkF m 39 #[.val (.long p1), .second, .val (.int p2), .val (.int p3), .val (.int p4), .val (.int p5), .val (.long v1), .second, .val (.int v3), .val (.int v5), .val (.int v7), .val (.int v9), .unset, .unset, .unset, .unset, .unset, .unset, .unset, .unset, .unset, .unset, .unset, .unset, .unset, .unset, .unset, .unset, .unset] [(.long v1), (.ref a11), (.ref a11)])) rfl (by rw [hml]; rfl) (Steps.refl _) (a := a11) (argsL := [(.long v1)]) (rest := [(.ref a11)]) (lenOf pd_0 rfl) rfl (by show 2 * 0 + _ ≤ _; exact Nat.le_of_eq rfl) (hb hby at_39) (fun _ _ => ⟨rfl, e11, (by decide : 1 + 0 ≤ _), (by decide : 2 + 0 ≤ _)⟩)
  dsimp only [Pt.U, Pt.locs, Pt.cells, Pt.slots] at X15 l15 y15 z15 st15 hQ15
  subst l15 y15 z15
  obtain ⟨rfl, pp15, N15, Kc15, Ec15_a1, Fc15_0, Fc15_1⟩ := hQ15
  have Z16 : n0 ≤ T15.heap.size := Nat.le_trans Z12 Kc15.1
  have N15a := Fr.app N0 N15
  refine own_via st15 ?_
  show own_Go p e below (Q0 Z p1 p2 p3 p4 p5 h0 n0) (own_Fr s room_1.cells room_1.slots) (T15.setTop (mkF m 42 #[.val (.long p1), .second, .val (.int p2), .val (.int p3), .val (.int p4), .val (.int p5), .val (.long v1), .second, .val (.int v3), .val (.int v5), .val (.int v7), .val (.int v9), .unset, .unset, .unset, .unset, .unset, .unset, .unset, .unset, .unset, .unset, .unset, .unset, .unset, .unset, .unset, .unset, .unset] [(.ref a11)]))
  refine own_astore (pc' := 44) X15 hx #[.val (.long p1), .second, .val (.int p2), .val (.int p3), .val (.int p4), .val (.int p5), .val (.long v1), .second, .val (.int v3), .val (.int v5), .val (.int v7), .val (.int v9), .val (.ref a11), .unset, .unset, .unset, .unset, .unset, .unset, .unset, .unset, .unset, .unset, .unset, .unset, .unset, .unset, .unset, .unset] rfl rfl (hb hby at_42) rfl ?_
  refine own_aload (pc' := 46) X15 hx rfl rfl (hb hby at_44) rfl ?_
  refine own_iload (pc' := 48) X15 hx rfl (hb hby at_46) rfl ?_
  have kq18 : (0 : Int64).toInt = 0 := by decide
  obtain ⟨cq17, kq17, q17a, q17b, q17c⟩ := isOf hZ rfl Ec15_a1
  obtain ⟨_, _, ⟨T17, L17, k17, n17⟩, -, X17, ⟨Lc17, hQ17, l17, y17, z17⟩, st17⟩ := X15.virtualBack hx (y := (⟨"com/example/rebalanced/rebalanced/server/RequestBudget", "tryReserve", "(I)Z"⟩ : MethodName)) (z := (⟨"com/example/rebalanced/rebalanced/server/RequestBudget", "tryReserve", "(I)Z"⟩ : MethodName)) hown (mvT hZ (hw _ (List.mem_of_getElem? (i := 13) rfl))) (mvT hZ (hw _ (List.mem_of_getElem? (i := 14) rfl))) (notFace_of_selects (args := #[]) (mvT hZ (hw _ (List.mem_of_getElem? (i := 16) rfl)))) (mvT hZ (hw _ (List.mem_of_getElem? (i := 16) rfl))) (mvT hZ (hw _ (List.mem_of_getElem? (i := 15) rfl))) (by decide) (backOf (W := 0) (rm3 l Z a0 hw [] a11 v3 v1 (0 : Int64) T15.heap n0 Z16 Ec15_a1 Fc15_0 Fc15_1 fr11 (by omega) (by omega)) hZ (hw _ (List.mem_of_getElem? (i := 17) rfl)) (hw _ (List.mem_of_getElem? (i := 4) rfl)) (by decide) (by decide)) q17a q17c (g := (mkF m 48 #[.val (.long p1), .second, .val (.int p2), .val (.int p3), .val (.int p4), .val (.int p5), .val (.long v1), .second, .val (.int v3), .val (.int v5), .val (.int v7), .val (.int v9), .val (.ref a11), .unset, .unset, .unset, .unset, .unset, .unset, .unset, .unset, .unset, .unset, .unset, .unset, .unset, .unset, .unset, .unset] [(.int v3), (.ref a11)])) rfl (by rw [hml]; rfl) (Steps.refl _) (argsL := [(.int v3)]) (rest := []) (lenOf pd_1 rfl) rfl (by show 2 * 0 + _ ≤ _; exact Nat.le_of_eq rfl) (hb hby at_48) (fun _ _ => ⟨rfl, rfl, (by decide : 1 + 0 ≤ _), (by decide : 2 + 0 ≤ _)⟩)
  dsimp only [Pt.U, Pt.locs, Pt.cells, Pt.slots] at X17 l17 y17 z17 st17 hQ17
  subst l17 y17 z17
  obtain ⟨o17, n5_17, rfl, pp17, N17, Kc17, Ec17_a1, Fc17_0, Fc17_1⟩ := hQ17
  have Z19 : n0 ≤ T17.heap.size := Nat.le_trans Z16 Kc17.1
  have ro17 := rng32 o17
  have rn5_17 := rng64 n5_17
  have N17a := Fr.app N15a N17
  refine own_via st17 ?_
  show own_Go p e below (Q0 Z p1 p2 p3 p4 p5 h0 n0) (own_Fr s room_1.cells room_1.slots) (T17.setTop (mkF m 51 #[.val (.long p1), .second, .val (.int p2), .val (.int p3), .val (.int p4), .val (.int p5), .val (.long v1), .second, .val (.int v3), .val (.int v5), .val (.int v7), .val (.int v9), .val (.ref a11), .unset, .unset, .unset, .unset, .unset, .unset, .unset, .unset, .unset, .unset, .unset, .unset, .unset, .unset, .unset, .unset] [(.int o17)]))
  rcases pp17 with ⟨hr17, pp17⟩ | ⟨hr17, pp17⟩
  · obtain rfl : o17 = (1 : Int32) := Int32.toInt_inj.mp hr17
    refine own_istore (pc' := 53) X17 hx #[.val (.long p1), .second, .val (.int p2), .val (.int p3), .val (.int p4), .val (.int p5), .val (.long v1), .second, .val (.int v3), .val (.int v5), .val (.int v7), .val (.int v9), .val (.ref a11), .val (.int (1 : Int32)), .unset, .unset, .unset, .unset, .unset, .unset, .unset, .unset, .unset, .unset, .unset, .unset, .unset, .unset, .unset] rfl (hb hby at_51) rfl ?_
    refine own_iload (pc' := 55) X17 hx rfl (hb hby at_53) rfl ?_
    obtain ⟨v20, hv20⟩ : ∃ z, v3.toInt64 = z := ⟨_, rfl⟩
    have f21 : v20.toInt = v3.toInt := by rw [← hv20]; exact c_i2l v3
    refine own_i2l (pc' := 56) X17 hx (z := v20) hv20 (hb hby at_55) rfl ?_
    refine own_lload (pc' := 58) X17 hx rfl (hb hby at_56) rfl ?_
    refine own_lcmp (pc' := 59) X17 hx rfl (hb hby at_58) rfl ?_
    have b22 : ¬ v1.toInt < v20.toInt := by omega
    refine own_ifNo (pc' := 62) X17 hx (own_lno_gt rfl rfl b22) (hb hby at_59) rfl ?_
    refine own_iconst (pc' := 63) X17 hx (1 : Int32) (by decide) (hb hby at_62) rfl ?_
    refine own_goto (pc' := 67) X17 hx (hb hby at_63) (by decide) (by decide) ?_
    refine own_istore (pc' := 69) X17 hx #[.val (.long p1), .second, .val (.int p2), .val (.int p3), .val (.int p4), .val (.int p5), .val (.long v1), .second, .val (.int v3), .val (.int v5), .val (.int v7), .val (.int v9), .val (.ref a11), .val (.int (1 : Int32)), .val (.int (1 : Int32)), .unset, .unset, .unset, .unset, .unset, .unset, .unset, .unset, .unset, .unset, .unset, .unset, .unset, .unset] rfl (hb hby at_67) rfl ?_
    refine own_iload (pc' := 71) X17 hx rfl (hb hby at_69) rfl ?_
    refine own_ifNo (pc' := 74) X17 hx (by decide) (hb hby at_71) rfl ?_
    refine own_lload (pc' := 76) X17 hx rfl (hb hby at_74) rfl ?_
    refine own_iload (pc' := 78) X17 hx rfl (hb hby at_76) rfl ?_
    obtain ⟨v23, hv23⟩ : ∃ z, v3.toInt64 = z := ⟨_, rfl⟩
    have f24 : v23.toInt = v3.toInt := by rw [← hv23]; exact c_i2l v3
    refine own_i2l (pc' := 79) X17 hx (z := v23) hv23 (hb hby at_78) rfl ?_
    obtain ⟨v25, hv25⟩ : ∃ z, v1 - v23 = z := ⟨_, rfl⟩
    have f26 : (v25.toInt - (v1.toInt - v23.toInt)) % 18446744073709551616 = 0 := by rw [← hv25]; exact c_lsub v1 v23
    have rv25 := rng64 v25
    replace f26 : v25.toInt = v1.toInt - v23.toInt := by omega
    refine own_lsub (pc' := 80) X17 hx (z := v25) hv25 (hb hby at_79) rfl ?_
    refine own_goto (pc' := 85) X17 hx (hb hby at_80) (by decide) (by decide) ?_
    refine own_lstore (pc' := 87) X17 hx #[.val (.long p1), .second, .val (.int p2), .val (.int p3), .val (.int p4), .val (.int p5), .val (.long v1), .second, .val (.int v3), .val (.int v5), .val (.int v7), .val (.int v9), .val (.ref a11), .val (.int (1 : Int32)), .val (.int (1 : Int32)), .val (.long v25), .second, .unset, .unset, .unset, .unset, .unset, .unset, .unset, .unset, .unset, .unset, .unset, .unset] rfl (hb hby at_85) rfl ?_
    refine own_aload (pc' := 89) X17 hx rfl rfl (hb hby at_87) rfl ?_
    refine own_iload (pc' := 91) X17 hx rfl (hb hby at_89) rfl ?_
    obtain ⟨cq27, kq27, q27a, q27b, q27c⟩ := isOf hZ rfl Ec17_a1
    obtain ⟨_, _, ⟨T27, L27, k27, n27⟩, -, X27, ⟨Lc27, hQ27, l27, y27, z27⟩, st27⟩ := X17.virtualBack hx (y := (⟨"com/example/rebalanced/rebalanced/server/RequestBudget", "tryReserve", "(I)Z"⟩ : MethodName)) (z := (⟨"com/example/rebalanced/rebalanced/server/RequestBudget", "tryReserve", "(I)Z"⟩ : MethodName)) hown (mvT hZ (hw _ (List.mem_of_getElem? (i := 13) rfl))) (mvT hZ (hw _ (List.mem_of_getElem? (i := 14) rfl))) (notFace_of_selects (args := #[]) (mvT hZ (hw _ (List.mem_of_getElem? (i := 16) rfl)))) (mvT hZ (hw _ (List.mem_of_getElem? (i := 16) rfl))) (mvT hZ (hw _ (List.mem_of_getElem? (i := 15) rfl))) (by decide) (backOf (W := 0) (rm3 l Z a0 hw [] a11 v5 v1 n5_17 T17.heap n0 Z19 Ec17_a1 Fc17_0 Fc17_1 fr11 (by omega) (by omega)) hZ (hw _ (List.mem_of_getElem? (i := 17) rfl)) (hw _ (List.mem_of_getElem? (i := 4) rfl)) (by decide) (by decide)) q27a q27c (g := (mkF m 91 #[.val (.long p1), .second, .val (.int p2), .val (.int p3), .val (.int p4), .val (.int p5), .val (.long v1), .second, .val (.int v3), .val (.int v5), .val (.int v7), .val (.int v9), .val (.ref a11), .val (.int (1 : Int32)), .val (.int (1 : Int32)), .val (.long v25), .second, .unset, .unset, .unset, .unset, .unset, .unset, .unset, .unset, .unset, .unset, .unset, .unset] [(.int v5), (.ref a11)])) rfl (by rw [hml]; rfl) (Steps.refl _) (argsL := [(.int v5)]) (rest := []) (lenOf pd_1 rfl) rfl (by show 2 * 0 + _ ≤ _; exact Nat.le_of_eq rfl) (hb hby at_91) (fun _ _ => ⟨rfl, rfl, (by decide : 1 + 0 ≤ _), (by decide : 2 + 0 ≤ _)⟩)
    dsimp only [Pt.U, Pt.locs, Pt.cells, Pt.slots] at X27 l27 y27 z27 st27 hQ27
    subst l27 y27 z27
    obtain ⟨o27, n5_27, rfl, pp27, N27, Kc27, Ec27_a1, Fc27_0, Fc27_1⟩ := hQ27
    have Z28 : n0 ≤ T27.heap.size := Nat.le_trans Z19 Kc27.1
    have ro27 := rng32 o27
    have rn5_27 := rng64 n5_27
    have N27a := Fr.app N17a N27
    refine own_via st27 ?_
    show own_Go p e below (Q0 Z p1 p2 p3 p4 p5 h0 n0) (own_Fr s room_1.cells room_1.slots) (T27.setTop (mkF m 94 #[.val (.long p1), .second, .val (.int p2), .val (.int p3), .val (.int p4), .val (.int p5), .val (.long v1), .second, .val (.int v3), .val (.int v5), .val (.int v7), .val (.int v9), .val (.ref a11), .val (.int (1 : Int32)), .val (.int (1 : Int32)), .val (.long v25), .second, .unset, .unset, .unset, .unset, .unset, .unset, .unset, .unset, .unset, .unset, .unset, .unset] [(.int o27)]))
    rcases pp27 with ⟨hr27, pp27⟩ | ⟨hr27, pp27⟩
    · obtain rfl : o27 = (1 : Int32) := Int32.toInt_inj.mp hr27
      refine own_istore (pc' := 96) X27 hx #[.val (.long p1), .second, .val (.int p2), .val (.int p3), .val (.int p4), .val (.int p5), .val (.long v1), .second, .val (.int v3), .val (.int v5), .val (.int v7), .val (.int v9), .val (.ref a11), .val (.int (1 : Int32)), .val (.int (1 : Int32)), .val (.long v25), .second, .val (.int (1 : Int32)), .unset, .unset, .unset, .unset, .unset, .unset, .unset, .unset, .unset, .unset, .unset] rfl (hb hby at_94) rfl ?_
      refine own_iload (pc' := 98) X27 hx rfl (hb hby at_96) rfl ?_
      obtain ⟨v29, hv29⟩ : ∃ z, v5.toInt64 = z := ⟨_, rfl⟩
      have f30 : v29.toInt = v5.toInt := by rw [← hv29]; exact c_i2l v5
      refine own_i2l (pc' := 99) X27 hx (z := v29) hv29 (hb hby at_98) rfl ?_
      refine own_lload (pc' := 101) X27 hx rfl (hb hby at_99) rfl ?_
      refine own_lcmp (pc' := 102) X27 hx rfl (hb hby at_101) rfl ?_
      have b31 : ¬ v25.toInt < v29.toInt := by omega
      refine own_ifNo (pc' := 105) X27 hx (own_lno_gt rfl rfl b31) (hb hby at_102) rfl ?_
      refine own_iconst (pc' := 106) X27 hx (1 : Int32) (by decide) (hb hby at_105) rfl ?_
      refine own_goto (pc' := 110) X27 hx (hb hby at_106) (by decide) (by decide) ?_
      refine own_istore (pc' := 112) X27 hx #[.val (.long p1), .second, .val (.int p2), .val (.int p3), .val (.int p4), .val (.int p5), .val (.long v1), .second, .val (.int v3), .val (.int v5), .val (.int v7), .val (.int v9), .val (.ref a11), .val (.int (1 : Int32)), .val (.int (1 : Int32)), .val (.long v25), .second, .val (.int (1 : Int32)), .val (.int (1 : Int32)), .unset, .unset, .unset, .unset, .unset, .unset, .unset, .unset, .unset, .unset] rfl (hb hby at_110) rfl ?_
      refine own_iload (pc' := 114) X27 hx rfl (hb hby at_112) rfl ?_
      refine own_ifNo (pc' := 117) X27 hx (by decide) (hb hby at_114) rfl ?_
      refine own_lload (pc' := 119) X27 hx rfl (hb hby at_117) rfl ?_
      refine own_iload (pc' := 121) X27 hx rfl (hb hby at_119) rfl ?_
      obtain ⟨v32, hv32⟩ : ∃ z, v5.toInt64 = z := ⟨_, rfl⟩
      have f33 : v32.toInt = v5.toInt := by rw [← hv32]; exact c_i2l v5
      refine own_i2l (pc' := 122) X27 hx (z := v32) hv32 (hb hby at_121) rfl ?_
      obtain ⟨v34, hv34⟩ : ∃ z, v25 - v32 = z := ⟨_, rfl⟩
      have f35 : (v34.toInt - (v25.toInt - v32.toInt)) % 18446744073709551616 = 0 := by rw [← hv34]; exact c_lsub v25 v32
      have rv34 := rng64 v34
      replace f35 : v34.toInt = v25.toInt - v32.toInt := by omega
      refine own_lsub (pc' := 123) X27 hx (z := v34) hv34 (hb hby at_122) rfl ?_
      refine own_goto (pc' := 128) X27 hx (hb hby at_123) (by decide) (by decide) ?_
      refine own_lstore (pc' := 130) X27 hx #[.val (.long p1), .second, .val (.int p2), .val (.int p3), .val (.int p4), .val (.int p5), .val (.long v1), .second, .val (.int v3), .val (.int v5), .val (.int v7), .val (.int v9), .val (.ref a11), .val (.int (1 : Int32)), .val (.int (1 : Int32)), .val (.long v25), .second, .val (.int (1 : Int32)), .val (.int (1 : Int32)), .val (.long v34), .second, .unset, .unset, .unset, .unset, .unset, .unset, .unset, .unset] rfl (hb hby at_128) rfl ?_
      refine own_iload (pc' := 132) X27 hx rfl (hb hby at_130) rfl ?_
      refine own_ifNo (pc' := 135) X27 hx (by decide) (hb hby at_132) rfl ?_
      refine own_aload (pc' := 137) X27 hx rfl rfl (hb hby at_135) rfl ?_
      refine own_iload (pc' := 139) X27 hx rfl (hb hby at_137) rfl ?_
      obtain ⟨cq36, kq36, q36a, q36b, q36c⟩ := isOf hZ rfl Ec27_a1
      obtain ⟨_, _, ⟨T36, L36, k36, n36⟩, -, X36, ⟨Lc36, hQ36, l36, y36, z36⟩, st36⟩ := X27.virtualBack hx (y := (⟨"com/example/rebalanced/rebalanced/server/RequestBudget", "release", "(I)V"⟩ : MethodName)) (z := (⟨"com/example/rebalanced/rebalanced/server/RequestBudget", "release", "(I)V"⟩ : MethodName)) hown (mvT hZ (hw _ (List.mem_of_getElem? (i := 20) rfl))) (mvT hZ (hw _ (List.mem_of_getElem? (i := 21) rfl))) (notFace_of_selects (args := #[]) (mvT hZ (hw _ (List.mem_of_getElem? (i := 23) rfl)))) (mvT hZ (hw _ (List.mem_of_getElem? (i := 23) rfl))) (mvT hZ (hw _ (List.mem_of_getElem? (i := 22) rfl))) (by decide) (backOf (W := 0) (rm4 l Z a0 hw [] a11 v3 v1 n5_27 T27.heap n0 Z28 Ec27_a1 Fc27_0 Fc27_1 fr11 (by omega) (by omega)) hZ (hw _ (List.mem_of_getElem? (i := 24) rfl)) (hw _ (List.mem_of_getElem? (i := 4) rfl)) (by decide) (by decide)) q36a q36c (g := (mkF m 139 #[.val (.long p1), .second, .val (.int p2), .val (.int p3), .val (.int p4), .val (.int p5), .val (.long v1), .second, .val (.int v3), .val (.int v5), .val (.int v7), .val (.int v9), .val (.ref a11), .val (.int (1 : Int32)), .val (.int (1 : Int32)), .val (.long v25), .second, .val (.int (1 : Int32)), .val (.int (1 : Int32)), .val (.long v34), .second, .unset, .unset, .unset, .unset, .unset, .unset, .unset, .unset] [(.int v3), (.ref a11)])) rfl (by rw [hml]; rfl) (Steps.refl _) (argsL := [(.int v3)]) (rest := []) (lenOf pd_2 rfl) rfl (by show 2 * 0 + _ ≤ _; exact Nat.le_of_eq rfl) (hb hby at_139) (fun _ _ => ⟨rfl, rfl, (by decide : 1 + 0 ≤ _), (by decide : 2 + 0 ≤ _)⟩)
      dsimp only [Pt.U, Pt.locs, Pt.cells, Pt.slots] at X36 l36 y36 z36 st36 hQ36
      subst l36 y36 z36
      obtain ⟨n5_36, rfl, pp36, N36, Kc36, Ec36_a1, Fc36_0, Fc36_1⟩ := hQ36
      have Z37 : n0 ≤ T36.heap.size := Nat.le_trans Z28 Kc36.1
      have rn5_36 := rng64 n5_36
      have N36a := Fr.app N27a N36
      refine own_via st36 ?_
      show own_Go p e below (Q0 Z p1 p2 p3 p4 p5 h0 n0) (own_Fr s room_1.cells room_1.slots) (T36.setTop (mkF m 142 #[.val (.long p1), .second, .val (.int p2), .val (.int p3), .val (.int p4), .val (.int p5), .val (.long v1), .second, .val (.int v3), .val (.int v5), .val (.int v7), .val (.int v9), .val (.ref a11), .val (.int (1 : Int32)), .val (.int (1 : Int32)), .val (.long v25), .second, .val (.int (1 : Int32)), .val (.int (1 : Int32)), .val (.long v34), .second, .unset, .unset, .unset, .unset, .unset, .unset, .unset, .unset] []))
      refine own_iload (pc' := 144) X36 hx rfl (hb hby at_142) rfl ?_
      refine own_ifNo (pc' := 147) X36 hx (by decide) (hb hby at_144) rfl ?_
      refine own_lload (pc' := 149) X36 hx rfl (hb hby at_147) rfl ?_
      refine own_iload (pc' := 151) X36 hx rfl (hb hby at_149) rfl ?_
      obtain ⟨v38, hv38⟩ : ∃ z, v3.toInt64 = z := ⟨_, rfl⟩
      have f39 : v38.toInt = v3.toInt := by rw [← hv38]; exact c_i2l v3
      refine own_i2l (pc' := 152) X36 hx (z := v38) hv38 (hb hby at_151) rfl ?_
      obtain ⟨v40, hv40⟩ : ∃ z, v34 + v38 = z := ⟨_, rfl⟩
      have f41 : (v40.toInt - (v34.toInt + v38.toInt)) % 18446744073709551616 = 0 := by rw [← hv40]; exact c_ladd v34 v38
      have rv40 := rng64 v40
      replace f41 : v40.toInt = v34.toInt + v38.toInt := by omega
      refine own_ladd (pc' := 153) X36 hx (z := v40) hv40 (hb hby at_152) rfl ?_
      refine own_goto (pc' := 158) X36 hx (hb hby at_153) (by decide) (by decide) ?_
      refine own_lstore (pc' := 160) X36 hx #[.val (.long p1), .second, .val (.int p2), .val (.int p3), .val (.int p4), .val (.int p5), .val (.long v1), .second, .val (.int v3), .val (.int v5), .val (.int v7), .val (.int v9), .val (.ref a11), .val (.int (1 : Int32)), .val (.int (1 : Int32)), .val (.long v25), .second, .val (.int (1 : Int32)), .val (.int (1 : Int32)), .val (.long v34), .second, .val (.long v40), .second, .unset, .unset, .unset, .unset, .unset, .unset] rfl (hb hby at_158) rfl ?_
      refine own_aload (pc' := 162) X36 hx rfl rfl (hb hby at_160) rfl ?_
      refine own_iload (pc' := 164) X36 hx rfl (hb hby at_162) rfl ?_
      obtain ⟨cq42, kq42, q42a, q42b, q42c⟩ := isOf hZ rfl Ec36_a1
      obtain ⟨_, _, ⟨T42, L42, k42, n42⟩, -, X42, ⟨Lc42, hQ42, l42, y42, z42⟩, st42⟩ := X36.virtualBack hx (y := (⟨"com/example/rebalanced/rebalanced/server/RequestBudget", "tryReserve", "(I)Z"⟩ : MethodName)) (z := (⟨"com/example/rebalanced/rebalanced/server/RequestBudget", "tryReserve", "(I)Z"⟩ : MethodName)) hown (mvT hZ (hw _ (List.mem_of_getElem? (i := 13) rfl))) (mvT hZ (hw _ (List.mem_of_getElem? (i := 14) rfl))) (notFace_of_selects (args := #[]) (mvT hZ (hw _ (List.mem_of_getElem? (i := 16) rfl)))) (mvT hZ (hw _ (List.mem_of_getElem? (i := 16) rfl))) (mvT hZ (hw _ (List.mem_of_getElem? (i := 15) rfl))) (by decide) (backOf (W := 0) (rm3 l Z a0 hw [] a11 v7 v1 n5_36 T36.heap n0 Z37 Ec36_a1 Fc36_0 Fc36_1 fr11 (by omega) (by omega)) hZ (hw _ (List.mem_of_getElem? (i := 17) rfl)) (hw _ (List.mem_of_getElem? (i := 4) rfl)) (by decide) (by decide)) q42a q42c (g := (mkF m 164 #[.val (.long p1), .second, .val (.int p2), .val (.int p3), .val (.int p4), .val (.int p5), .val (.long v1), .second, .val (.int v3), .val (.int v5), .val (.int v7), .val (.int v9), .val (.ref a11), .val (.int (1 : Int32)), .val (.int (1 : Int32)), .val (.long v25), .second, .val (.int (1 : Int32)), .val (.int (1 : Int32)), .val (.long v34), .second, .val (.long v40), .second, .unset, .unset, .unset, .unset, .unset, .unset] [(.int v7), (.ref a11)])) rfl (by rw [hml]; rfl) (Steps.refl _) (argsL := [(.int v7)]) (rest := []) (lenOf pd_1 rfl) rfl (by show 2 * 0 + _ ≤ _; exact Nat.le_of_eq rfl) (hb hby at_164) (fun _ _ => ⟨rfl, rfl, (by decide : 1 + 0 ≤ _), (by decide : 2 + 0 ≤ _)⟩)
      dsimp only [Pt.U, Pt.locs, Pt.cells, Pt.slots] at X42 l42 y42 z42 st42 hQ42
      subst l42 y42 z42
      obtain ⟨o42, n5_42, rfl, pp42, N42, Kc42, Ec42_a1, Fc42_0, Fc42_1⟩ := hQ42
      have Z43 : n0 ≤ T42.heap.size := Nat.le_trans Z37 Kc42.1
      have ro42 := rng32 o42
      have rn5_42 := rng64 n5_42
      have N42a := Fr.app N36a N42
      refine own_via st42 ?_
      show own_Go p e below (Q0 Z p1 p2 p3 p4 p5 h0 n0) (own_Fr s room_1.cells room_1.slots) (T42.setTop (mkF m 167 #[.val (.long p1), .second, .val (.int p2), .val (.int p3), .val (.int p4), .val (.int p5), .val (.long v1), .second, .val (.int v3), .val (.int v5), .val (.int v7), .val (.int v9), .val (.ref a11), .val (.int (1 : Int32)), .val (.int (1 : Int32)), .val (.long v25), .second, .val (.int (1 : Int32)), .val (.int (1 : Int32)), .val (.long v34), .second, .val (.long v40), .second, .unset, .unset, .unset, .unset, .unset, .unset] [(.int o42)]))
      rcases pp42 with ⟨hr42, pp42⟩ | ⟨hr42, pp42⟩
      · obtain rfl : o42 = (1 : Int32) := Int32.toInt_inj.mp hr42
        refine own_istore (pc' := 169) X42 hx #[.val (.long p1), .second, .val (.int p2), .val (.int p3), .val (.int p4), .val (.int p5), .val (.long v1), .second, .val (.int v3), .val (.int v5), .val (.int v7), .val (.int v9), .val (.ref a11), .val (.int (1 : Int32)), .val (.int (1 : Int32)), .val (.long v25), .second, .val (.int (1 : Int32)), .val (.int (1 : Int32)), .val (.long v34), .second, .val (.long v40), .second, .val (.int (1 : Int32)), .unset, .unset, .unset, .unset, .unset] rfl (hb hby at_167) rfl ?_
        refine own_iload (pc' := 171) X42 hx rfl (hb hby at_169) rfl ?_
        obtain ⟨v44, hv44⟩ : ∃ z, v7.toInt64 = z := ⟨_, rfl⟩
        have f45 : v44.toInt = v7.toInt := by rw [← hv44]; exact c_i2l v7
        refine own_i2l (pc' := 172) X42 hx (z := v44) hv44 (hb hby at_171) rfl ?_
        refine own_lload (pc' := 174) X42 hx rfl (hb hby at_172) rfl ?_
        refine own_lcmp (pc' := 175) X42 hx rfl (hb hby at_174) rfl ?_
        have b46 : ¬ v40.toInt < v44.toInt := by omega
        refine own_ifNo (pc' := 178) X42 hx (own_lno_gt rfl rfl b46) (hb hby at_175) rfl ?_
        refine own_iconst (pc' := 179) X42 hx (1 : Int32) (by decide) (hb hby at_178) rfl ?_
        refine own_goto (pc' := 183) X42 hx (hb hby at_179) (by decide) (by decide) ?_
        refine own_istore (pc' := 185) X42 hx #[.val (.long p1), .second, .val (.int p2), .val (.int p3), .val (.int p4), .val (.int p5), .val (.long v1), .second, .val (.int v3), .val (.int v5), .val (.int v7), .val (.int v9), .val (.ref a11), .val (.int (1 : Int32)), .val (.int (1 : Int32)), .val (.long v25), .second, .val (.int (1 : Int32)), .val (.int (1 : Int32)), .val (.long v34), .second, .val (.long v40), .second, .val (.int (1 : Int32)), .val (.int (1 : Int32)), .unset, .unset, .unset, .unset] rfl (hb hby at_183) rfl ?_
        refine own_iload (pc' := 187) X42 hx rfl (hb hby at_185) rfl ?_
        refine own_ifNo (pc' := 190) X42 hx (by decide) (hb hby at_187) rfl ?_
        refine own_lload (pc' := 192) X42 hx rfl (hb hby at_190) rfl ?_
        refine own_iload (pc' := 194) X42 hx rfl (hb hby at_192) rfl ?_
        obtain ⟨v47, hv47⟩ : ∃ z, v7.toInt64 = z := ⟨_, rfl⟩
        have f48 : v47.toInt = v7.toInt := by rw [← hv47]; exact c_i2l v7
        refine own_i2l (pc' := 195) X42 hx (z := v47) hv47 (hb hby at_194) rfl ?_
        obtain ⟨v49, hv49⟩ : ∃ z, v40 - v47 = z := ⟨_, rfl⟩
        have f50 : (v49.toInt - (v40.toInt - v47.toInt)) % 18446744073709551616 = 0 := by rw [← hv49]; exact c_lsub v40 v47
        have rv49 := rng64 v49
        replace f50 : v49.toInt = v40.toInt - v47.toInt := by omega
        refine own_lsub (pc' := 196) X42 hx (z := v49) hv49 (hb hby at_195) rfl ?_
        refine own_goto (pc' := 201) X42 hx (hb hby at_196) (by decide) (by decide) ?_
        refine own_lstore (pc' := 203) X42 hx #[.val (.long p1), .second, .val (.int p2), .val (.int p3), .val (.int p4), .val (.int p5), .val (.long v1), .second, .val (.int v3), .val (.int v5), .val (.int v7), .val (.int v9), .val (.ref a11), .val (.int (1 : Int32)), .val (.int (1 : Int32)), .val (.long v25), .second, .val (.int (1 : Int32)), .val (.int (1 : Int32)), .val (.long v34), .second, .val (.long v40), .second, .val (.int (1 : Int32)), .val (.int (1 : Int32)), .val (.long v49), .second, .unset, .unset] rfl (hb hby at_201) rfl ?_
        refine own_aload (pc' := 205) X42 hx rfl rfl (hb hby at_203) rfl ?_
        refine own_iload (pc' := 207) X42 hx rfl (hb hby at_205) rfl ?_
        obtain ⟨cq51, kq51, q51a, q51b, q51c⟩ := isOf hZ rfl Ec42_a1
        obtain ⟨_, _, ⟨T51, L51, k51, n51⟩, -, X51, ⟨Lc51, hQ51, l51, y51, z51⟩, st51⟩ := X42.virtualBack hx (y := (⟨"com/example/rebalanced/rebalanced/server/RequestBudget", "tryReserve", "(I)Z"⟩ : MethodName)) (z := (⟨"com/example/rebalanced/rebalanced/server/RequestBudget", "tryReserve", "(I)Z"⟩ : MethodName)) hown (mvT hZ (hw _ (List.mem_of_getElem? (i := 13) rfl))) (mvT hZ (hw _ (List.mem_of_getElem? (i := 14) rfl))) (notFace_of_selects (args := #[]) (mvT hZ (hw _ (List.mem_of_getElem? (i := 16) rfl)))) (mvT hZ (hw _ (List.mem_of_getElem? (i := 16) rfl))) (mvT hZ (hw _ (List.mem_of_getElem? (i := 15) rfl))) (by decide) (backOf (W := 0) (rm3 l Z a0 hw [] a11 v9 v1 n5_42 T42.heap n0 Z43 Ec42_a1 Fc42_0 Fc42_1 fr11 (by omega) (by omega)) hZ (hw _ (List.mem_of_getElem? (i := 17) rfl)) (hw _ (List.mem_of_getElem? (i := 4) rfl)) (by decide) (by decide)) q51a q51c (g := (mkF m 207 #[.val (.long p1), .second, .val (.int p2), .val (.int p3), .val (.int p4), .val (.int p5), .val (.long v1), .second, .val (.int v3), .val (.int v5), .val (.int v7), .val (.int v9), .val (.ref a11), .val (.int (1 : Int32)), .val (.int (1 : Int32)), .val (.long v25), .second, .val (.int (1 : Int32)), .val (.int (1 : Int32)), .val (.long v34), .second, .val (.long v40), .second, .val (.int (1 : Int32)), .val (.int (1 : Int32)), .val (.long v49), .second, .unset, .unset] [(.int v9), (.ref a11)])) rfl (by rw [hml]; rfl) (Steps.refl _) (argsL := [(.int v9)]) (rest := []) (lenOf pd_1 rfl) rfl (by show 2 * 0 + _ ≤ _; exact Nat.le_of_eq rfl) (hb hby at_207) (fun _ _ => ⟨rfl, rfl, (by decide : 1 + 0 ≤ _), (by decide : 2 + 0 ≤ _)⟩)
        dsimp only [Pt.U, Pt.locs, Pt.cells, Pt.slots] at X51 l51 y51 z51 st51 hQ51
        subst l51 y51 z51
        obtain ⟨o51, n5_51, rfl, pp51, N51, Kc51, Ec51_a1, Fc51_0, Fc51_1⟩ := hQ51
        have Z52 : n0 ≤ T51.heap.size := Nat.le_trans Z43 Kc51.1
        have ro51 := rng32 o51
        have rn5_51 := rng64 n5_51
        have N51a := Fr.app N42a N51
        refine own_via st51 ?_
        show own_Go p e below (Q0 Z p1 p2 p3 p4 p5 h0 n0) (own_Fr s room_1.cells room_1.slots) (T51.setTop (mkF m 210 #[.val (.long p1), .second, .val (.int p2), .val (.int p3), .val (.int p4), .val (.int p5), .val (.long v1), .second, .val (.int v3), .val (.int v5), .val (.int v7), .val (.int v9), .val (.ref a11), .val (.int (1 : Int32)), .val (.int (1 : Int32)), .val (.long v25), .second, .val (.int (1 : Int32)), .val (.int (1 : Int32)), .val (.long v34), .second, .val (.long v40), .second, .val (.int (1 : Int32)), .val (.int (1 : Int32)), .val (.long v49), .second, .unset, .unset] [(.int o51)]))
        rcases pp51 with ⟨hr51, pp51⟩ | ⟨hr51, pp51⟩
        · obtain rfl : o51 = (1 : Int32) := Int32.toInt_inj.mp hr51
          refine own_istore (pc' := 212) X51 hx #[.val (.long p1), .second, .val (.int p2), .val (.int p3), .val (.int p4), .val (.int p5), .val (.long v1), .second, .val (.int v3), .val (.int v5), .val (.int v7), .val (.int v9), .val (.ref a11), .val (.int (1 : Int32)), .val (.int (1 : Int32)), .val (.long v25), .second, .val (.int (1 : Int32)), .val (.int (1 : Int32)), .val (.long v34), .second, .val (.long v40), .second, .val (.int (1 : Int32)), .val (.int (1 : Int32)), .val (.long v49), .second, .val (.int (1 : Int32)), .unset] rfl (hb hby at_210) rfl ?_
          refine own_iload (pc' := 214) X51 hx rfl (hb hby at_212) rfl ?_
          obtain ⟨v53, hv53⟩ : ∃ z, v9.toInt64 = z := ⟨_, rfl⟩
          have f54 : v53.toInt = v9.toInt := by rw [← hv53]; exact c_i2l v9
          refine own_i2l (pc' := 215) X51 hx (z := v53) hv53 (hb hby at_214) rfl ?_
          refine own_lload (pc' := 217) X51 hx rfl (hb hby at_215) rfl ?_
          refine own_lcmp (pc' := 218) X51 hx rfl (hb hby at_217) rfl ?_
          have b55 : ¬ v49.toInt < v53.toInt := by omega
          refine own_ifNo (pc' := 221) X51 hx (own_lno_gt rfl rfl b55) (hb hby at_218) rfl ?_
          refine own_iconst (pc' := 222) X51 hx (1 : Int32) (by decide) (hb hby at_221) rfl ?_
          refine own_goto (pc' := 226) X51 hx (hb hby at_222) (by decide) (by decide) ?_
          refine own_istore (pc' := 228) X51 hx #[.val (.long p1), .second, .val (.int p2), .val (.int p3), .val (.int p4), .val (.int p5), .val (.long v1), .second, .val (.int v3), .val (.int v5), .val (.int v7), .val (.int v9), .val (.ref a11), .val (.int (1 : Int32)), .val (.int (1 : Int32)), .val (.long v25), .second, .val (.int (1 : Int32)), .val (.int (1 : Int32)), .val (.long v34), .second, .val (.long v40), .second, .val (.int (1 : Int32)), .val (.int (1 : Int32)), .val (.long v49), .second, .val (.int (1 : Int32)), .val (.int (1 : Int32))] rfl (hb hby at_226) rfl ?_
          refine own_iload (pc' := 230) X51 hx rfl (hb hby at_228) rfl ?_
          refine own_iload (pc' := 232) X51 hx rfl (hb hby at_230) rfl ?_
          refine own_icmpNo (pc' := 235) X51 hx (by decide) (hb hby at_232) rfl ?_
          refine own_iload (pc' := 237) X51 hx rfl (hb hby at_235) rfl ?_
          refine own_iload (pc' := 239) X51 hx rfl (hb hby at_237) rfl ?_
          refine own_icmpNo (pc' := 242) X51 hx (by decide) (hb hby at_239) rfl ?_
          refine own_iload (pc' := 244) X51 hx rfl (hb hby at_242) rfl ?_
          refine own_iload (pc' := 246) X51 hx rfl (hb hby at_244) rfl ?_
          refine own_icmpNo (pc' := 249) X51 hx (by decide) (hb hby at_246) rfl ?_
          refine own_iload (pc' := 251) X51 hx rfl (hb hby at_249) rfl ?_
          refine own_iload (pc' := 253) X51 hx rfl (hb hby at_251) rfl ?_
          refine own_icmpNo (pc' := 256) X51 hx (by decide) (hb hby at_253) rfl ?_
          refine own_iconst (pc' := 257) X51 hx (1 : Int32) (by decide) (hb hby at_256) rfl ?_
          refine own_goto (pc' := 261) X51 hx (hb hby at_257) (by decide) (by decide) ?_
          refine own_ret X51 hx Bd.returns Bd.notSynchronized (Or.inl ⟨rfl, by simp, _, rfl⟩) (hb hby at_261) rfl (by decide) (by decide) ?_
          show Q0 Z p1 p2 p3 p4 p5 h0 n0 _ T51.heap _
          exact ⟨rfl, N51a⟩
        · obtain rfl : o51 = (0 : Int32) := Int32.toInt_inj.mp hr51
          refine own_istore (pc' := 212) X51 hx #[.val (.long p1), .second, .val (.int p2), .val (.int p3), .val (.int p4), .val (.int p5), .val (.long v1), .second, .val (.int v3), .val (.int v5), .val (.int v7), .val (.int v9), .val (.ref a11), .val (.int (1 : Int32)), .val (.int (1 : Int32)), .val (.long v25), .second, .val (.int (1 : Int32)), .val (.int (1 : Int32)), .val (.long v34), .second, .val (.long v40), .second, .val (.int (1 : Int32)), .val (.int (1 : Int32)), .val (.long v49), .second, .val (.int (0 : Int32)), .unset] rfl (hb hby at_210) rfl ?_
          refine own_iload (pc' := 214) X51 hx rfl (hb hby at_212) rfl ?_
          obtain ⟨v56, hv56⟩ : ∃ z, v9.toInt64 = z := ⟨_, rfl⟩
          have f57 : v56.toInt = v9.toInt := by rw [← hv56]; exact c_i2l v9
          refine own_i2l (pc' := 215) X51 hx (z := v56) hv56 (hb hby at_214) rfl ?_
          refine own_lload (pc' := 217) X51 hx rfl (hb hby at_215) rfl ?_
          refine own_lcmp (pc' := 218) X51 hx rfl (hb hby at_217) rfl ?_
          have b58 : v49.toInt < v56.toInt := by omega
          refine own_ifYes (pc' := 225) X51 hx (hb hby at_218) (own_lyes_gt rfl rfl b58) (by decide) (by decide) ?_
          refine own_iconst (pc' := 226) X51 hx (0 : Int32) (by decide) (hb hby at_225) rfl ?_
          refine own_istore (pc' := 228) X51 hx #[.val (.long p1), .second, .val (.int p2), .val (.int p3), .val (.int p4), .val (.int p5), .val (.long v1), .second, .val (.int v3), .val (.int v5), .val (.int v7), .val (.int v9), .val (.ref a11), .val (.int (1 : Int32)), .val (.int (1 : Int32)), .val (.long v25), .second, .val (.int (1 : Int32)), .val (.int (1 : Int32)), .val (.long v34), .second, .val (.long v40), .second, .val (.int (1 : Int32)), .val (.int (1 : Int32)), .val (.long v49), .second, .val (.int (0 : Int32)), .val (.int (0 : Int32))] rfl (hb hby at_226) rfl ?_
          refine own_iload (pc' := 230) X51 hx rfl (hb hby at_228) rfl ?_
          refine own_iload (pc' := 232) X51 hx rfl (hb hby at_230) rfl ?_
          refine own_icmpNo (pc' := 235) X51 hx (by decide) (hb hby at_232) rfl ?_
          refine own_iload (pc' := 237) X51 hx rfl (hb hby at_235) rfl ?_
          refine own_iload (pc' := 239) X51 hx rfl (hb hby at_237) rfl ?_
          refine own_icmpNo (pc' := 242) X51 hx (by decide) (hb hby at_239) rfl ?_
          refine own_iload (pc' := 244) X51 hx rfl (hb hby at_242) rfl ?_
          refine own_iload (pc' := 246) X51 hx rfl (hb hby at_244) rfl ?_
          refine own_icmpNo (pc' := 249) X51 hx (by decide) (hb hby at_246) rfl ?_
          refine own_iload (pc' := 251) X51 hx rfl (hb hby at_249) rfl ?_
          refine own_iload (pc' := 253) X51 hx rfl (hb hby at_251) rfl ?_
          refine own_icmpNo (pc' := 256) X51 hx (by decide) (hb hby at_253) rfl ?_
          refine own_iconst (pc' := 257) X51 hx (1 : Int32) (by decide) (hb hby at_256) rfl ?_
          refine own_goto (pc' := 261) X51 hx (hb hby at_257) (by decide) (by decide) ?_
          refine own_ret X51 hx Bd.returns Bd.notSynchronized (Or.inl ⟨rfl, by simp, _, rfl⟩) (hb hby at_261) rfl (by decide) (by decide) ?_
          show Q0 Z p1 p2 p3 p4 p5 h0 n0 _ T51.heap _
          exact ⟨rfl, N51a⟩
      · obtain rfl : o42 = (0 : Int32) := Int32.toInt_inj.mp hr42
        refine own_istore (pc' := 169) X42 hx #[.val (.long p1), .second, .val (.int p2), .val (.int p3), .val (.int p4), .val (.int p5), .val (.long v1), .second, .val (.int v3), .val (.int v5), .val (.int v7), .val (.int v9), .val (.ref a11), .val (.int (1 : Int32)), .val (.int (1 : Int32)), .val (.long v25), .second, .val (.int (1 : Int32)), .val (.int (1 : Int32)), .val (.long v34), .second, .val (.long v40), .second, .val (.int (0 : Int32)), .unset, .unset, .unset, .unset, .unset] rfl (hb hby at_167) rfl ?_
        refine own_iload (pc' := 171) X42 hx rfl (hb hby at_169) rfl ?_
        obtain ⟨v59, hv59⟩ : ∃ z, v7.toInt64 = z := ⟨_, rfl⟩
        have f60 : v59.toInt = v7.toInt := by rw [← hv59]; exact c_i2l v7
        refine own_i2l (pc' := 172) X42 hx (z := v59) hv59 (hb hby at_171) rfl ?_
        refine own_lload (pc' := 174) X42 hx rfl (hb hby at_172) rfl ?_
        refine own_lcmp (pc' := 175) X42 hx rfl (hb hby at_174) rfl ?_
        have b61 : v40.toInt < v59.toInt := by omega
        refine own_ifYes (pc' := 182) X42 hx (hb hby at_175) (own_lyes_gt rfl rfl b61) (by decide) (by decide) ?_
        refine own_iconst (pc' := 183) X42 hx (0 : Int32) (by decide) (hb hby at_182) rfl ?_
        refine own_istore (pc' := 185) X42 hx #[.val (.long p1), .second, .val (.int p2), .val (.int p3), .val (.int p4), .val (.int p5), .val (.long v1), .second, .val (.int v3), .val (.int v5), .val (.int v7), .val (.int v9), .val (.ref a11), .val (.int (1 : Int32)), .val (.int (1 : Int32)), .val (.long v25), .second, .val (.int (1 : Int32)), .val (.int (1 : Int32)), .val (.long v34), .second, .val (.long v40), .second, .val (.int (0 : Int32)), .val (.int (0 : Int32)), .unset, .unset, .unset, .unset] rfl (hb hby at_183) rfl ?_
        refine own_iload (pc' := 187) X42 hx rfl (hb hby at_185) rfl ?_
        refine own_ifYes (pc' := 199) X42 hx (hb hby at_187) (by decide) (by decide) (by decide) ?_
        refine own_lload (pc' := 201) X42 hx rfl (hb hby at_199) rfl ?_
        refine own_lstore (pc' := 203) X42 hx #[.val (.long p1), .second, .val (.int p2), .val (.int p3), .val (.int p4), .val (.int p5), .val (.long v1), .second, .val (.int v3), .val (.int v5), .val (.int v7), .val (.int v9), .val (.ref a11), .val (.int (1 : Int32)), .val (.int (1 : Int32)), .val (.long v25), .second, .val (.int (1 : Int32)), .val (.int (1 : Int32)), .val (.long v34), .second, .val (.long v40), .second, .val (.int (0 : Int32)), .val (.int (0 : Int32)), .val (.long v40), .second, .unset, .unset] rfl (hb hby at_201) rfl ?_
        refine own_aload (pc' := 205) X42 hx rfl rfl (hb hby at_203) rfl ?_
        refine own_iload (pc' := 207) X42 hx rfl (hb hby at_205) rfl ?_
        obtain ⟨cq62, kq62, q62a, q62b, q62c⟩ := isOf hZ rfl Ec42_a1
        obtain ⟨_, _, ⟨T62, L62, k62, n62⟩, -, X62, ⟨Lc62, hQ62, l62, y62, z62⟩, st62⟩ := X42.virtualBack hx (y := (⟨"com/example/rebalanced/rebalanced/server/RequestBudget", "tryReserve", "(I)Z"⟩ : MethodName)) (z := (⟨"com/example/rebalanced/rebalanced/server/RequestBudget", "tryReserve", "(I)Z"⟩ : MethodName)) hown (mvT hZ (hw _ (List.mem_of_getElem? (i := 13) rfl))) (mvT hZ (hw _ (List.mem_of_getElem? (i := 14) rfl))) (notFace_of_selects (args := #[]) (mvT hZ (hw _ (List.mem_of_getElem? (i := 16) rfl)))) (mvT hZ (hw _ (List.mem_of_getElem? (i := 16) rfl))) (mvT hZ (hw _ (List.mem_of_getElem? (i := 15) rfl))) (by decide) (backOf (W := 0) (rm3 l Z a0 hw [] a11 v9 v1 n5_42 T42.heap n0 Z43 Ec42_a1 Fc42_0 Fc42_1 fr11 (by omega) (by omega)) hZ (hw _ (List.mem_of_getElem? (i := 17) rfl)) (hw _ (List.mem_of_getElem? (i := 4) rfl)) (by decide) (by decide)) q62a q62c (g := (mkF m 207 #[.val (.long p1), .second, .val (.int p2), .val (.int p3), .val (.int p4), .val (.int p5), .val (.long v1), .second, .val (.int v3), .val (.int v5), .val (.int v7), .val (.int v9), .val (.ref a11), .val (.int (1 : Int32)), .val (.int (1 : Int32)), .val (.long v25), .second, .val (.int (1 : Int32)), .val (.int (1 : Int32)), .val (.long v34), .second, .val (.long v40), .second, .val (.int (0 : Int32)), .val (.int (0 : Int32)), .val (.long v40), .second, .unset, .unset] [(.int v9), (.ref a11)])) rfl (by rw [hml]; rfl) (Steps.refl _) (argsL := [(.int v9)]) (rest := []) (lenOf pd_1 rfl) rfl (by show 2 * 0 + _ ≤ _; exact Nat.le_of_eq rfl) (hb hby at_207) (fun _ _ => ⟨rfl, rfl, (by decide : 1 + 0 ≤ _), (by decide : 2 + 0 ≤ _)⟩)
        dsimp only [Pt.U, Pt.locs, Pt.cells, Pt.slots] at X62 l62 y62 z62 st62 hQ62
        subst l62 y62 z62
        obtain ⟨o62, n5_62, rfl, pp62, N62, Kc62, Ec62_a1, Fc62_0, Fc62_1⟩ := hQ62
        have Z63 : n0 ≤ T62.heap.size := Nat.le_trans Z43 Kc62.1
        have ro62 := rng32 o62
        have rn5_62 := rng64 n5_62
        have N62a := Fr.app N42a N62
        refine own_via st62 ?_
        show own_Go p e below (Q0 Z p1 p2 p3 p4 p5 h0 n0) (own_Fr s room_1.cells room_1.slots) (T62.setTop (mkF m 210 #[.val (.long p1), .second, .val (.int p2), .val (.int p3), .val (.int p4), .val (.int p5), .val (.long v1), .second, .val (.int v3), .val (.int v5), .val (.int v7), .val (.int v9), .val (.ref a11), .val (.int (1 : Int32)), .val (.int (1 : Int32)), .val (.long v25), .second, .val (.int (1 : Int32)), .val (.int (1 : Int32)), .val (.long v34), .second, .val (.long v40), .second, .val (.int (0 : Int32)), .val (.int (0 : Int32)), .val (.long v40), .second, .unset, .unset] [(.int o62)]))
        rcases pp62 with ⟨hr62, pp62⟩ | ⟨hr62, pp62⟩
        · obtain rfl : o62 = (1 : Int32) := Int32.toInt_inj.mp hr62
          refine own_istore (pc' := 212) X62 hx #[.val (.long p1), .second, .val (.int p2), .val (.int p3), .val (.int p4), .val (.int p5), .val (.long v1), .second, .val (.int v3), .val (.int v5), .val (.int v7), .val (.int v9), .val (.ref a11), .val (.int (1 : Int32)), .val (.int (1 : Int32)), .val (.long v25), .second, .val (.int (1 : Int32)), .val (.int (1 : Int32)), .val (.long v34), .second, .val (.long v40), .second, .val (.int (0 : Int32)), .val (.int (0 : Int32)), .val (.long v40), .second, .val (.int (1 : Int32)), .unset] rfl (hb hby at_210) rfl ?_
          refine own_iload (pc' := 214) X62 hx rfl (hb hby at_212) rfl ?_
          obtain ⟨v64, hv64⟩ : ∃ z, v9.toInt64 = z := ⟨_, rfl⟩
          have f65 : v64.toInt = v9.toInt := by rw [← hv64]; exact c_i2l v9
          refine own_i2l (pc' := 215) X62 hx (z := v64) hv64 (hb hby at_214) rfl ?_
          refine own_lload (pc' := 217) X62 hx rfl (hb hby at_215) rfl ?_
          refine own_lcmp (pc' := 218) X62 hx rfl (hb hby at_217) rfl ?_
          have b66 : ¬ v40.toInt < v64.toInt := by omega
          refine own_ifNo (pc' := 221) X62 hx (own_lno_gt rfl rfl b66) (hb hby at_218) rfl ?_
          refine own_iconst (pc' := 222) X62 hx (1 : Int32) (by decide) (hb hby at_221) rfl ?_
          refine own_goto (pc' := 226) X62 hx (hb hby at_222) (by decide) (by decide) ?_
          refine own_istore (pc' := 228) X62 hx #[.val (.long p1), .second, .val (.int p2), .val (.int p3), .val (.int p4), .val (.int p5), .val (.long v1), .second, .val (.int v3), .val (.int v5), .val (.int v7), .val (.int v9), .val (.ref a11), .val (.int (1 : Int32)), .val (.int (1 : Int32)), .val (.long v25), .second, .val (.int (1 : Int32)), .val (.int (1 : Int32)), .val (.long v34), .second, .val (.long v40), .second, .val (.int (0 : Int32)), .val (.int (0 : Int32)), .val (.long v40), .second, .val (.int (1 : Int32)), .val (.int (1 : Int32))] rfl (hb hby at_226) rfl ?_
          refine own_iload (pc' := 230) X62 hx rfl (hb hby at_228) rfl ?_
          refine own_iload (pc' := 232) X62 hx rfl (hb hby at_230) rfl ?_
          refine own_icmpNo (pc' := 235) X62 hx (by decide) (hb hby at_232) rfl ?_
          refine own_iload (pc' := 237) X62 hx rfl (hb hby at_235) rfl ?_
          refine own_iload (pc' := 239) X62 hx rfl (hb hby at_237) rfl ?_
          refine own_icmpNo (pc' := 242) X62 hx (by decide) (hb hby at_239) rfl ?_
          refine own_iload (pc' := 244) X62 hx rfl (hb hby at_242) rfl ?_
          refine own_iload (pc' := 246) X62 hx rfl (hb hby at_244) rfl ?_
          refine own_icmpNo (pc' := 249) X62 hx (by decide) (hb hby at_246) rfl ?_
          refine own_iload (pc' := 251) X62 hx rfl (hb hby at_249) rfl ?_
          refine own_iload (pc' := 253) X62 hx rfl (hb hby at_251) rfl ?_
          refine own_icmpNo (pc' := 256) X62 hx (by decide) (hb hby at_253) rfl ?_
          refine own_iconst (pc' := 257) X62 hx (1 : Int32) (by decide) (hb hby at_256) rfl ?_
          refine own_goto (pc' := 261) X62 hx (hb hby at_257) (by decide) (by decide) ?_
          refine own_ret X62 hx Bd.returns Bd.notSynchronized (Or.inl ⟨rfl, by simp, _, rfl⟩) (hb hby at_261) rfl (by decide) (by decide) ?_
          show Q0 Z p1 p2 p3 p4 p5 h0 n0 _ T62.heap _
          exact ⟨rfl, N62a⟩
        · obtain rfl : o62 = (0 : Int32) := Int32.toInt_inj.mp hr62
          refine own_istore (pc' := 212) X62 hx #[.val (.long p1), .second, .val (.int p2), .val (.int p3), .val (.int p4), .val (.int p5), .val (.long v1), .second, .val (.int v3), .val (.int v5), .val (.int v7), .val (.int v9), .val (.ref a11), .val (.int (1 : Int32)), .val (.int (1 : Int32)), .val (.long v25), .second, .val (.int (1 : Int32)), .val (.int (1 : Int32)), .val (.long v34), .second, .val (.long v40), .second, .val (.int (0 : Int32)), .val (.int (0 : Int32)), .val (.long v40), .second, .val (.int (0 : Int32)), .unset] rfl (hb hby at_210) rfl ?_
          refine own_iload (pc' := 214) X62 hx rfl (hb hby at_212) rfl ?_
          obtain ⟨v67, hv67⟩ : ∃ z, v9.toInt64 = z := ⟨_, rfl⟩
          have f68 : v67.toInt = v9.toInt := by rw [← hv67]; exact c_i2l v9
          refine own_i2l (pc' := 215) X62 hx (z := v67) hv67 (hb hby at_214) rfl ?_
          refine own_lload (pc' := 217) X62 hx rfl (hb hby at_215) rfl ?_
          refine own_lcmp (pc' := 218) X62 hx rfl (hb hby at_217) rfl ?_
          have b69 : v40.toInt < v67.toInt := by omega
          refine own_ifYes (pc' := 225) X62 hx (hb hby at_218) (own_lyes_gt rfl rfl b69) (by decide) (by decide) ?_
          refine own_iconst (pc' := 226) X62 hx (0 : Int32) (by decide) (hb hby at_225) rfl ?_
          refine own_istore (pc' := 228) X62 hx #[.val (.long p1), .second, .val (.int p2), .val (.int p3), .val (.int p4), .val (.int p5), .val (.long v1), .second, .val (.int v3), .val (.int v5), .val (.int v7), .val (.int v9), .val (.ref a11), .val (.int (1 : Int32)), .val (.int (1 : Int32)), .val (.long v25), .second, .val (.int (1 : Int32)), .val (.int (1 : Int32)), .val (.long v34), .second, .val (.long v40), .second, .val (.int (0 : Int32)), .val (.int (0 : Int32)), .val (.long v40), .second, .val (.int (0 : Int32)), .val (.int (0 : Int32))] rfl (hb hby at_226) rfl ?_
          refine own_iload (pc' := 230) X62 hx rfl (hb hby at_228) rfl ?_
          refine own_iload (pc' := 232) X62 hx rfl (hb hby at_230) rfl ?_
          refine own_icmpNo (pc' := 235) X62 hx (by decide) (hb hby at_232) rfl ?_
          refine own_iload (pc' := 237) X62 hx rfl (hb hby at_235) rfl ?_
          refine own_iload (pc' := 239) X62 hx rfl (hb hby at_237) rfl ?_
          refine own_icmpNo (pc' := 242) X62 hx (by decide) (hb hby at_239) rfl ?_
          refine own_iload (pc' := 244) X62 hx rfl (hb hby at_242) rfl ?_
          refine own_iload (pc' := 246) X62 hx rfl (hb hby at_244) rfl ?_
          refine own_icmpNo (pc' := 249) X62 hx (by decide) (hb hby at_246) rfl ?_
          refine own_iload (pc' := 251) X62 hx rfl (hb hby at_249) rfl ?_
          refine own_iload (pc' := 253) X62 hx rfl (hb hby at_251) rfl ?_
          refine own_icmpNo (pc' := 256) X62 hx (by decide) (hb hby at_253) rfl ?_
          refine own_iconst (pc' := 257) X62 hx (1 : Int32) (by decide) (hb hby at_256) rfl ?_
          refine own_goto (pc' := 261) X62 hx (hb hby at_257) (by decide) (by decide) ?_
          refine own_ret X62 hx Bd.returns Bd.notSynchronized (Or.inl ⟨rfl, by simp, _, rfl⟩) (hb hby at_261) rfl (by decide) (by decide) ?_
          show Q0 Z p1 p2 p3 p4 p5 h0 n0 _ T62.heap _
          exact ⟨rfl, N62a⟩
    · obtain rfl : o27 = (0 : Int32) := Int32.toInt_inj.mp hr27
      refine own_istore (pc' := 96) X27 hx #[.val (.long p1), .second, .val (.int p2), .val (.int p3), .val (.int p4), .val (.int p5), .val (.long v1), .second, .val (.int v3), .val (.int v5), .val (.int v7), .val (.int v9), .val (.ref a11), .val (.int (1 : Int32)), .val (.int (1 : Int32)), .val (.long v25), .second, .val (.int (0 : Int32)), .unset, .unset, .unset, .unset, .unset, .unset, .unset, .unset, .unset, .unset, .unset] rfl (hb hby at_94) rfl ?_
      refine own_iload (pc' := 98) X27 hx rfl (hb hby at_96) rfl ?_
      obtain ⟨v70, hv70⟩ : ∃ z, v5.toInt64 = z := ⟨_, rfl⟩
      have f71 : v70.toInt = v5.toInt := by rw [← hv70]; exact c_i2l v5
      refine own_i2l (pc' := 99) X27 hx (z := v70) hv70 (hb hby at_98) rfl ?_
      refine own_lload (pc' := 101) X27 hx rfl (hb hby at_99) rfl ?_
      refine own_lcmp (pc' := 102) X27 hx rfl (hb hby at_101) rfl ?_
      have b72 : v25.toInt < v70.toInt := by omega
      refine own_ifYes (pc' := 109) X27 hx (hb hby at_102) (own_lyes_gt rfl rfl b72) (by decide) (by decide) ?_
      refine own_iconst (pc' := 110) X27 hx (0 : Int32) (by decide) (hb hby at_109) rfl ?_
      refine own_istore (pc' := 112) X27 hx #[.val (.long p1), .second, .val (.int p2), .val (.int p3), .val (.int p4), .val (.int p5), .val (.long v1), .second, .val (.int v3), .val (.int v5), .val (.int v7), .val (.int v9), .val (.ref a11), .val (.int (1 : Int32)), .val (.int (1 : Int32)), .val (.long v25), .second, .val (.int (0 : Int32)), .val (.int (0 : Int32)), .unset, .unset, .unset, .unset, .unset, .unset, .unset, .unset, .unset, .unset] rfl (hb hby at_110) rfl ?_
      refine own_iload (pc' := 114) X27 hx rfl (hb hby at_112) rfl ?_
      refine own_ifYes (pc' := 126) X27 hx (hb hby at_114) (by decide) (by decide) (by decide) ?_
      refine own_lload (pc' := 128) X27 hx rfl (hb hby at_126) rfl ?_
      refine own_lstore (pc' := 130) X27 hx #[.val (.long p1), .second, .val (.int p2), .val (.int p3), .val (.int p4), .val (.int p5), .val (.long v1), .second, .val (.int v3), .val (.int v5), .val (.int v7), .val (.int v9), .val (.ref a11), .val (.int (1 : Int32)), .val (.int (1 : Int32)), .val (.long v25), .second, .val (.int (0 : Int32)), .val (.int (0 : Int32)), .val (.long v25), .second, .unset, .unset, .unset, .unset, .unset, .unset, .unset, .unset] rfl (hb hby at_128) rfl ?_
      refine own_iload (pc' := 132) X27 hx rfl (hb hby at_130) rfl ?_
      refine own_ifNo (pc' := 135) X27 hx (by decide) (hb hby at_132) rfl ?_
      refine own_aload (pc' := 137) X27 hx rfl rfl (hb hby at_135) rfl ?_
      refine own_iload (pc' := 139) X27 hx rfl (hb hby at_137) rfl ?_
      obtain ⟨cq73, kq73, q73a, q73b, q73c⟩ := isOf hZ rfl Ec27_a1
      obtain ⟨_, _, ⟨T73, L73, k73, n73⟩, -, X73, ⟨Lc73, hQ73, l73, y73, z73⟩, st73⟩ := X27.virtualBack hx (y := (⟨"com/example/rebalanced/rebalanced/server/RequestBudget", "release", "(I)V"⟩ : MethodName)) (z := (⟨"com/example/rebalanced/rebalanced/server/RequestBudget", "release", "(I)V"⟩ : MethodName)) hown (mvT hZ (hw _ (List.mem_of_getElem? (i := 20) rfl))) (mvT hZ (hw _ (List.mem_of_getElem? (i := 21) rfl))) (notFace_of_selects (args := #[]) (mvT hZ (hw _ (List.mem_of_getElem? (i := 23) rfl)))) (mvT hZ (hw _ (List.mem_of_getElem? (i := 23) rfl))) (mvT hZ (hw _ (List.mem_of_getElem? (i := 22) rfl))) (by decide) (backOf (W := 0) (rm4 l Z a0 hw [] a11 v3 v1 n5_27 T27.heap n0 Z28 Ec27_a1 Fc27_0 Fc27_1 fr11 (by omega) (by omega)) hZ (hw _ (List.mem_of_getElem? (i := 24) rfl)) (hw _ (List.mem_of_getElem? (i := 4) rfl)) (by decide) (by decide)) q73a q73c (g := (mkF m 139 #[.val (.long p1), .second, .val (.int p2), .val (.int p3), .val (.int p4), .val (.int p5), .val (.long v1), .second, .val (.int v3), .val (.int v5), .val (.int v7), .val (.int v9), .val (.ref a11), .val (.int (1 : Int32)), .val (.int (1 : Int32)), .val (.long v25), .second, .val (.int (0 : Int32)), .val (.int (0 : Int32)), .val (.long v25), .second, .unset, .unset, .unset, .unset, .unset, .unset, .unset, .unset] [(.int v3), (.ref a11)])) rfl (by rw [hml]; rfl) (Steps.refl _) (argsL := [(.int v3)]) (rest := []) (lenOf pd_2 rfl) rfl (by show 2 * 0 + _ ≤ _; exact Nat.le_of_eq rfl) (hb hby at_139) (fun _ _ => ⟨rfl, rfl, (by decide : 1 + 0 ≤ _), (by decide : 2 + 0 ≤ _)⟩)
      dsimp only [Pt.U, Pt.locs, Pt.cells, Pt.slots] at X73 l73 y73 z73 st73 hQ73
      subst l73 y73 z73
      obtain ⟨n5_73, rfl, pp73, N73, Kc73, Ec73_a1, Fc73_0, Fc73_1⟩ := hQ73
      have Z74 : n0 ≤ T73.heap.size := Nat.le_trans Z28 Kc73.1
      have rn5_73 := rng64 n5_73
      have N73a := Fr.app N27a N73
      refine own_via st73 ?_
      show own_Go p e below (Q0 Z p1 p2 p3 p4 p5 h0 n0) (own_Fr s room_1.cells room_1.slots) (T73.setTop (mkF m 142 #[.val (.long p1), .second, .val (.int p2), .val (.int p3), .val (.int p4), .val (.int p5), .val (.long v1), .second, .val (.int v3), .val (.int v5), .val (.int v7), .val (.int v9), .val (.ref a11), .val (.int (1 : Int32)), .val (.int (1 : Int32)), .val (.long v25), .second, .val (.int (0 : Int32)), .val (.int (0 : Int32)), .val (.long v25), .second, .unset, .unset, .unset, .unset, .unset, .unset, .unset, .unset] []))
      refine own_iload (pc' := 144) X73 hx rfl (hb hby at_142) rfl ?_
      refine own_ifNo (pc' := 147) X73 hx (by decide) (hb hby at_144) rfl ?_
      refine own_lload (pc' := 149) X73 hx rfl (hb hby at_147) rfl ?_
      refine own_iload (pc' := 151) X73 hx rfl (hb hby at_149) rfl ?_
      obtain ⟨v75, hv75⟩ : ∃ z, v3.toInt64 = z := ⟨_, rfl⟩
      have f76 : v75.toInt = v3.toInt := by rw [← hv75]; exact c_i2l v3
      refine own_i2l (pc' := 152) X73 hx (z := v75) hv75 (hb hby at_151) rfl ?_
      obtain ⟨v77, hv77⟩ : ∃ z, v25 + v75 = z := ⟨_, rfl⟩
      have f78 : (v77.toInt - (v25.toInt + v75.toInt)) % 18446744073709551616 = 0 := by rw [← hv77]; exact c_ladd v25 v75
      have rv77 := rng64 v77
      replace f78 : v77.toInt = v25.toInt + v75.toInt := by omega
      refine own_ladd (pc' := 153) X73 hx (z := v77) hv77 (hb hby at_152) rfl ?_
      refine own_goto (pc' := 158) X73 hx (hb hby at_153) (by decide) (by decide) ?_
      refine own_lstore (pc' := 160) X73 hx #[.val (.long p1), .second, .val (.int p2), .val (.int p3), .val (.int p4), .val (.int p5), .val (.long v1), .second, .val (.int v3), .val (.int v5), .val (.int v7), .val (.int v9), .val (.ref a11), .val (.int (1 : Int32)), .val (.int (1 : Int32)), .val (.long v25), .second, .val (.int (0 : Int32)), .val (.int (0 : Int32)), .val (.long v25), .second, .val (.long v77), .second, .unset, .unset, .unset, .unset, .unset, .unset] rfl (hb hby at_158) rfl ?_
      refine own_aload (pc' := 162) X73 hx rfl rfl (hb hby at_160) rfl ?_
      refine own_iload (pc' := 164) X73 hx rfl (hb hby at_162) rfl ?_
      obtain ⟨cq79, kq79, q79a, q79b, q79c⟩ := isOf hZ rfl Ec73_a1
      obtain ⟨_, _, ⟨T79, L79, k79, n79⟩, -, X79, ⟨Lc79, hQ79, l79, y79, z79⟩, st79⟩ := X73.virtualBack hx (y := (⟨"com/example/rebalanced/rebalanced/server/RequestBudget", "tryReserve", "(I)Z"⟩ : MethodName)) (z := (⟨"com/example/rebalanced/rebalanced/server/RequestBudget", "tryReserve", "(I)Z"⟩ : MethodName)) hown (mvT hZ (hw _ (List.mem_of_getElem? (i := 13) rfl))) (mvT hZ (hw _ (List.mem_of_getElem? (i := 14) rfl))) (notFace_of_selects (args := #[]) (mvT hZ (hw _ (List.mem_of_getElem? (i := 16) rfl)))) (mvT hZ (hw _ (List.mem_of_getElem? (i := 16) rfl))) (mvT hZ (hw _ (List.mem_of_getElem? (i := 15) rfl))) (by decide) (backOf (W := 0) (rm3 l Z a0 hw [] a11 v7 v1 n5_73 T73.heap n0 Z74 Ec73_a1 Fc73_0 Fc73_1 fr11 (by omega) (by omega)) hZ (hw _ (List.mem_of_getElem? (i := 17) rfl)) (hw _ (List.mem_of_getElem? (i := 4) rfl)) (by decide) (by decide)) q79a q79c (g := (mkF m 164 #[.val (.long p1), .second, .val (.int p2), .val (.int p3), .val (.int p4), .val (.int p5), .val (.long v1), .second, .val (.int v3), .val (.int v5), .val (.int v7), .val (.int v9), .val (.ref a11), .val (.int (1 : Int32)), .val (.int (1 : Int32)), .val (.long v25), .second, .val (.int (0 : Int32)), .val (.int (0 : Int32)), .val (.long v25), .second, .val (.long v77), .second, .unset, .unset, .unset, .unset, .unset, .unset] [(.int v7), (.ref a11)])) rfl (by rw [hml]; rfl) (Steps.refl _) (argsL := [(.int v7)]) (rest := []) (lenOf pd_1 rfl) rfl (by show 2 * 0 + _ ≤ _; exact Nat.le_of_eq rfl) (hb hby at_164) (fun _ _ => ⟨rfl, rfl, (by decide : 1 + 0 ≤ _), (by decide : 2 + 0 ≤ _)⟩)
      dsimp only [Pt.U, Pt.locs, Pt.cells, Pt.slots] at X79 l79 y79 z79 st79 hQ79
      subst l79 y79 z79
      obtain ⟨o79, n5_79, rfl, pp79, N79, Kc79, Ec79_a1, Fc79_0, Fc79_1⟩ := hQ79
      have Z80 : n0 ≤ T79.heap.size := Nat.le_trans Z74 Kc79.1
      have ro79 := rng32 o79
      have rn5_79 := rng64 n5_79
      have N79a := Fr.app N73a N79
      refine own_via st79 ?_
      show own_Go p e below (Q0 Z p1 p2 p3 p4 p5 h0 n0) (own_Fr s room_1.cells room_1.slots) (T79.setTop (mkF m 167 #[.val (.long p1), .second, .val (.int p2), .val (.int p3), .val (.int p4), .val (.int p5), .val (.long v1), .second, .val (.int v3), .val (.int v5), .val (.int v7), .val (.int v9), .val (.ref a11), .val (.int (1 : Int32)), .val (.int (1 : Int32)), .val (.long v25), .second, .val (.int (0 : Int32)), .val (.int (0 : Int32)), .val (.long v25), .second, .val (.long v77), .second, .unset, .unset, .unset, .unset, .unset, .unset] [(.int o79)]))
      rcases pp79 with ⟨hr79, pp79⟩ | ⟨hr79, pp79⟩
      · obtain rfl : o79 = (1 : Int32) := Int32.toInt_inj.mp hr79
        refine own_istore (pc' := 169) X79 hx #[.val (.long p1), .second, .val (.int p2), .val (.int p3), .val (.int p4), .val (.int p5), .val (.long v1), .second, .val (.int v3), .val (.int v5), .val (.int v7), .val (.int v9), .val (.ref a11), .val (.int (1 : Int32)), .val (.int (1 : Int32)), .val (.long v25), .second, .val (.int (0 : Int32)), .val (.int (0 : Int32)), .val (.long v25), .second, .val (.long v77), .second, .val (.int (1 : Int32)), .unset, .unset, .unset, .unset, .unset] rfl (hb hby at_167) rfl ?_
        refine own_iload (pc' := 171) X79 hx rfl (hb hby at_169) rfl ?_
        obtain ⟨v81, hv81⟩ : ∃ z, v7.toInt64 = z := ⟨_, rfl⟩
        have f82 : v81.toInt = v7.toInt := by rw [← hv81]; exact c_i2l v7
        refine own_i2l (pc' := 172) X79 hx (z := v81) hv81 (hb hby at_171) rfl ?_
        refine own_lload (pc' := 174) X79 hx rfl (hb hby at_172) rfl ?_
        refine own_lcmp (pc' := 175) X79 hx rfl (hb hby at_174) rfl ?_
        have b83 : ¬ v77.toInt < v81.toInt := by omega
        refine own_ifNo (pc' := 178) X79 hx (own_lno_gt rfl rfl b83) (hb hby at_175) rfl ?_
        refine own_iconst (pc' := 179) X79 hx (1 : Int32) (by decide) (hb hby at_178) rfl ?_
        refine own_goto (pc' := 183) X79 hx (hb hby at_179) (by decide) (by decide) ?_
        refine own_istore (pc' := 185) X79 hx #[.val (.long p1), .second, .val (.int p2), .val (.int p3), .val (.int p4), .val (.int p5), .val (.long v1), .second, .val (.int v3), .val (.int v5), .val (.int v7), .val (.int v9), .val (.ref a11), .val (.int (1 : Int32)), .val (.int (1 : Int32)), .val (.long v25), .second, .val (.int (0 : Int32)), .val (.int (0 : Int32)), .val (.long v25), .second, .val (.long v77), .second, .val (.int (1 : Int32)), .val (.int (1 : Int32)), .unset, .unset, .unset, .unset] rfl (hb hby at_183) rfl ?_
        refine own_iload (pc' := 187) X79 hx rfl (hb hby at_185) rfl ?_
        refine own_ifNo (pc' := 190) X79 hx (by decide) (hb hby at_187) rfl ?_
        refine own_lload (pc' := 192) X79 hx rfl (hb hby at_190) rfl ?_
        refine own_iload (pc' := 194) X79 hx rfl (hb hby at_192) rfl ?_
        obtain ⟨v84, hv84⟩ : ∃ z, v7.toInt64 = z := ⟨_, rfl⟩
        have f85 : v84.toInt = v7.toInt := by rw [← hv84]; exact c_i2l v7
        refine own_i2l (pc' := 195) X79 hx (z := v84) hv84 (hb hby at_194) rfl ?_
        obtain ⟨v86, hv86⟩ : ∃ z, v77 - v84 = z := ⟨_, rfl⟩
        have f87 : (v86.toInt - (v77.toInt - v84.toInt)) % 18446744073709551616 = 0 := by rw [← hv86]; exact c_lsub v77 v84
        have rv86 := rng64 v86
        replace f87 : v86.toInt = v77.toInt - v84.toInt := by omega
        refine own_lsub (pc' := 196) X79 hx (z := v86) hv86 (hb hby at_195) rfl ?_
        refine own_goto (pc' := 201) X79 hx (hb hby at_196) (by decide) (by decide) ?_
        refine own_lstore (pc' := 203) X79 hx #[.val (.long p1), .second, .val (.int p2), .val (.int p3), .val (.int p4), .val (.int p5), .val (.long v1), .second, .val (.int v3), .val (.int v5), .val (.int v7), .val (.int v9), .val (.ref a11), .val (.int (1 : Int32)), .val (.int (1 : Int32)), .val (.long v25), .second, .val (.int (0 : Int32)), .val (.int (0 : Int32)), .val (.long v25), .second, .val (.long v77), .second, .val (.int (1 : Int32)), .val (.int (1 : Int32)), .val (.long v86), .second, .unset, .unset] rfl (hb hby at_201) rfl ?_
        refine own_aload (pc' := 205) X79 hx rfl rfl (hb hby at_203) rfl ?_
        refine own_iload (pc' := 207) X79 hx rfl (hb hby at_205) rfl ?_
        obtain ⟨cq88, kq88, q88a, q88b, q88c⟩ := isOf hZ rfl Ec79_a1
        obtain ⟨_, _, ⟨T88, L88, k88, n88⟩, -, X88, ⟨Lc88, hQ88, l88, y88, z88⟩, st88⟩ := X79.virtualBack hx (y := (⟨"com/example/rebalanced/rebalanced/server/RequestBudget", "tryReserve", "(I)Z"⟩ : MethodName)) (z := (⟨"com/example/rebalanced/rebalanced/server/RequestBudget", "tryReserve", "(I)Z"⟩ : MethodName)) hown (mvT hZ (hw _ (List.mem_of_getElem? (i := 13) rfl))) (mvT hZ (hw _ (List.mem_of_getElem? (i := 14) rfl))) (notFace_of_selects (args := #[]) (mvT hZ (hw _ (List.mem_of_getElem? (i := 16) rfl)))) (mvT hZ (hw _ (List.mem_of_getElem? (i := 16) rfl))) (mvT hZ (hw _ (List.mem_of_getElem? (i := 15) rfl))) (by decide) (backOf (W := 0) (rm3 l Z a0 hw [] a11 v9 v1 n5_79 T79.heap n0 Z80 Ec79_a1 Fc79_0 Fc79_1 fr11 (by omega) (by omega)) hZ (hw _ (List.mem_of_getElem? (i := 17) rfl)) (hw _ (List.mem_of_getElem? (i := 4) rfl)) (by decide) (by decide)) q88a q88c (g := (mkF m 207 #[.val (.long p1), .second, .val (.int p2), .val (.int p3), .val (.int p4), .val (.int p5), .val (.long v1), .second, .val (.int v3), .val (.int v5), .val (.int v7), .val (.int v9), .val (.ref a11), .val (.int (1 : Int32)), .val (.int (1 : Int32)), .val (.long v25), .second, .val (.int (0 : Int32)), .val (.int (0 : Int32)), .val (.long v25), .second, .val (.long v77), .second, .val (.int (1 : Int32)), .val (.int (1 : Int32)), .val (.long v86), .second, .unset, .unset] [(.int v9), (.ref a11)])) rfl (by rw [hml]; rfl) (Steps.refl _) (argsL := [(.int v9)]) (rest := []) (lenOf pd_1 rfl) rfl (by show 2 * 0 + _ ≤ _; exact Nat.le_of_eq rfl) (hb hby at_207) (fun _ _ => ⟨rfl, rfl, (by decide : 1 + 0 ≤ _), (by decide : 2 + 0 ≤ _)⟩)
        dsimp only [Pt.U, Pt.locs, Pt.cells, Pt.slots] at X88 l88 y88 z88 st88 hQ88
        subst l88 y88 z88
        obtain ⟨o88, n5_88, rfl, pp88, N88, Kc88, Ec88_a1, Fc88_0, Fc88_1⟩ := hQ88
        have Z89 : n0 ≤ T88.heap.size := Nat.le_trans Z80 Kc88.1
        have ro88 := rng32 o88
        have rn5_88 := rng64 n5_88
        have N88a := Fr.app N79a N88
        refine own_via st88 ?_
        show own_Go p e below (Q0 Z p1 p2 p3 p4 p5 h0 n0) (own_Fr s room_1.cells room_1.slots) (T88.setTop (mkF m 210 #[.val (.long p1), .second, .val (.int p2), .val (.int p3), .val (.int p4), .val (.int p5), .val (.long v1), .second, .val (.int v3), .val (.int v5), .val (.int v7), .val (.int v9), .val (.ref a11), .val (.int (1 : Int32)), .val (.int (1 : Int32)), .val (.long v25), .second, .val (.int (0 : Int32)), .val (.int (0 : Int32)), .val (.long v25), .second, .val (.long v77), .second, .val (.int (1 : Int32)), .val (.int (1 : Int32)), .val (.long v86), .second, .unset, .unset] [(.int o88)]))
        rcases pp88 with ⟨hr88, pp88⟩ | ⟨hr88, pp88⟩
        · obtain rfl : o88 = (1 : Int32) := Int32.toInt_inj.mp hr88
          refine own_istore (pc' := 212) X88 hx #[.val (.long p1), .second, .val (.int p2), .val (.int p3), .val (.int p4), .val (.int p5), .val (.long v1), .second, .val (.int v3), .val (.int v5), .val (.int v7), .val (.int v9), .val (.ref a11), .val (.int (1 : Int32)), .val (.int (1 : Int32)), .val (.long v25), .second, .val (.int (0 : Int32)), .val (.int (0 : Int32)), .val (.long v25), .second, .val (.long v77), .second, .val (.int (1 : Int32)), .val (.int (1 : Int32)), .val (.long v86), .second, .val (.int (1 : Int32)), .unset] rfl (hb hby at_210) rfl ?_
          refine own_iload (pc' := 214) X88 hx rfl (hb hby at_212) rfl ?_
          obtain ⟨v90, hv90⟩ : ∃ z, v9.toInt64 = z := ⟨_, rfl⟩
          have f91 : v90.toInt = v9.toInt := by rw [← hv90]; exact c_i2l v9
          refine own_i2l (pc' := 215) X88 hx (z := v90) hv90 (hb hby at_214) rfl ?_
          refine own_lload (pc' := 217) X88 hx rfl (hb hby at_215) rfl ?_
          refine own_lcmp (pc' := 218) X88 hx rfl (hb hby at_217) rfl ?_
          have b92 : ¬ v86.toInt < v90.toInt := by omega
          refine own_ifNo (pc' := 221) X88 hx (own_lno_gt rfl rfl b92) (hb hby at_218) rfl ?_
          refine own_iconst (pc' := 222) X88 hx (1 : Int32) (by decide) (hb hby at_221) rfl ?_
          refine own_goto (pc' := 226) X88 hx (hb hby at_222) (by decide) (by decide) ?_
          refine own_istore (pc' := 228) X88 hx #[.val (.long p1), .second, .val (.int p2), .val (.int p3), .val (.int p4), .val (.int p5), .val (.long v1), .second, .val (.int v3), .val (.int v5), .val (.int v7), .val (.int v9), .val (.ref a11), .val (.int (1 : Int32)), .val (.int (1 : Int32)), .val (.long v25), .second, .val (.int (0 : Int32)), .val (.int (0 : Int32)), .val (.long v25), .second, .val (.long v77), .second, .val (.int (1 : Int32)), .val (.int (1 : Int32)), .val (.long v86), .second, .val (.int (1 : Int32)), .val (.int (1 : Int32))] rfl (hb hby at_226) rfl ?_
          refine own_iload (pc' := 230) X88 hx rfl (hb hby at_228) rfl ?_
          refine own_iload (pc' := 232) X88 hx rfl (hb hby at_230) rfl ?_
          refine own_icmpNo (pc' := 235) X88 hx (by decide) (hb hby at_232) rfl ?_
          refine own_iload (pc' := 237) X88 hx rfl (hb hby at_235) rfl ?_
          refine own_iload (pc' := 239) X88 hx rfl (hb hby at_237) rfl ?_
          refine own_icmpNo (pc' := 242) X88 hx (by decide) (hb hby at_239) rfl ?_
          refine own_iload (pc' := 244) X88 hx rfl (hb hby at_242) rfl ?_
          refine own_iload (pc' := 246) X88 hx rfl (hb hby at_244) rfl ?_
          refine own_icmpNo (pc' := 249) X88 hx (by decide) (hb hby at_246) rfl ?_
          refine own_iload (pc' := 251) X88 hx rfl (hb hby at_249) rfl ?_
          refine own_iload (pc' := 253) X88 hx rfl (hb hby at_251) rfl ?_
          refine own_icmpNo (pc' := 256) X88 hx (by decide) (hb hby at_253) rfl ?_
          refine own_iconst (pc' := 257) X88 hx (1 : Int32) (by decide) (hb hby at_256) rfl ?_
          refine own_goto (pc' := 261) X88 hx (hb hby at_257) (by decide) (by decide) ?_
          refine own_ret X88 hx Bd.returns Bd.notSynchronized (Or.inl ⟨rfl, by simp, _, rfl⟩) (hb hby at_261) rfl (by decide) (by decide) ?_
          show Q0 Z p1 p2 p3 p4 p5 h0 n0 _ T88.heap _
          exact ⟨rfl, N88a⟩
        · obtain rfl : o88 = (0 : Int32) := Int32.toInt_inj.mp hr88
          refine own_istore (pc' := 212) X88 hx #[.val (.long p1), .second, .val (.int p2), .val (.int p3), .val (.int p4), .val (.int p5), .val (.long v1), .second, .val (.int v3), .val (.int v5), .val (.int v7), .val (.int v9), .val (.ref a11), .val (.int (1 : Int32)), .val (.int (1 : Int32)), .val (.long v25), .second, .val (.int (0 : Int32)), .val (.int (0 : Int32)), .val (.long v25), .second, .val (.long v77), .second, .val (.int (1 : Int32)), .val (.int (1 : Int32)), .val (.long v86), .second, .val (.int (0 : Int32)), .unset] rfl (hb hby at_210) rfl ?_
          refine own_iload (pc' := 214) X88 hx rfl (hb hby at_212) rfl ?_
          obtain ⟨v93, hv93⟩ : ∃ z, v9.toInt64 = z := ⟨_, rfl⟩
          have f94 : v93.toInt = v9.toInt := by rw [← hv93]; exact c_i2l v9
          refine own_i2l (pc' := 215) X88 hx (z := v93) hv93 (hb hby at_214) rfl ?_
          refine own_lload (pc' := 217) X88 hx rfl (hb hby at_215) rfl ?_
          refine own_lcmp (pc' := 218) X88 hx rfl (hb hby at_217) rfl ?_
          have b95 : v86.toInt < v93.toInt := by omega
          refine own_ifYes (pc' := 225) X88 hx (hb hby at_218) (own_lyes_gt rfl rfl b95) (by decide) (by decide) ?_
          refine own_iconst (pc' := 226) X88 hx (0 : Int32) (by decide) (hb hby at_225) rfl ?_
          refine own_istore (pc' := 228) X88 hx #[.val (.long p1), .second, .val (.int p2), .val (.int p3), .val (.int p4), .val (.int p5), .val (.long v1), .second, .val (.int v3), .val (.int v5), .val (.int v7), .val (.int v9), .val (.ref a11), .val (.int (1 : Int32)), .val (.int (1 : Int32)), .val (.long v25), .second, .val (.int (0 : Int32)), .val (.int (0 : Int32)), .val (.long v25), .second, .val (.long v77), .second, .val (.int (1 : Int32)), .val (.int (1 : Int32)), .val (.long v86), .second, .val (.int (0 : Int32)), .val (.int (0 : Int32))] rfl (hb hby at_226) rfl ?_
          refine own_iload (pc' := 230) X88 hx rfl (hb hby at_228) rfl ?_
          refine own_iload (pc' := 232) X88 hx rfl (hb hby at_230) rfl ?_
          refine own_icmpNo (pc' := 235) X88 hx (by decide) (hb hby at_232) rfl ?_
          refine own_iload (pc' := 237) X88 hx rfl (hb hby at_235) rfl ?_
          refine own_iload (pc' := 239) X88 hx rfl (hb hby at_237) rfl ?_
          refine own_icmpNo (pc' := 242) X88 hx (by decide) (hb hby at_239) rfl ?_
          refine own_iload (pc' := 244) X88 hx rfl (hb hby at_242) rfl ?_
          refine own_iload (pc' := 246) X88 hx rfl (hb hby at_244) rfl ?_
          refine own_icmpNo (pc' := 249) X88 hx (by decide) (hb hby at_246) rfl ?_
          refine own_iload (pc' := 251) X88 hx rfl (hb hby at_249) rfl ?_
          refine own_iload (pc' := 253) X88 hx rfl (hb hby at_251) rfl ?_
          refine own_icmpNo (pc' := 256) X88 hx (by decide) (hb hby at_253) rfl ?_
          refine own_iconst (pc' := 257) X88 hx (1 : Int32) (by decide) (hb hby at_256) rfl ?_
          refine own_goto (pc' := 261) X88 hx (hb hby at_257) (by decide) (by decide) ?_
          refine own_ret X88 hx Bd.returns Bd.notSynchronized (Or.inl ⟨rfl, by simp, _, rfl⟩) (hb hby at_261) rfl (by decide) (by decide) ?_
          show Q0 Z p1 p2 p3 p4 p5 h0 n0 _ T88.heap _
          exact ⟨rfl, N88a⟩
      · obtain rfl : o79 = (0 : Int32) := Int32.toInt_inj.mp hr79
        refine own_istore (pc' := 169) X79 hx #[.val (.long p1), .second, .val (.int p2), .val (.int p3), .val (.int p4), .val (.int p5), .val (.long v1), .second, .val (.int v3), .val (.int v5), .val (.int v7), .val (.int v9), .val (.ref a11), .val (.int (1 : Int32)), .val (.int (1 : Int32)), .val (.long v25), .second, .val (.int (0 : Int32)), .val (.int (0 : Int32)), .val (.long v25), .second, .val (.long v77), .second, .val (.int (0 : Int32)), .unset, .unset, .unset, .unset, .unset] rfl (hb hby at_167) rfl ?_
        refine own_iload (pc' := 171) X79 hx rfl (hb hby at_169) rfl ?_
        obtain ⟨v96, hv96⟩ : ∃ z, v7.toInt64 = z := ⟨_, rfl⟩
        have f97 : v96.toInt = v7.toInt := by rw [← hv96]; exact c_i2l v7
        refine own_i2l (pc' := 172) X79 hx (z := v96) hv96 (hb hby at_171) rfl ?_
        refine own_lload (pc' := 174) X79 hx rfl (hb hby at_172) rfl ?_
        refine own_lcmp (pc' := 175) X79 hx rfl (hb hby at_174) rfl ?_
        have b98 : v77.toInt < v96.toInt := by omega
        refine own_ifYes (pc' := 182) X79 hx (hb hby at_175) (own_lyes_gt rfl rfl b98) (by decide) (by decide) ?_
        refine own_iconst (pc' := 183) X79 hx (0 : Int32) (by decide) (hb hby at_182) rfl ?_
        refine own_istore (pc' := 185) X79 hx #[.val (.long p1), .second, .val (.int p2), .val (.int p3), .val (.int p4), .val (.int p5), .val (.long v1), .second, .val (.int v3), .val (.int v5), .val (.int v7), .val (.int v9), .val (.ref a11), .val (.int (1 : Int32)), .val (.int (1 : Int32)), .val (.long v25), .second, .val (.int (0 : Int32)), .val (.int (0 : Int32)), .val (.long v25), .second, .val (.long v77), .second, .val (.int (0 : Int32)), .val (.int (0 : Int32)), .unset, .unset, .unset, .unset] rfl (hb hby at_183) rfl ?_
        refine own_iload (pc' := 187) X79 hx rfl (hb hby at_185) rfl ?_
        refine own_ifYes (pc' := 199) X79 hx (hb hby at_187) (by decide) (by decide) (by decide) ?_
        refine own_lload (pc' := 201) X79 hx rfl (hb hby at_199) rfl ?_
        refine own_lstore (pc' := 203) X79 hx #[.val (.long p1), .second, .val (.int p2), .val (.int p3), .val (.int p4), .val (.int p5), .val (.long v1), .second, .val (.int v3), .val (.int v5), .val (.int v7), .val (.int v9), .val (.ref a11), .val (.int (1 : Int32)), .val (.int (1 : Int32)), .val (.long v25), .second, .val (.int (0 : Int32)), .val (.int (0 : Int32)), .val (.long v25), .second, .val (.long v77), .second, .val (.int (0 : Int32)), .val (.int (0 : Int32)), .val (.long v77), .second, .unset, .unset] rfl (hb hby at_201) rfl ?_
        refine own_aload (pc' := 205) X79 hx rfl rfl (hb hby at_203) rfl ?_
        refine own_iload (pc' := 207) X79 hx rfl (hb hby at_205) rfl ?_
        obtain ⟨cq99, kq99, q99a, q99b, q99c⟩ := isOf hZ rfl Ec79_a1
        obtain ⟨_, _, ⟨T99, L99, k99, n99⟩, -, X99, ⟨Lc99, hQ99, l99, y99, z99⟩, st99⟩ := X79.virtualBack hx (y := (⟨"com/example/rebalanced/rebalanced/server/RequestBudget", "tryReserve", "(I)Z"⟩ : MethodName)) (z := (⟨"com/example/rebalanced/rebalanced/server/RequestBudget", "tryReserve", "(I)Z"⟩ : MethodName)) hown (mvT hZ (hw _ (List.mem_of_getElem? (i := 13) rfl))) (mvT hZ (hw _ (List.mem_of_getElem? (i := 14) rfl))) (notFace_of_selects (args := #[]) (mvT hZ (hw _ (List.mem_of_getElem? (i := 16) rfl)))) (mvT hZ (hw _ (List.mem_of_getElem? (i := 16) rfl))) (mvT hZ (hw _ (List.mem_of_getElem? (i := 15) rfl))) (by decide) (backOf (W := 0) (rm3 l Z a0 hw [] a11 v9 v1 n5_79 T79.heap n0 Z80 Ec79_a1 Fc79_0 Fc79_1 fr11 (by omega) (by omega)) hZ (hw _ (List.mem_of_getElem? (i := 17) rfl)) (hw _ (List.mem_of_getElem? (i := 4) rfl)) (by decide) (by decide)) q99a q99c (g := (mkF m 207 #[.val (.long p1), .second, .val (.int p2), .val (.int p3), .val (.int p4), .val (.int p5), .val (.long v1), .second, .val (.int v3), .val (.int v5), .val (.int v7), .val (.int v9), .val (.ref a11), .val (.int (1 : Int32)), .val (.int (1 : Int32)), .val (.long v25), .second, .val (.int (0 : Int32)), .val (.int (0 : Int32)), .val (.long v25), .second, .val (.long v77), .second, .val (.int (0 : Int32)), .val (.int (0 : Int32)), .val (.long v77), .second, .unset, .unset] [(.int v9), (.ref a11)])) rfl (by rw [hml]; rfl) (Steps.refl _) (argsL := [(.int v9)]) (rest := []) (lenOf pd_1 rfl) rfl (by show 2 * 0 + _ ≤ _; exact Nat.le_of_eq rfl) (hb hby at_207) (fun _ _ => ⟨rfl, rfl, (by decide : 1 + 0 ≤ _), (by decide : 2 + 0 ≤ _)⟩)
        dsimp only [Pt.U, Pt.locs, Pt.cells, Pt.slots] at X99 l99 y99 z99 st99 hQ99
        subst l99 y99 z99
        obtain ⟨o99, n5_99, rfl, pp99, N99, Kc99, Ec99_a1, Fc99_0, Fc99_1⟩ := hQ99
        have Z100 : n0 ≤ T99.heap.size := Nat.le_trans Z80 Kc99.1
        have ro99 := rng32 o99
        have rn5_99 := rng64 n5_99
        have N99a := Fr.app N79a N99
        refine own_via st99 ?_
        show own_Go p e below (Q0 Z p1 p2 p3 p4 p5 h0 n0) (own_Fr s room_1.cells room_1.slots) (T99.setTop (mkF m 210 #[.val (.long p1), .second, .val (.int p2), .val (.int p3), .val (.int p4), .val (.int p5), .val (.long v1), .second, .val (.int v3), .val (.int v5), .val (.int v7), .val (.int v9), .val (.ref a11), .val (.int (1 : Int32)), .val (.int (1 : Int32)), .val (.long v25), .second, .val (.int (0 : Int32)), .val (.int (0 : Int32)), .val (.long v25), .second, .val (.long v77), .second, .val (.int (0 : Int32)), .val (.int (0 : Int32)), .val (.long v77), .second, .unset, .unset] [(.int o99)]))
        rcases pp99 with ⟨hr99, pp99⟩ | ⟨hr99, pp99⟩
        · obtain rfl : o99 = (1 : Int32) := Int32.toInt_inj.mp hr99
          refine own_istore (pc' := 212) X99 hx #[.val (.long p1), .second, .val (.int p2), .val (.int p3), .val (.int p4), .val (.int p5), .val (.long v1), .second, .val (.int v3), .val (.int v5), .val (.int v7), .val (.int v9), .val (.ref a11), .val (.int (1 : Int32)), .val (.int (1 : Int32)), .val (.long v25), .second, .val (.int (0 : Int32)), .val (.int (0 : Int32)), .val (.long v25), .second, .val (.long v77), .second, .val (.int (0 : Int32)), .val (.int (0 : Int32)), .val (.long v77), .second, .val (.int (1 : Int32)), .unset] rfl (hb hby at_210) rfl ?_
          refine own_iload (pc' := 214) X99 hx rfl (hb hby at_212) rfl ?_
          obtain ⟨v101, hv101⟩ : ∃ z, v9.toInt64 = z := ⟨_, rfl⟩
          have f102 : v101.toInt = v9.toInt := by rw [← hv101]; exact c_i2l v9
          refine own_i2l (pc' := 215) X99 hx (z := v101) hv101 (hb hby at_214) rfl ?_
          refine own_lload (pc' := 217) X99 hx rfl (hb hby at_215) rfl ?_
          refine own_lcmp (pc' := 218) X99 hx rfl (hb hby at_217) rfl ?_
          have b103 : ¬ v77.toInt < v101.toInt := by omega
          refine own_ifNo (pc' := 221) X99 hx (own_lno_gt rfl rfl b103) (hb hby at_218) rfl ?_
          refine own_iconst (pc' := 222) X99 hx (1 : Int32) (by decide) (hb hby at_221) rfl ?_
          refine own_goto (pc' := 226) X99 hx (hb hby at_222) (by decide) (by decide) ?_
          refine own_istore (pc' := 228) X99 hx #[.val (.long p1), .second, .val (.int p2), .val (.int p3), .val (.int p4), .val (.int p5), .val (.long v1), .second, .val (.int v3), .val (.int v5), .val (.int v7), .val (.int v9), .val (.ref a11), .val (.int (1 : Int32)), .val (.int (1 : Int32)), .val (.long v25), .second, .val (.int (0 : Int32)), .val (.int (0 : Int32)), .val (.long v25), .second, .val (.long v77), .second, .val (.int (0 : Int32)), .val (.int (0 : Int32)), .val (.long v77), .second, .val (.int (1 : Int32)), .val (.int (1 : Int32))] rfl (hb hby at_226) rfl ?_
          refine own_iload (pc' := 230) X99 hx rfl (hb hby at_228) rfl ?_
          refine own_iload (pc' := 232) X99 hx rfl (hb hby at_230) rfl ?_
          refine own_icmpNo (pc' := 235) X99 hx (by decide) (hb hby at_232) rfl ?_
          refine own_iload (pc' := 237) X99 hx rfl (hb hby at_235) rfl ?_
          refine own_iload (pc' := 239) X99 hx rfl (hb hby at_237) rfl ?_
          refine own_icmpNo (pc' := 242) X99 hx (by decide) (hb hby at_239) rfl ?_
          refine own_iload (pc' := 244) X99 hx rfl (hb hby at_242) rfl ?_
          refine own_iload (pc' := 246) X99 hx rfl (hb hby at_244) rfl ?_
          refine own_icmpNo (pc' := 249) X99 hx (by decide) (hb hby at_246) rfl ?_
          refine own_iload (pc' := 251) X99 hx rfl (hb hby at_249) rfl ?_
          refine own_iload (pc' := 253) X99 hx rfl (hb hby at_251) rfl ?_
          refine own_icmpNo (pc' := 256) X99 hx (by decide) (hb hby at_253) rfl ?_
          refine own_iconst (pc' := 257) X99 hx (1 : Int32) (by decide) (hb hby at_256) rfl ?_
          refine own_goto (pc' := 261) X99 hx (hb hby at_257) (by decide) (by decide) ?_
          refine own_ret X99 hx Bd.returns Bd.notSynchronized (Or.inl ⟨rfl, by simp, _, rfl⟩) (hb hby at_261) rfl (by decide) (by decide) ?_
          show Q0 Z p1 p2 p3 p4 p5 h0 n0 _ T99.heap _
          exact ⟨rfl, N99a⟩
        · obtain rfl : o99 = (0 : Int32) := Int32.toInt_inj.mp hr99
          refine own_istore (pc' := 212) X99 hx #[.val (.long p1), .second, .val (.int p2), .val (.int p3), .val (.int p4), .val (.int p5), .val (.long v1), .second, .val (.int v3), .val (.int v5), .val (.int v7), .val (.int v9), .val (.ref a11), .val (.int (1 : Int32)), .val (.int (1 : Int32)), .val (.long v25), .second, .val (.int (0 : Int32)), .val (.int (0 : Int32)), .val (.long v25), .second, .val (.long v77), .second, .val (.int (0 : Int32)), .val (.int (0 : Int32)), .val (.long v77), .second, .val (.int (0 : Int32)), .unset] rfl (hb hby at_210) rfl ?_
          refine own_iload (pc' := 214) X99 hx rfl (hb hby at_212) rfl ?_
          obtain ⟨v104, hv104⟩ : ∃ z, v9.toInt64 = z := ⟨_, rfl⟩
          have f105 : v104.toInt = v9.toInt := by rw [← hv104]; exact c_i2l v9
          refine own_i2l (pc' := 215) X99 hx (z := v104) hv104 (hb hby at_214) rfl ?_
          refine own_lload (pc' := 217) X99 hx rfl (hb hby at_215) rfl ?_
          refine own_lcmp (pc' := 218) X99 hx rfl (hb hby at_217) rfl ?_
          have b106 : v77.toInt < v104.toInt := by omega
          refine own_ifYes (pc' := 225) X99 hx (hb hby at_218) (own_lyes_gt rfl rfl b106) (by decide) (by decide) ?_
          refine own_iconst (pc' := 226) X99 hx (0 : Int32) (by decide) (hb hby at_225) rfl ?_
          refine own_istore (pc' := 228) X99 hx #[.val (.long p1), .second, .val (.int p2), .val (.int p3), .val (.int p4), .val (.int p5), .val (.long v1), .second, .val (.int v3), .val (.int v5), .val (.int v7), .val (.int v9), .val (.ref a11), .val (.int (1 : Int32)), .val (.int (1 : Int32)), .val (.long v25), .second, .val (.int (0 : Int32)), .val (.int (0 : Int32)), .val (.long v25), .second, .val (.long v77), .second, .val (.int (0 : Int32)), .val (.int (0 : Int32)), .val (.long v77), .second, .val (.int (0 : Int32)), .val (.int (0 : Int32))] rfl (hb hby at_226) rfl ?_
          refine own_iload (pc' := 230) X99 hx rfl (hb hby at_228) rfl ?_
          refine own_iload (pc' := 232) X99 hx rfl (hb hby at_230) rfl ?_
          refine own_icmpNo (pc' := 235) X99 hx (by decide) (hb hby at_232) rfl ?_
          refine own_iload (pc' := 237) X99 hx rfl (hb hby at_235) rfl ?_
          refine own_iload (pc' := 239) X99 hx rfl (hb hby at_237) rfl ?_
          refine own_icmpNo (pc' := 242) X99 hx (by decide) (hb hby at_239) rfl ?_
          refine own_iload (pc' := 244) X99 hx rfl (hb hby at_242) rfl ?_
          refine own_iload (pc' := 246) X99 hx rfl (hb hby at_244) rfl ?_
          refine own_icmpNo (pc' := 249) X99 hx (by decide) (hb hby at_246) rfl ?_
          refine own_iload (pc' := 251) X99 hx rfl (hb hby at_249) rfl ?_
          refine own_iload (pc' := 253) X99 hx rfl (hb hby at_251) rfl ?_
          refine own_icmpNo (pc' := 256) X99 hx (by decide) (hb hby at_253) rfl ?_
          refine own_iconst (pc' := 257) X99 hx (1 : Int32) (by decide) (hb hby at_256) rfl ?_
          refine own_goto (pc' := 261) X99 hx (hb hby at_257) (by decide) (by decide) ?_
          refine own_ret X99 hx Bd.returns Bd.notSynchronized (Or.inl ⟨rfl, by simp, _, rfl⟩) (hb hby at_261) rfl (by decide) (by decide) ?_
          show Q0 Z p1 p2 p3 p4 p5 h0 n0 _ T99.heap _
          exact ⟨rfl, N99a⟩
  · obtain rfl : o17 = (0 : Int32) := Int32.toInt_inj.mp hr17
    refine own_istore (pc' := 53) X17 hx #[.val (.long p1), .second, .val (.int p2), .val (.int p3), .val (.int p4), .val (.int p5), .val (.long v1), .second, .val (.int v3), .val (.int v5), .val (.int v7), .val (.int v9), .val (.ref a11), .val (.int (0 : Int32)), .unset, .unset, .unset, .unset, .unset, .unset, .unset, .unset, .unset, .unset, .unset, .unset, .unset, .unset, .unset] rfl (hb hby at_51) rfl ?_
    refine own_iload (pc' := 55) X17 hx rfl (hb hby at_53) rfl ?_
    obtain ⟨v107, hv107⟩ : ∃ z, v3.toInt64 = z := ⟨_, rfl⟩
    have f108 : v107.toInt = v3.toInt := by rw [← hv107]; exact c_i2l v3
    refine own_i2l (pc' := 56) X17 hx (z := v107) hv107 (hb hby at_55) rfl ?_
    refine own_lload (pc' := 58) X17 hx rfl (hb hby at_56) rfl ?_
    refine own_lcmp (pc' := 59) X17 hx rfl (hb hby at_58) rfl ?_
    have b109 : v1.toInt < v107.toInt := by omega
    refine own_ifYes (pc' := 66) X17 hx (hb hby at_59) (own_lyes_gt rfl rfl b109) (by decide) (by decide) ?_
    refine own_iconst (pc' := 67) X17 hx (0 : Int32) (by decide) (hb hby at_66) rfl ?_
    refine own_istore (pc' := 69) X17 hx #[.val (.long p1), .second, .val (.int p2), .val (.int p3), .val (.int p4), .val (.int p5), .val (.long v1), .second, .val (.int v3), .val (.int v5), .val (.int v7), .val (.int v9), .val (.ref a11), .val (.int (0 : Int32)), .val (.int (0 : Int32)), .unset, .unset, .unset, .unset, .unset, .unset, .unset, .unset, .unset, .unset, .unset, .unset, .unset, .unset] rfl (hb hby at_67) rfl ?_
    refine own_iload (pc' := 71) X17 hx rfl (hb hby at_69) rfl ?_
    refine own_ifYes (pc' := 83) X17 hx (hb hby at_71) (by decide) (by decide) (by decide) ?_
    refine own_lload (pc' := 85) X17 hx rfl (hb hby at_83) rfl ?_
    refine own_lstore (pc' := 87) X17 hx #[.val (.long p1), .second, .val (.int p2), .val (.int p3), .val (.int p4), .val (.int p5), .val (.long v1), .second, .val (.int v3), .val (.int v5), .val (.int v7), .val (.int v9), .val (.ref a11), .val (.int (0 : Int32)), .val (.int (0 : Int32)), .val (.long v1), .second, .unset, .unset, .unset, .unset, .unset, .unset, .unset, .unset, .unset, .unset, .unset, .unset] rfl (hb hby at_85) rfl ?_
    refine own_aload (pc' := 89) X17 hx rfl rfl (hb hby at_87) rfl ?_
    refine own_iload (pc' := 91) X17 hx rfl (hb hby at_89) rfl ?_
    obtain ⟨cq110, kq110, q110a, q110b, q110c⟩ := isOf hZ rfl Ec17_a1
    obtain ⟨_, _, ⟨T110, L110, k110, n110⟩, -, X110, ⟨Lc110, hQ110, l110, y110, z110⟩, st110⟩ := X17.virtualBack hx (y := (⟨"com/example/rebalanced/rebalanced/server/RequestBudget", "tryReserve", "(I)Z"⟩ : MethodName)) (z := (⟨"com/example/rebalanced/rebalanced/server/RequestBudget", "tryReserve", "(I)Z"⟩ : MethodName)) hown (mvT hZ (hw _ (List.mem_of_getElem? (i := 13) rfl))) (mvT hZ (hw _ (List.mem_of_getElem? (i := 14) rfl))) (notFace_of_selects (args := #[]) (mvT hZ (hw _ (List.mem_of_getElem? (i := 16) rfl)))) (mvT hZ (hw _ (List.mem_of_getElem? (i := 16) rfl))) (mvT hZ (hw _ (List.mem_of_getElem? (i := 15) rfl))) (by decide) (backOf (W := 0) (rm3 l Z a0 hw [] a11 v5 v1 n5_17 T17.heap n0 Z19 Ec17_a1 Fc17_0 Fc17_1 fr11 (by omega) (by omega)) hZ (hw _ (List.mem_of_getElem? (i := 17) rfl)) (hw _ (List.mem_of_getElem? (i := 4) rfl)) (by decide) (by decide)) q110a q110c (g := (mkF m 91 #[.val (.long p1), .second, .val (.int p2), .val (.int p3), .val (.int p4), .val (.int p5), .val (.long v1), .second, .val (.int v3), .val (.int v5), .val (.int v7), .val (.int v9), .val (.ref a11), .val (.int (0 : Int32)), .val (.int (0 : Int32)), .val (.long v1), .second, .unset, .unset, .unset, .unset, .unset, .unset, .unset, .unset, .unset, .unset, .unset, .unset] [(.int v5), (.ref a11)])) rfl (by rw [hml]; rfl) (Steps.refl _) (argsL := [(.int v5)]) (rest := []) (lenOf pd_1 rfl) rfl (by show 2 * 0 + _ ≤ _; exact Nat.le_of_eq rfl) (hb hby at_91) (fun _ _ => ⟨rfl, rfl, (by decide : 1 + 0 ≤ _), (by decide : 2 + 0 ≤ _)⟩)
    dsimp only [Pt.U, Pt.locs, Pt.cells, Pt.slots] at X110 l110 y110 z110 st110 hQ110
    subst l110 y110 z110
    obtain ⟨o110, n5_110, rfl, pp110, N110, Kc110, Ec110_a1, Fc110_0, Fc110_1⟩ := hQ110
    have Z111 : n0 ≤ T110.heap.size := Nat.le_trans Z19 Kc110.1
    have ro110 := rng32 o110
    have rn5_110 := rng64 n5_110
    have N110a := Fr.app N17a N110
    refine own_via st110 ?_
    show own_Go p e below (Q0 Z p1 p2 p3 p4 p5 h0 n0) (own_Fr s room_1.cells room_1.slots) (T110.setTop (mkF m 94 #[.val (.long p1), .second, .val (.int p2), .val (.int p3), .val (.int p4), .val (.int p5), .val (.long v1), .second, .val (.int v3), .val (.int v5), .val (.int v7), .val (.int v9), .val (.ref a11), .val (.int (0 : Int32)), .val (.int (0 : Int32)), .val (.long v1), .second, .unset, .unset, .unset, .unset, .unset, .unset, .unset, .unset, .unset, .unset, .unset, .unset] [(.int o110)]))
    rcases pp110 with ⟨hr110, pp110⟩ | ⟨hr110, pp110⟩
    · obtain rfl : o110 = (1 : Int32) := Int32.toInt_inj.mp hr110
      refine own_istore (pc' := 96) X110 hx #[.val (.long p1), .second, .val (.int p2), .val (.int p3), .val (.int p4), .val (.int p5), .val (.long v1), .second, .val (.int v3), .val (.int v5), .val (.int v7), .val (.int v9), .val (.ref a11), .val (.int (0 : Int32)), .val (.int (0 : Int32)), .val (.long v1), .second, .val (.int (1 : Int32)), .unset, .unset, .unset, .unset, .unset, .unset, .unset, .unset, .unset, .unset, .unset] rfl (hb hby at_94) rfl ?_
      refine own_iload (pc' := 98) X110 hx rfl (hb hby at_96) rfl ?_
      obtain ⟨v112, hv112⟩ : ∃ z, v5.toInt64 = z := ⟨_, rfl⟩
      have f113 : v112.toInt = v5.toInt := by rw [← hv112]; exact c_i2l v5
      refine own_i2l (pc' := 99) X110 hx (z := v112) hv112 (hb hby at_98) rfl ?_
      refine own_lload (pc' := 101) X110 hx rfl (hb hby at_99) rfl ?_
      refine own_lcmp (pc' := 102) X110 hx rfl (hb hby at_101) rfl ?_
      have b114 : ¬ v1.toInt < v112.toInt := by omega
      refine own_ifNo (pc' := 105) X110 hx (own_lno_gt rfl rfl b114) (hb hby at_102) rfl ?_
      refine own_iconst (pc' := 106) X110 hx (1 : Int32) (by decide) (hb hby at_105) rfl ?_
      refine own_goto (pc' := 110) X110 hx (hb hby at_106) (by decide) (by decide) ?_
      refine own_istore (pc' := 112) X110 hx #[.val (.long p1), .second, .val (.int p2), .val (.int p3), .val (.int p4), .val (.int p5), .val (.long v1), .second, .val (.int v3), .val (.int v5), .val (.int v7), .val (.int v9), .val (.ref a11), .val (.int (0 : Int32)), .val (.int (0 : Int32)), .val (.long v1), .second, .val (.int (1 : Int32)), .val (.int (1 : Int32)), .unset, .unset, .unset, .unset, .unset, .unset, .unset, .unset, .unset, .unset] rfl (hb hby at_110) rfl ?_
      refine own_iload (pc' := 114) X110 hx rfl (hb hby at_112) rfl ?_
      refine own_ifNo (pc' := 117) X110 hx (by decide) (hb hby at_114) rfl ?_
      refine own_lload (pc' := 119) X110 hx rfl (hb hby at_117) rfl ?_
      refine own_iload (pc' := 121) X110 hx rfl (hb hby at_119) rfl ?_
      obtain ⟨v115, hv115⟩ : ∃ z, v5.toInt64 = z := ⟨_, rfl⟩
      have f116 : v115.toInt = v5.toInt := by rw [← hv115]; exact c_i2l v5
      refine own_i2l (pc' := 122) X110 hx (z := v115) hv115 (hb hby at_121) rfl ?_
      obtain ⟨v117, hv117⟩ : ∃ z, v1 - v115 = z := ⟨_, rfl⟩
      have f118 : (v117.toInt - (v1.toInt - v115.toInt)) % 18446744073709551616 = 0 := by rw [← hv117]; exact c_lsub v1 v115
      have rv117 := rng64 v117
      replace f118 : v117.toInt = v1.toInt - v115.toInt := by omega
      refine own_lsub (pc' := 123) X110 hx (z := v117) hv117 (hb hby at_122) rfl ?_
      refine own_goto (pc' := 128) X110 hx (hb hby at_123) (by decide) (by decide) ?_
      refine own_lstore (pc' := 130) X110 hx #[.val (.long p1), .second, .val (.int p2), .val (.int p3), .val (.int p4), .val (.int p5), .val (.long v1), .second, .val (.int v3), .val (.int v5), .val (.int v7), .val (.int v9), .val (.ref a11), .val (.int (0 : Int32)), .val (.int (0 : Int32)), .val (.long v1), .second, .val (.int (1 : Int32)), .val (.int (1 : Int32)), .val (.long v117), .second, .unset, .unset, .unset, .unset, .unset, .unset, .unset, .unset] rfl (hb hby at_128) rfl ?_
      refine own_iload (pc' := 132) X110 hx rfl (hb hby at_130) rfl ?_
      refine own_ifYes (pc' := 142) X110 hx (hb hby at_132) (by decide) (by decide) (by decide) ?_
      refine own_iload (pc' := 144) X110 hx rfl (hb hby at_142) rfl ?_
      refine own_ifYes (pc' := 156) X110 hx (hb hby at_144) (by decide) (by decide) (by decide) ?_
      refine own_lload (pc' := 158) X110 hx rfl (hb hby at_156) rfl ?_
      refine own_lstore (pc' := 160) X110 hx #[.val (.long p1), .second, .val (.int p2), .val (.int p3), .val (.int p4), .val (.int p5), .val (.long v1), .second, .val (.int v3), .val (.int v5), .val (.int v7), .val (.int v9), .val (.ref a11), .val (.int (0 : Int32)), .val (.int (0 : Int32)), .val (.long v1), .second, .val (.int (1 : Int32)), .val (.int (1 : Int32)), .val (.long v117), .second, .val (.long v117), .second, .unset, .unset, .unset, .unset, .unset, .unset] rfl (hb hby at_158) rfl ?_
      refine own_aload (pc' := 162) X110 hx rfl rfl (hb hby at_160) rfl ?_
      refine own_iload (pc' := 164) X110 hx rfl (hb hby at_162) rfl ?_
      obtain ⟨cq119, kq119, q119a, q119b, q119c⟩ := isOf hZ rfl Ec110_a1
      obtain ⟨_, _, ⟨T119, L119, k119, n119⟩, -, X119, ⟨Lc119, hQ119, l119, y119, z119⟩, st119⟩ := X110.virtualBack hx (y := (⟨"com/example/rebalanced/rebalanced/server/RequestBudget", "tryReserve", "(I)Z"⟩ : MethodName)) (z := (⟨"com/example/rebalanced/rebalanced/server/RequestBudget", "tryReserve", "(I)Z"⟩ : MethodName)) hown (mvT hZ (hw _ (List.mem_of_getElem? (i := 13) rfl))) (mvT hZ (hw _ (List.mem_of_getElem? (i := 14) rfl))) (notFace_of_selects (args := #[]) (mvT hZ (hw _ (List.mem_of_getElem? (i := 16) rfl)))) (mvT hZ (hw _ (List.mem_of_getElem? (i := 16) rfl))) (mvT hZ (hw _ (List.mem_of_getElem? (i := 15) rfl))) (by decide) (backOf (W := 0) (rm3 l Z a0 hw [] a11 v7 v1 n5_110 T110.heap n0 Z111 Ec110_a1 Fc110_0 Fc110_1 fr11 (by omega) (by omega)) hZ (hw _ (List.mem_of_getElem? (i := 17) rfl)) (hw _ (List.mem_of_getElem? (i := 4) rfl)) (by decide) (by decide)) q119a q119c (g := (mkF m 164 #[.val (.long p1), .second, .val (.int p2), .val (.int p3), .val (.int p4), .val (.int p5), .val (.long v1), .second, .val (.int v3), .val (.int v5), .val (.int v7), .val (.int v9), .val (.ref a11), .val (.int (0 : Int32)), .val (.int (0 : Int32)), .val (.long v1), .second, .val (.int (1 : Int32)), .val (.int (1 : Int32)), .val (.long v117), .second, .val (.long v117), .second, .unset, .unset, .unset, .unset, .unset, .unset] [(.int v7), (.ref a11)])) rfl (by rw [hml]; rfl) (Steps.refl _) (argsL := [(.int v7)]) (rest := []) (lenOf pd_1 rfl) rfl (by show 2 * 0 + _ ≤ _; exact Nat.le_of_eq rfl) (hb hby at_164) (fun _ _ => ⟨rfl, rfl, (by decide : 1 + 0 ≤ _), (by decide : 2 + 0 ≤ _)⟩)
      dsimp only [Pt.U, Pt.locs, Pt.cells, Pt.slots] at X119 l119 y119 z119 st119 hQ119
      subst l119 y119 z119
      obtain ⟨o119, n5_119, rfl, pp119, N119, Kc119, Ec119_a1, Fc119_0, Fc119_1⟩ := hQ119
      have Z120 : n0 ≤ T119.heap.size := Nat.le_trans Z111 Kc119.1
      have ro119 := rng32 o119
      have rn5_119 := rng64 n5_119
      have N119a := Fr.app N110a N119
      refine own_via st119 ?_
      show own_Go p e below (Q0 Z p1 p2 p3 p4 p5 h0 n0) (own_Fr s room_1.cells room_1.slots) (T119.setTop (mkF m 167 #[.val (.long p1), .second, .val (.int p2), .val (.int p3), .val (.int p4), .val (.int p5), .val (.long v1), .second, .val (.int v3), .val (.int v5), .val (.int v7), .val (.int v9), .val (.ref a11), .val (.int (0 : Int32)), .val (.int (0 : Int32)), .val (.long v1), .second, .val (.int (1 : Int32)), .val (.int (1 : Int32)), .val (.long v117), .second, .val (.long v117), .second, .unset, .unset, .unset, .unset, .unset, .unset] [(.int o119)]))
      rcases pp119 with ⟨hr119, pp119⟩ | ⟨hr119, pp119⟩
      · obtain rfl : o119 = (1 : Int32) := Int32.toInt_inj.mp hr119
        refine own_istore (pc' := 169) X119 hx #[.val (.long p1), .second, .val (.int p2), .val (.int p3), .val (.int p4), .val (.int p5), .val (.long v1), .second, .val (.int v3), .val (.int v5), .val (.int v7), .val (.int v9), .val (.ref a11), .val (.int (0 : Int32)), .val (.int (0 : Int32)), .val (.long v1), .second, .val (.int (1 : Int32)), .val (.int (1 : Int32)), .val (.long v117), .second, .val (.long v117), .second, .val (.int (1 : Int32)), .unset, .unset, .unset, .unset, .unset] rfl (hb hby at_167) rfl ?_
        refine own_iload (pc' := 171) X119 hx rfl (hb hby at_169) rfl ?_
        obtain ⟨v121, hv121⟩ : ∃ z, v7.toInt64 = z := ⟨_, rfl⟩
        have f122 : v121.toInt = v7.toInt := by rw [← hv121]; exact c_i2l v7
        refine own_i2l (pc' := 172) X119 hx (z := v121) hv121 (hb hby at_171) rfl ?_
        refine own_lload (pc' := 174) X119 hx rfl (hb hby at_172) rfl ?_
        refine own_lcmp (pc' := 175) X119 hx rfl (hb hby at_174) rfl ?_
        have b123 : ¬ v117.toInt < v121.toInt := by omega
        refine own_ifNo (pc' := 178) X119 hx (own_lno_gt rfl rfl b123) (hb hby at_175) rfl ?_
        refine own_iconst (pc' := 179) X119 hx (1 : Int32) (by decide) (hb hby at_178) rfl ?_
        refine own_goto (pc' := 183) X119 hx (hb hby at_179) (by decide) (by decide) ?_
        refine own_istore (pc' := 185) X119 hx #[.val (.long p1), .second, .val (.int p2), .val (.int p3), .val (.int p4), .val (.int p5), .val (.long v1), .second, .val (.int v3), .val (.int v5), .val (.int v7), .val (.int v9), .val (.ref a11), .val (.int (0 : Int32)), .val (.int (0 : Int32)), .val (.long v1), .second, .val (.int (1 : Int32)), .val (.int (1 : Int32)), .val (.long v117), .second, .val (.long v117), .second, .val (.int (1 : Int32)), .val (.int (1 : Int32)), .unset, .unset, .unset, .unset] rfl (hb hby at_183) rfl ?_
        refine own_iload (pc' := 187) X119 hx rfl (hb hby at_185) rfl ?_
        refine own_ifNo (pc' := 190) X119 hx (by decide) (hb hby at_187) rfl ?_
        refine own_lload (pc' := 192) X119 hx rfl (hb hby at_190) rfl ?_
        refine own_iload (pc' := 194) X119 hx rfl (hb hby at_192) rfl ?_
        obtain ⟨v124, hv124⟩ : ∃ z, v7.toInt64 = z := ⟨_, rfl⟩
        have f125 : v124.toInt = v7.toInt := by rw [← hv124]; exact c_i2l v7
        refine own_i2l (pc' := 195) X119 hx (z := v124) hv124 (hb hby at_194) rfl ?_
        obtain ⟨v126, hv126⟩ : ∃ z, v117 - v124 = z := ⟨_, rfl⟩
        have f127 : (v126.toInt - (v117.toInt - v124.toInt)) % 18446744073709551616 = 0 := by rw [← hv126]; exact c_lsub v117 v124
        have rv126 := rng64 v126
        replace f127 : v126.toInt = v117.toInt - v124.toInt := by omega
        refine own_lsub (pc' := 196) X119 hx (z := v126) hv126 (hb hby at_195) rfl ?_
        refine own_goto (pc' := 201) X119 hx (hb hby at_196) (by decide) (by decide) ?_
        refine own_lstore (pc' := 203) X119 hx #[.val (.long p1), .second, .val (.int p2), .val (.int p3), .val (.int p4), .val (.int p5), .val (.long v1), .second, .val (.int v3), .val (.int v5), .val (.int v7), .val (.int v9), .val (.ref a11), .val (.int (0 : Int32)), .val (.int (0 : Int32)), .val (.long v1), .second, .val (.int (1 : Int32)), .val (.int (1 : Int32)), .val (.long v117), .second, .val (.long v117), .second, .val (.int (1 : Int32)), .val (.int (1 : Int32)), .val (.long v126), .second, .unset, .unset] rfl (hb hby at_201) rfl ?_
        refine own_aload (pc' := 205) X119 hx rfl rfl (hb hby at_203) rfl ?_
        refine own_iload (pc' := 207) X119 hx rfl (hb hby at_205) rfl ?_
        obtain ⟨cq128, kq128, q128a, q128b, q128c⟩ := isOf hZ rfl Ec119_a1
        obtain ⟨_, _, ⟨T128, L128, k128, n128⟩, -, X128, ⟨Lc128, hQ128, l128, y128, z128⟩, st128⟩ := X119.virtualBack hx (y := (⟨"com/example/rebalanced/rebalanced/server/RequestBudget", "tryReserve", "(I)Z"⟩ : MethodName)) (z := (⟨"com/example/rebalanced/rebalanced/server/RequestBudget", "tryReserve", "(I)Z"⟩ : MethodName)) hown (mvT hZ (hw _ (List.mem_of_getElem? (i := 13) rfl))) (mvT hZ (hw _ (List.mem_of_getElem? (i := 14) rfl))) (notFace_of_selects (args := #[]) (mvT hZ (hw _ (List.mem_of_getElem? (i := 16) rfl)))) (mvT hZ (hw _ (List.mem_of_getElem? (i := 16) rfl))) (mvT hZ (hw _ (List.mem_of_getElem? (i := 15) rfl))) (by decide) (backOf (W := 0) (rm3 l Z a0 hw [] a11 v9 v1 n5_119 T119.heap n0 Z120 Ec119_a1 Fc119_0 Fc119_1 fr11 (by omega) (by omega)) hZ (hw _ (List.mem_of_getElem? (i := 17) rfl)) (hw _ (List.mem_of_getElem? (i := 4) rfl)) (by decide) (by decide)) q128a q128c (g := (mkF m 207 #[.val (.long p1), .second, .val (.int p2), .val (.int p3), .val (.int p4), .val (.int p5), .val (.long v1), .second, .val (.int v3), .val (.int v5), .val (.int v7), .val (.int v9), .val (.ref a11), .val (.int (0 : Int32)), .val (.int (0 : Int32)), .val (.long v1), .second, .val (.int (1 : Int32)), .val (.int (1 : Int32)), .val (.long v117), .second, .val (.long v117), .second, .val (.int (1 : Int32)), .val (.int (1 : Int32)), .val (.long v126), .second, .unset, .unset] [(.int v9), (.ref a11)])) rfl (by rw [hml]; rfl) (Steps.refl _) (argsL := [(.int v9)]) (rest := []) (lenOf pd_1 rfl) rfl (by show 2 * 0 + _ ≤ _; exact Nat.le_of_eq rfl) (hb hby at_207) (fun _ _ => ⟨rfl, rfl, (by decide : 1 + 0 ≤ _), (by decide : 2 + 0 ≤ _)⟩)
        dsimp only [Pt.U, Pt.locs, Pt.cells, Pt.slots] at X128 l128 y128 z128 st128 hQ128
        subst l128 y128 z128
        obtain ⟨o128, n5_128, rfl, pp128, N128, Kc128, Ec128_a1, Fc128_0, Fc128_1⟩ := hQ128
        have Z129 : n0 ≤ T128.heap.size := Nat.le_trans Z120 Kc128.1
        have ro128 := rng32 o128
        have rn5_128 := rng64 n5_128
        have N128a := Fr.app N119a N128
        refine own_via st128 ?_
        show own_Go p e below (Q0 Z p1 p2 p3 p4 p5 h0 n0) (own_Fr s room_1.cells room_1.slots) (T128.setTop (mkF m 210 #[.val (.long p1), .second, .val (.int p2), .val (.int p3), .val (.int p4), .val (.int p5), .val (.long v1), .second, .val (.int v3), .val (.int v5), .val (.int v7), .val (.int v9), .val (.ref a11), .val (.int (0 : Int32)), .val (.int (0 : Int32)), .val (.long v1), .second, .val (.int (1 : Int32)), .val (.int (1 : Int32)), .val (.long v117), .second, .val (.long v117), .second, .val (.int (1 : Int32)), .val (.int (1 : Int32)), .val (.long v126), .second, .unset, .unset] [(.int o128)]))
        rcases pp128 with ⟨hr128, pp128⟩ | ⟨hr128, pp128⟩
        · obtain rfl : o128 = (1 : Int32) := Int32.toInt_inj.mp hr128
          refine own_istore (pc' := 212) X128 hx #[.val (.long p1), .second, .val (.int p2), .val (.int p3), .val (.int p4), .val (.int p5), .val (.long v1), .second, .val (.int v3), .val (.int v5), .val (.int v7), .val (.int v9), .val (.ref a11), .val (.int (0 : Int32)), .val (.int (0 : Int32)), .val (.long v1), .second, .val (.int (1 : Int32)), .val (.int (1 : Int32)), .val (.long v117), .second, .val (.long v117), .second, .val (.int (1 : Int32)), .val (.int (1 : Int32)), .val (.long v126), .second, .val (.int (1 : Int32)), .unset] rfl (hb hby at_210) rfl ?_
          refine own_iload (pc' := 214) X128 hx rfl (hb hby at_212) rfl ?_
          obtain ⟨v130, hv130⟩ : ∃ z, v9.toInt64 = z := ⟨_, rfl⟩
          have f131 : v130.toInt = v9.toInt := by rw [← hv130]; exact c_i2l v9
          refine own_i2l (pc' := 215) X128 hx (z := v130) hv130 (hb hby at_214) rfl ?_
          refine own_lload (pc' := 217) X128 hx rfl (hb hby at_215) rfl ?_
          refine own_lcmp (pc' := 218) X128 hx rfl (hb hby at_217) rfl ?_
          have b132 : ¬ v126.toInt < v130.toInt := by omega
          refine own_ifNo (pc' := 221) X128 hx (own_lno_gt rfl rfl b132) (hb hby at_218) rfl ?_
          refine own_iconst (pc' := 222) X128 hx (1 : Int32) (by decide) (hb hby at_221) rfl ?_
          refine own_goto (pc' := 226) X128 hx (hb hby at_222) (by decide) (by decide) ?_
          refine own_istore (pc' := 228) X128 hx #[.val (.long p1), .second, .val (.int p2), .val (.int p3), .val (.int p4), .val (.int p5), .val (.long v1), .second, .val (.int v3), .val (.int v5), .val (.int v7), .val (.int v9), .val (.ref a11), .val (.int (0 : Int32)), .val (.int (0 : Int32)), .val (.long v1), .second, .val (.int (1 : Int32)), .val (.int (1 : Int32)), .val (.long v117), .second, .val (.long v117), .second, .val (.int (1 : Int32)), .val (.int (1 : Int32)), .val (.long v126), .second, .val (.int (1 : Int32)), .val (.int (1 : Int32))] rfl (hb hby at_226) rfl ?_
          refine own_iload (pc' := 230) X128 hx rfl (hb hby at_228) rfl ?_
          refine own_iload (pc' := 232) X128 hx rfl (hb hby at_230) rfl ?_
          refine own_icmpNo (pc' := 235) X128 hx (by decide) (hb hby at_232) rfl ?_
          refine own_iload (pc' := 237) X128 hx rfl (hb hby at_235) rfl ?_
          refine own_iload (pc' := 239) X128 hx rfl (hb hby at_237) rfl ?_
          refine own_icmpNo (pc' := 242) X128 hx (by decide) (hb hby at_239) rfl ?_
          refine own_iload (pc' := 244) X128 hx rfl (hb hby at_242) rfl ?_
          refine own_iload (pc' := 246) X128 hx rfl (hb hby at_244) rfl ?_
          refine own_icmpNo (pc' := 249) X128 hx (by decide) (hb hby at_246) rfl ?_
          refine own_iload (pc' := 251) X128 hx rfl (hb hby at_249) rfl ?_
          refine own_iload (pc' := 253) X128 hx rfl (hb hby at_251) rfl ?_
          refine own_icmpNo (pc' := 256) X128 hx (by decide) (hb hby at_253) rfl ?_
          refine own_iconst (pc' := 257) X128 hx (1 : Int32) (by decide) (hb hby at_256) rfl ?_
          refine own_goto (pc' := 261) X128 hx (hb hby at_257) (by decide) (by decide) ?_
          refine own_ret X128 hx Bd.returns Bd.notSynchronized (Or.inl ⟨rfl, by simp, _, rfl⟩) (hb hby at_261) rfl (by decide) (by decide) ?_
          show Q0 Z p1 p2 p3 p4 p5 h0 n0 _ T128.heap _
          exact ⟨rfl, N128a⟩
        · obtain rfl : o128 = (0 : Int32) := Int32.toInt_inj.mp hr128
          refine own_istore (pc' := 212) X128 hx #[.val (.long p1), .second, .val (.int p2), .val (.int p3), .val (.int p4), .val (.int p5), .val (.long v1), .second, .val (.int v3), .val (.int v5), .val (.int v7), .val (.int v9), .val (.ref a11), .val (.int (0 : Int32)), .val (.int (0 : Int32)), .val (.long v1), .second, .val (.int (1 : Int32)), .val (.int (1 : Int32)), .val (.long v117), .second, .val (.long v117), .second, .val (.int (1 : Int32)), .val (.int (1 : Int32)), .val (.long v126), .second, .val (.int (0 : Int32)), .unset] rfl (hb hby at_210) rfl ?_
          refine own_iload (pc' := 214) X128 hx rfl (hb hby at_212) rfl ?_
          obtain ⟨v133, hv133⟩ : ∃ z, v9.toInt64 = z := ⟨_, rfl⟩
          have f134 : v133.toInt = v9.toInt := by rw [← hv133]; exact c_i2l v9
          refine own_i2l (pc' := 215) X128 hx (z := v133) hv133 (hb hby at_214) rfl ?_
          refine own_lload (pc' := 217) X128 hx rfl (hb hby at_215) rfl ?_
          refine own_lcmp (pc' := 218) X128 hx rfl (hb hby at_217) rfl ?_
          have b135 : v126.toInt < v133.toInt := by omega
          refine own_ifYes (pc' := 225) X128 hx (hb hby at_218) (own_lyes_gt rfl rfl b135) (by decide) (by decide) ?_
          refine own_iconst (pc' := 226) X128 hx (0 : Int32) (by decide) (hb hby at_225) rfl ?_
          refine own_istore (pc' := 228) X128 hx #[.val (.long p1), .second, .val (.int p2), .val (.int p3), .val (.int p4), .val (.int p5), .val (.long v1), .second, .val (.int v3), .val (.int v5), .val (.int v7), .val (.int v9), .val (.ref a11), .val (.int (0 : Int32)), .val (.int (0 : Int32)), .val (.long v1), .second, .val (.int (1 : Int32)), .val (.int (1 : Int32)), .val (.long v117), .second, .val (.long v117), .second, .val (.int (1 : Int32)), .val (.int (1 : Int32)), .val (.long v126), .second, .val (.int (0 : Int32)), .val (.int (0 : Int32))] rfl (hb hby at_226) rfl ?_
          refine own_iload (pc' := 230) X128 hx rfl (hb hby at_228) rfl ?_
          refine own_iload (pc' := 232) X128 hx rfl (hb hby at_230) rfl ?_
          refine own_icmpNo (pc' := 235) X128 hx (by decide) (hb hby at_232) rfl ?_
          refine own_iload (pc' := 237) X128 hx rfl (hb hby at_235) rfl ?_
          refine own_iload (pc' := 239) X128 hx rfl (hb hby at_237) rfl ?_
          refine own_icmpNo (pc' := 242) X128 hx (by decide) (hb hby at_239) rfl ?_
          refine own_iload (pc' := 244) X128 hx rfl (hb hby at_242) rfl ?_
          refine own_iload (pc' := 246) X128 hx rfl (hb hby at_244) rfl ?_
          refine own_icmpNo (pc' := 249) X128 hx (by decide) (hb hby at_246) rfl ?_
          refine own_iload (pc' := 251) X128 hx rfl (hb hby at_249) rfl ?_
          refine own_iload (pc' := 253) X128 hx rfl (hb hby at_251) rfl ?_
          refine own_icmpNo (pc' := 256) X128 hx (by decide) (hb hby at_253) rfl ?_
          refine own_iconst (pc' := 257) X128 hx (1 : Int32) (by decide) (hb hby at_256) rfl ?_
          refine own_goto (pc' := 261) X128 hx (hb hby at_257) (by decide) (by decide) ?_
          refine own_ret X128 hx Bd.returns Bd.notSynchronized (Or.inl ⟨rfl, by simp, _, rfl⟩) (hb hby at_261) rfl (by decide) (by decide) ?_
          show Q0 Z p1 p2 p3 p4 p5 h0 n0 _ T128.heap _
          exact ⟨rfl, N128a⟩
      · obtain rfl : o119 = (0 : Int32) := Int32.toInt_inj.mp hr119
        refine own_istore (pc' := 169) X119 hx #[.val (.long p1), .second, .val (.int p2), .val (.int p3), .val (.int p4), .val (.int p5), .val (.long v1), .second, .val (.int v3), .val (.int v5), .val (.int v7), .val (.int v9), .val (.ref a11), .val (.int (0 : Int32)), .val (.int (0 : Int32)), .val (.long v1), .second, .val (.int (1 : Int32)), .val (.int (1 : Int32)), .val (.long v117), .second, .val (.long v117), .second, .val (.int (0 : Int32)), .unset, .unset, .unset, .unset, .unset] rfl (hb hby at_167) rfl ?_
        refine own_iload (pc' := 171) X119 hx rfl (hb hby at_169) rfl ?_
        obtain ⟨v136, hv136⟩ : ∃ z, v7.toInt64 = z := ⟨_, rfl⟩
        have f137 : v136.toInt = v7.toInt := by rw [← hv136]; exact c_i2l v7
        refine own_i2l (pc' := 172) X119 hx (z := v136) hv136 (hb hby at_171) rfl ?_
        refine own_lload (pc' := 174) X119 hx rfl (hb hby at_172) rfl ?_
        refine own_lcmp (pc' := 175) X119 hx rfl (hb hby at_174) rfl ?_
        have b138 : v117.toInt < v136.toInt := by omega
        refine own_ifYes (pc' := 182) X119 hx (hb hby at_175) (own_lyes_gt rfl rfl b138) (by decide) (by decide) ?_
        refine own_iconst (pc' := 183) X119 hx (0 : Int32) (by decide) (hb hby at_182) rfl ?_
        refine own_istore (pc' := 185) X119 hx #[.val (.long p1), .second, .val (.int p2), .val (.int p3), .val (.int p4), .val (.int p5), .val (.long v1), .second, .val (.int v3), .val (.int v5), .val (.int v7), .val (.int v9), .val (.ref a11), .val (.int (0 : Int32)), .val (.int (0 : Int32)), .val (.long v1), .second, .val (.int (1 : Int32)), .val (.int (1 : Int32)), .val (.long v117), .second, .val (.long v117), .second, .val (.int (0 : Int32)), .val (.int (0 : Int32)), .unset, .unset, .unset, .unset] rfl (hb hby at_183) rfl ?_
        refine own_iload (pc' := 187) X119 hx rfl (hb hby at_185) rfl ?_
        refine own_ifYes (pc' := 199) X119 hx (hb hby at_187) (by decide) (by decide) (by decide) ?_
        refine own_lload (pc' := 201) X119 hx rfl (hb hby at_199) rfl ?_
        refine own_lstore (pc' := 203) X119 hx #[.val (.long p1), .second, .val (.int p2), .val (.int p3), .val (.int p4), .val (.int p5), .val (.long v1), .second, .val (.int v3), .val (.int v5), .val (.int v7), .val (.int v9), .val (.ref a11), .val (.int (0 : Int32)), .val (.int (0 : Int32)), .val (.long v1), .second, .val (.int (1 : Int32)), .val (.int (1 : Int32)), .val (.long v117), .second, .val (.long v117), .second, .val (.int (0 : Int32)), .val (.int (0 : Int32)), .val (.long v117), .second, .unset, .unset] rfl (hb hby at_201) rfl ?_
        refine own_aload (pc' := 205) X119 hx rfl rfl (hb hby at_203) rfl ?_
        refine own_iload (pc' := 207) X119 hx rfl (hb hby at_205) rfl ?_
        obtain ⟨cq139, kq139, q139a, q139b, q139c⟩ := isOf hZ rfl Ec119_a1
        obtain ⟨_, _, ⟨T139, L139, k139, n139⟩, -, X139, ⟨Lc139, hQ139, l139, y139, z139⟩, st139⟩ := X119.virtualBack hx (y := (⟨"com/example/rebalanced/rebalanced/server/RequestBudget", "tryReserve", "(I)Z"⟩ : MethodName)) (z := (⟨"com/example/rebalanced/rebalanced/server/RequestBudget", "tryReserve", "(I)Z"⟩ : MethodName)) hown (mvT hZ (hw _ (List.mem_of_getElem? (i := 13) rfl))) (mvT hZ (hw _ (List.mem_of_getElem? (i := 14) rfl))) (notFace_of_selects (args := #[]) (mvT hZ (hw _ (List.mem_of_getElem? (i := 16) rfl)))) (mvT hZ (hw _ (List.mem_of_getElem? (i := 16) rfl))) (mvT hZ (hw _ (List.mem_of_getElem? (i := 15) rfl))) (by decide) (backOf (W := 0) (rm3 l Z a0 hw [] a11 v9 v1 n5_119 T119.heap n0 Z120 Ec119_a1 Fc119_0 Fc119_1 fr11 (by omega) (by omega)) hZ (hw _ (List.mem_of_getElem? (i := 17) rfl)) (hw _ (List.mem_of_getElem? (i := 4) rfl)) (by decide) (by decide)) q139a q139c (g := (mkF m 207 #[.val (.long p1), .second, .val (.int p2), .val (.int p3), .val (.int p4), .val (.int p5), .val (.long v1), .second, .val (.int v3), .val (.int v5), .val (.int v7), .val (.int v9), .val (.ref a11), .val (.int (0 : Int32)), .val (.int (0 : Int32)), .val (.long v1), .second, .val (.int (1 : Int32)), .val (.int (1 : Int32)), .val (.long v117), .second, .val (.long v117), .second, .val (.int (0 : Int32)), .val (.int (0 : Int32)), .val (.long v117), .second, .unset, .unset] [(.int v9), (.ref a11)])) rfl (by rw [hml]; rfl) (Steps.refl _) (argsL := [(.int v9)]) (rest := []) (lenOf pd_1 rfl) rfl (by show 2 * 0 + _ ≤ _; exact Nat.le_of_eq rfl) (hb hby at_207) (fun _ _ => ⟨rfl, rfl, (by decide : 1 + 0 ≤ _), (by decide : 2 + 0 ≤ _)⟩)
        dsimp only [Pt.U, Pt.locs, Pt.cells, Pt.slots] at X139 l139 y139 z139 st139 hQ139
        subst l139 y139 z139
        obtain ⟨o139, n5_139, rfl, pp139, N139, Kc139, Ec139_a1, Fc139_0, Fc139_1⟩ := hQ139
        have Z140 : n0 ≤ T139.heap.size := Nat.le_trans Z120 Kc139.1
        have ro139 := rng32 o139
        have rn5_139 := rng64 n5_139
        have N139a := Fr.app N119a N139
        refine own_via st139 ?_
        show own_Go p e below (Q0 Z p1 p2 p3 p4 p5 h0 n0) (own_Fr s room_1.cells room_1.slots) (T139.setTop (mkF m 210 #[.val (.long p1), .second, .val (.int p2), .val (.int p3), .val (.int p4), .val (.int p5), .val (.long v1), .second, .val (.int v3), .val (.int v5), .val (.int v7), .val (.int v9), .val (.ref a11), .val (.int (0 : Int32)), .val (.int (0 : Int32)), .val (.long v1), .second, .val (.int (1 : Int32)), .val (.int (1 : Int32)), .val (.long v117), .second, .val (.long v117), .second, .val (.int (0 : Int32)), .val (.int (0 : Int32)), .val (.long v117), .second, .unset, .unset] [(.int o139)]))
        rcases pp139 with ⟨hr139, pp139⟩ | ⟨hr139, pp139⟩
        · obtain rfl : o139 = (1 : Int32) := Int32.toInt_inj.mp hr139
          refine own_istore (pc' := 212) X139 hx #[.val (.long p1), .second, .val (.int p2), .val (.int p3), .val (.int p4), .val (.int p5), .val (.long v1), .second, .val (.int v3), .val (.int v5), .val (.int v7), .val (.int v9), .val (.ref a11), .val (.int (0 : Int32)), .val (.int (0 : Int32)), .val (.long v1), .second, .val (.int (1 : Int32)), .val (.int (1 : Int32)), .val (.long v117), .second, .val (.long v117), .second, .val (.int (0 : Int32)), .val (.int (0 : Int32)), .val (.long v117), .second, .val (.int (1 : Int32)), .unset] rfl (hb hby at_210) rfl ?_
          refine own_iload (pc' := 214) X139 hx rfl (hb hby at_212) rfl ?_
          obtain ⟨v141, hv141⟩ : ∃ z, v9.toInt64 = z := ⟨_, rfl⟩
          have f142 : v141.toInt = v9.toInt := by rw [← hv141]; exact c_i2l v9
          refine own_i2l (pc' := 215) X139 hx (z := v141) hv141 (hb hby at_214) rfl ?_
          refine own_lload (pc' := 217) X139 hx rfl (hb hby at_215) rfl ?_
          refine own_lcmp (pc' := 218) X139 hx rfl (hb hby at_217) rfl ?_
          have b143 : ¬ v117.toInt < v141.toInt := by omega
          refine own_ifNo (pc' := 221) X139 hx (own_lno_gt rfl rfl b143) (hb hby at_218) rfl ?_
          refine own_iconst (pc' := 222) X139 hx (1 : Int32) (by decide) (hb hby at_221) rfl ?_
          refine own_goto (pc' := 226) X139 hx (hb hby at_222) (by decide) (by decide) ?_
          refine own_istore (pc' := 228) X139 hx #[.val (.long p1), .second, .val (.int p2), .val (.int p3), .val (.int p4), .val (.int p5), .val (.long v1), .second, .val (.int v3), .val (.int v5), .val (.int v7), .val (.int v9), .val (.ref a11), .val (.int (0 : Int32)), .val (.int (0 : Int32)), .val (.long v1), .second, .val (.int (1 : Int32)), .val (.int (1 : Int32)), .val (.long v117), .second, .val (.long v117), .second, .val (.int (0 : Int32)), .val (.int (0 : Int32)), .val (.long v117), .second, .val (.int (1 : Int32)), .val (.int (1 : Int32))] rfl (hb hby at_226) rfl ?_
          refine own_iload (pc' := 230) X139 hx rfl (hb hby at_228) rfl ?_
          refine own_iload (pc' := 232) X139 hx rfl (hb hby at_230) rfl ?_
          refine own_icmpNo (pc' := 235) X139 hx (by decide) (hb hby at_232) rfl ?_
          refine own_iload (pc' := 237) X139 hx rfl (hb hby at_235) rfl ?_
          refine own_iload (pc' := 239) X139 hx rfl (hb hby at_237) rfl ?_
          refine own_icmpNo (pc' := 242) X139 hx (by decide) (hb hby at_239) rfl ?_
          refine own_iload (pc' := 244) X139 hx rfl (hb hby at_242) rfl ?_
          refine own_iload (pc' := 246) X139 hx rfl (hb hby at_244) rfl ?_
          refine own_icmpNo (pc' := 249) X139 hx (by decide) (hb hby at_246) rfl ?_
          refine own_iload (pc' := 251) X139 hx rfl (hb hby at_249) rfl ?_
          refine own_iload (pc' := 253) X139 hx rfl (hb hby at_251) rfl ?_
          refine own_icmpNo (pc' := 256) X139 hx (by decide) (hb hby at_253) rfl ?_
          refine own_iconst (pc' := 257) X139 hx (1 : Int32) (by decide) (hb hby at_256) rfl ?_
          refine own_goto (pc' := 261) X139 hx (hb hby at_257) (by decide) (by decide) ?_
          refine own_ret X139 hx Bd.returns Bd.notSynchronized (Or.inl ⟨rfl, by simp, _, rfl⟩) (hb hby at_261) rfl (by decide) (by decide) ?_
          show Q0 Z p1 p2 p3 p4 p5 h0 n0 _ T139.heap _
          exact ⟨rfl, N139a⟩
        · obtain rfl : o139 = (0 : Int32) := Int32.toInt_inj.mp hr139
          refine own_istore (pc' := 212) X139 hx #[.val (.long p1), .second, .val (.int p2), .val (.int p3), .val (.int p4), .val (.int p5), .val (.long v1), .second, .val (.int v3), .val (.int v5), .val (.int v7), .val (.int v9), .val (.ref a11), .val (.int (0 : Int32)), .val (.int (0 : Int32)), .val (.long v1), .second, .val (.int (1 : Int32)), .val (.int (1 : Int32)), .val (.long v117), .second, .val (.long v117), .second, .val (.int (0 : Int32)), .val (.int (0 : Int32)), .val (.long v117), .second, .val (.int (0 : Int32)), .unset] rfl (hb hby at_210) rfl ?_
          refine own_iload (pc' := 214) X139 hx rfl (hb hby at_212) rfl ?_
          obtain ⟨v144, hv144⟩ : ∃ z, v9.toInt64 = z := ⟨_, rfl⟩
          have f145 : v144.toInt = v9.toInt := by rw [← hv144]; exact c_i2l v9
          refine own_i2l (pc' := 215) X139 hx (z := v144) hv144 (hb hby at_214) rfl ?_
          refine own_lload (pc' := 217) X139 hx rfl (hb hby at_215) rfl ?_
          refine own_lcmp (pc' := 218) X139 hx rfl (hb hby at_217) rfl ?_
          have b146 : v117.toInt < v144.toInt := by omega
          refine own_ifYes (pc' := 225) X139 hx (hb hby at_218) (own_lyes_gt rfl rfl b146) (by decide) (by decide) ?_
          refine own_iconst (pc' := 226) X139 hx (0 : Int32) (by decide) (hb hby at_225) rfl ?_
          refine own_istore (pc' := 228) X139 hx #[.val (.long p1), .second, .val (.int p2), .val (.int p3), .val (.int p4), .val (.int p5), .val (.long v1), .second, .val (.int v3), .val (.int v5), .val (.int v7), .val (.int v9), .val (.ref a11), .val (.int (0 : Int32)), .val (.int (0 : Int32)), .val (.long v1), .second, .val (.int (1 : Int32)), .val (.int (1 : Int32)), .val (.long v117), .second, .val (.long v117), .second, .val (.int (0 : Int32)), .val (.int (0 : Int32)), .val (.long v117), .second, .val (.int (0 : Int32)), .val (.int (0 : Int32))] rfl (hb hby at_226) rfl ?_
          refine own_iload (pc' := 230) X139 hx rfl (hb hby at_228) rfl ?_
          refine own_iload (pc' := 232) X139 hx rfl (hb hby at_230) rfl ?_
          refine own_icmpNo (pc' := 235) X139 hx (by decide) (hb hby at_232) rfl ?_
          refine own_iload (pc' := 237) X139 hx rfl (hb hby at_235) rfl ?_
          refine own_iload (pc' := 239) X139 hx rfl (hb hby at_237) rfl ?_
          refine own_icmpNo (pc' := 242) X139 hx (by decide) (hb hby at_239) rfl ?_
          refine own_iload (pc' := 244) X139 hx rfl (hb hby at_242) rfl ?_
          refine own_iload (pc' := 246) X139 hx rfl (hb hby at_244) rfl ?_
          refine own_icmpNo (pc' := 249) X139 hx (by decide) (hb hby at_246) rfl ?_
          refine own_iload (pc' := 251) X139 hx rfl (hb hby at_249) rfl ?_
          refine own_iload (pc' := 253) X139 hx rfl (hb hby at_251) rfl ?_
          refine own_icmpNo (pc' := 256) X139 hx (by decide) (hb hby at_253) rfl ?_
          refine own_iconst (pc' := 257) X139 hx (1 : Int32) (by decide) (hb hby at_256) rfl ?_
          refine own_goto (pc' := 261) X139 hx (hb hby at_257) (by decide) (by decide) ?_
          refine own_ret X139 hx Bd.returns Bd.notSynchronized (Or.inl ⟨rfl, by simp, _, rfl⟩) (hb hby at_261) rfl (by decide) (by decide) ?_
          show Q0 Z p1 p2 p3 p4 p5 h0 n0 _ T139.heap _
          exact ⟨rfl, N139a⟩
    · obtain rfl : o110 = (0 : Int32) := Int32.toInt_inj.mp hr110
      refine own_istore (pc' := 96) X110 hx #[.val (.long p1), .second, .val (.int p2), .val (.int p3), .val (.int p4), .val (.int p5), .val (.long v1), .second, .val (.int v3), .val (.int v5), .val (.int v7), .val (.int v9), .val (.ref a11), .val (.int (0 : Int32)), .val (.int (0 : Int32)), .val (.long v1), .second, .val (.int (0 : Int32)), .unset, .unset, .unset, .unset, .unset, .unset, .unset, .unset, .unset, .unset, .unset] rfl (hb hby at_94) rfl ?_
      refine own_iload (pc' := 98) X110 hx rfl (hb hby at_96) rfl ?_
      obtain ⟨v147, hv147⟩ : ∃ z, v5.toInt64 = z := ⟨_, rfl⟩
      have f148 : v147.toInt = v5.toInt := by rw [← hv147]; exact c_i2l v5
      refine own_i2l (pc' := 99) X110 hx (z := v147) hv147 (hb hby at_98) rfl ?_
      refine own_lload (pc' := 101) X110 hx rfl (hb hby at_99) rfl ?_
      refine own_lcmp (pc' := 102) X110 hx rfl (hb hby at_101) rfl ?_
      have b149 : v1.toInt < v147.toInt := by omega
      refine own_ifYes (pc' := 109) X110 hx (hb hby at_102) (own_lyes_gt rfl rfl b149) (by decide) (by decide) ?_
      refine own_iconst (pc' := 110) X110 hx (0 : Int32) (by decide) (hb hby at_109) rfl ?_
      refine own_istore (pc' := 112) X110 hx #[.val (.long p1), .second, .val (.int p2), .val (.int p3), .val (.int p4), .val (.int p5), .val (.long v1), .second, .val (.int v3), .val (.int v5), .val (.int v7), .val (.int v9), .val (.ref a11), .val (.int (0 : Int32)), .val (.int (0 : Int32)), .val (.long v1), .second, .val (.int (0 : Int32)), .val (.int (0 : Int32)), .unset, .unset, .unset, .unset, .unset, .unset, .unset, .unset, .unset, .unset] rfl (hb hby at_110) rfl ?_
      refine own_iload (pc' := 114) X110 hx rfl (hb hby at_112) rfl ?_
      refine own_ifYes (pc' := 126) X110 hx (hb hby at_114) (by decide) (by decide) (by decide) ?_
      refine own_lload (pc' := 128) X110 hx rfl (hb hby at_126) rfl ?_
      refine own_lstore (pc' := 130) X110 hx #[.val (.long p1), .second, .val (.int p2), .val (.int p3), .val (.int p4), .val (.int p5), .val (.long v1), .second, .val (.int v3), .val (.int v5), .val (.int v7), .val (.int v9), .val (.ref a11), .val (.int (0 : Int32)), .val (.int (0 : Int32)), .val (.long v1), .second, .val (.int (0 : Int32)), .val (.int (0 : Int32)), .val (.long v1), .second, .unset, .unset, .unset, .unset, .unset, .unset, .unset, .unset] rfl (hb hby at_128) rfl ?_
      refine own_iload (pc' := 132) X110 hx rfl (hb hby at_130) rfl ?_
      refine own_ifYes (pc' := 142) X110 hx (hb hby at_132) (by decide) (by decide) (by decide) ?_
      refine own_iload (pc' := 144) X110 hx rfl (hb hby at_142) rfl ?_
      refine own_ifYes (pc' := 156) X110 hx (hb hby at_144) (by decide) (by decide) (by decide) ?_
      refine own_lload (pc' := 158) X110 hx rfl (hb hby at_156) rfl ?_
      refine own_lstore (pc' := 160) X110 hx #[.val (.long p1), .second, .val (.int p2), .val (.int p3), .val (.int p4), .val (.int p5), .val (.long v1), .second, .val (.int v3), .val (.int v5), .val (.int v7), .val (.int v9), .val (.ref a11), .val (.int (0 : Int32)), .val (.int (0 : Int32)), .val (.long v1), .second, .val (.int (0 : Int32)), .val (.int (0 : Int32)), .val (.long v1), .second, .val (.long v1), .second, .unset, .unset, .unset, .unset, .unset, .unset] rfl (hb hby at_158) rfl ?_
      refine own_aload (pc' := 162) X110 hx rfl rfl (hb hby at_160) rfl ?_
      refine own_iload (pc' := 164) X110 hx rfl (hb hby at_162) rfl ?_
      obtain ⟨cq150, kq150, q150a, q150b, q150c⟩ := isOf hZ rfl Ec110_a1
      obtain ⟨_, _, ⟨T150, L150, k150, n150⟩, -, X150, ⟨Lc150, hQ150, l150, y150, z150⟩, st150⟩ := X110.virtualBack hx (y := (⟨"com/example/rebalanced/rebalanced/server/RequestBudget", "tryReserve", "(I)Z"⟩ : MethodName)) (z := (⟨"com/example/rebalanced/rebalanced/server/RequestBudget", "tryReserve", "(I)Z"⟩ : MethodName)) hown (mvT hZ (hw _ (List.mem_of_getElem? (i := 13) rfl))) (mvT hZ (hw _ (List.mem_of_getElem? (i := 14) rfl))) (notFace_of_selects (args := #[]) (mvT hZ (hw _ (List.mem_of_getElem? (i := 16) rfl)))) (mvT hZ (hw _ (List.mem_of_getElem? (i := 16) rfl))) (mvT hZ (hw _ (List.mem_of_getElem? (i := 15) rfl))) (by decide) (backOf (W := 0) (rm3 l Z a0 hw [] a11 v7 v1 n5_110 T110.heap n0 Z111 Ec110_a1 Fc110_0 Fc110_1 fr11 (by omega) (by omega)) hZ (hw _ (List.mem_of_getElem? (i := 17) rfl)) (hw _ (List.mem_of_getElem? (i := 4) rfl)) (by decide) (by decide)) q150a q150c (g := (mkF m 164 #[.val (.long p1), .second, .val (.int p2), .val (.int p3), .val (.int p4), .val (.int p5), .val (.long v1), .second, .val (.int v3), .val (.int v5), .val (.int v7), .val (.int v9), .val (.ref a11), .val (.int (0 : Int32)), .val (.int (0 : Int32)), .val (.long v1), .second, .val (.int (0 : Int32)), .val (.int (0 : Int32)), .val (.long v1), .second, .val (.long v1), .second, .unset, .unset, .unset, .unset, .unset, .unset] [(.int v7), (.ref a11)])) rfl (by rw [hml]; rfl) (Steps.refl _) (argsL := [(.int v7)]) (rest := []) (lenOf pd_1 rfl) rfl (by show 2 * 0 + _ ≤ _; exact Nat.le_of_eq rfl) (hb hby at_164) (fun _ _ => ⟨rfl, rfl, (by decide : 1 + 0 ≤ _), (by decide : 2 + 0 ≤ _)⟩)
      dsimp only [Pt.U, Pt.locs, Pt.cells, Pt.slots] at X150 l150 y150 z150 st150 hQ150
      subst l150 y150 z150
      obtain ⟨o150, n5_150, rfl, pp150, N150, Kc150, Ec150_a1, Fc150_0, Fc150_1⟩ := hQ150
      have Z151 : n0 ≤ T150.heap.size := Nat.le_trans Z111 Kc150.1
      have ro150 := rng32 o150
      have rn5_150 := rng64 n5_150
      have N150a := Fr.app N110a N150
      refine own_via st150 ?_
      show own_Go p e below (Q0 Z p1 p2 p3 p4 p5 h0 n0) (own_Fr s room_1.cells room_1.slots) (T150.setTop (mkF m 167 #[.val (.long p1), .second, .val (.int p2), .val (.int p3), .val (.int p4), .val (.int p5), .val (.long v1), .second, .val (.int v3), .val (.int v5), .val (.int v7), .val (.int v9), .val (.ref a11), .val (.int (0 : Int32)), .val (.int (0 : Int32)), .val (.long v1), .second, .val (.int (0 : Int32)), .val (.int (0 : Int32)), .val (.long v1), .second, .val (.long v1), .second, .unset, .unset, .unset, .unset, .unset, .unset] [(.int o150)]))
      rcases pp150 with ⟨hr150, pp150⟩ | ⟨hr150, pp150⟩
      · obtain rfl : o150 = (1 : Int32) := Int32.toInt_inj.mp hr150
        refine own_istore (pc' := 169) X150 hx #[.val (.long p1), .second, .val (.int p2), .val (.int p3), .val (.int p4), .val (.int p5), .val (.long v1), .second, .val (.int v3), .val (.int v5), .val (.int v7), .val (.int v9), .val (.ref a11), .val (.int (0 : Int32)), .val (.int (0 : Int32)), .val (.long v1), .second, .val (.int (0 : Int32)), .val (.int (0 : Int32)), .val (.long v1), .second, .val (.long v1), .second, .val (.int (1 : Int32)), .unset, .unset, .unset, .unset, .unset] rfl (hb hby at_167) rfl ?_
        refine own_iload (pc' := 171) X150 hx rfl (hb hby at_169) rfl ?_
        obtain ⟨v152, hv152⟩ : ∃ z, v7.toInt64 = z := ⟨_, rfl⟩
        have f153 : v152.toInt = v7.toInt := by rw [← hv152]; exact c_i2l v7
        refine own_i2l (pc' := 172) X150 hx (z := v152) hv152 (hb hby at_171) rfl ?_
        refine own_lload (pc' := 174) X150 hx rfl (hb hby at_172) rfl ?_
        refine own_lcmp (pc' := 175) X150 hx rfl (hb hby at_174) rfl ?_
        have b154 : ¬ v1.toInt < v152.toInt := by omega
        refine own_ifNo (pc' := 178) X150 hx (own_lno_gt rfl rfl b154) (hb hby at_175) rfl ?_
        refine own_iconst (pc' := 179) X150 hx (1 : Int32) (by decide) (hb hby at_178) rfl ?_
        refine own_goto (pc' := 183) X150 hx (hb hby at_179) (by decide) (by decide) ?_
        refine own_istore (pc' := 185) X150 hx #[.val (.long p1), .second, .val (.int p2), .val (.int p3), .val (.int p4), .val (.int p5), .val (.long v1), .second, .val (.int v3), .val (.int v5), .val (.int v7), .val (.int v9), .val (.ref a11), .val (.int (0 : Int32)), .val (.int (0 : Int32)), .val (.long v1), .second, .val (.int (0 : Int32)), .val (.int (0 : Int32)), .val (.long v1), .second, .val (.long v1), .second, .val (.int (1 : Int32)), .val (.int (1 : Int32)), .unset, .unset, .unset, .unset] rfl (hb hby at_183) rfl ?_
        refine own_iload (pc' := 187) X150 hx rfl (hb hby at_185) rfl ?_
        refine own_ifNo (pc' := 190) X150 hx (by decide) (hb hby at_187) rfl ?_
        refine own_lload (pc' := 192) X150 hx rfl (hb hby at_190) rfl ?_
        refine own_iload (pc' := 194) X150 hx rfl (hb hby at_192) rfl ?_
        obtain ⟨v155, hv155⟩ : ∃ z, v7.toInt64 = z := ⟨_, rfl⟩
        have f156 : v155.toInt = v7.toInt := by rw [← hv155]; exact c_i2l v7
        refine own_i2l (pc' := 195) X150 hx (z := v155) hv155 (hb hby at_194) rfl ?_
        obtain ⟨v157, hv157⟩ : ∃ z, v1 - v155 = z := ⟨_, rfl⟩
        have f158 : (v157.toInt - (v1.toInt - v155.toInt)) % 18446744073709551616 = 0 := by rw [← hv157]; exact c_lsub v1 v155
        have rv157 := rng64 v157
        replace f158 : v157.toInt = v1.toInt - v155.toInt := by omega
        refine own_lsub (pc' := 196) X150 hx (z := v157) hv157 (hb hby at_195) rfl ?_
        refine own_goto (pc' := 201) X150 hx (hb hby at_196) (by decide) (by decide) ?_
        refine own_lstore (pc' := 203) X150 hx #[.val (.long p1), .second, .val (.int p2), .val (.int p3), .val (.int p4), .val (.int p5), .val (.long v1), .second, .val (.int v3), .val (.int v5), .val (.int v7), .val (.int v9), .val (.ref a11), .val (.int (0 : Int32)), .val (.int (0 : Int32)), .val (.long v1), .second, .val (.int (0 : Int32)), .val (.int (0 : Int32)), .val (.long v1), .second, .val (.long v1), .second, .val (.int (1 : Int32)), .val (.int (1 : Int32)), .val (.long v157), .second, .unset, .unset] rfl (hb hby at_201) rfl ?_
        refine own_aload (pc' := 205) X150 hx rfl rfl (hb hby at_203) rfl ?_
        refine own_iload (pc' := 207) X150 hx rfl (hb hby at_205) rfl ?_
        obtain ⟨cq159, kq159, q159a, q159b, q159c⟩ := isOf hZ rfl Ec150_a1
        obtain ⟨_, _, ⟨T159, L159, k159, n159⟩, -, X159, ⟨Lc159, hQ159, l159, y159, z159⟩, st159⟩ := X150.virtualBack hx (y := (⟨"com/example/rebalanced/rebalanced/server/RequestBudget", "tryReserve", "(I)Z"⟩ : MethodName)) (z := (⟨"com/example/rebalanced/rebalanced/server/RequestBudget", "tryReserve", "(I)Z"⟩ : MethodName)) hown (mvT hZ (hw _ (List.mem_of_getElem? (i := 13) rfl))) (mvT hZ (hw _ (List.mem_of_getElem? (i := 14) rfl))) (notFace_of_selects (args := #[]) (mvT hZ (hw _ (List.mem_of_getElem? (i := 16) rfl)))) (mvT hZ (hw _ (List.mem_of_getElem? (i := 16) rfl))) (mvT hZ (hw _ (List.mem_of_getElem? (i := 15) rfl))) (by decide) (backOf (W := 0) (rm3 l Z a0 hw [] a11 v9 v1 n5_150 T150.heap n0 Z151 Ec150_a1 Fc150_0 Fc150_1 fr11 (by omega) (by omega)) hZ (hw _ (List.mem_of_getElem? (i := 17) rfl)) (hw _ (List.mem_of_getElem? (i := 4) rfl)) (by decide) (by decide)) q159a q159c (g := (mkF m 207 #[.val (.long p1), .second, .val (.int p2), .val (.int p3), .val (.int p4), .val (.int p5), .val (.long v1), .second, .val (.int v3), .val (.int v5), .val (.int v7), .val (.int v9), .val (.ref a11), .val (.int (0 : Int32)), .val (.int (0 : Int32)), .val (.long v1), .second, .val (.int (0 : Int32)), .val (.int (0 : Int32)), .val (.long v1), .second, .val (.long v1), .second, .val (.int (1 : Int32)), .val (.int (1 : Int32)), .val (.long v157), .second, .unset, .unset] [(.int v9), (.ref a11)])) rfl (by rw [hml]; rfl) (Steps.refl _) (argsL := [(.int v9)]) (rest := []) (lenOf pd_1 rfl) rfl (by show 2 * 0 + _ ≤ _; exact Nat.le_of_eq rfl) (hb hby at_207) (fun _ _ => ⟨rfl, rfl, (by decide : 1 + 0 ≤ _), (by decide : 2 + 0 ≤ _)⟩)
        dsimp only [Pt.U, Pt.locs, Pt.cells, Pt.slots] at X159 l159 y159 z159 st159 hQ159
        subst l159 y159 z159
        obtain ⟨o159, n5_159, rfl, pp159, N159, Kc159, Ec159_a1, Fc159_0, Fc159_1⟩ := hQ159
        have Z160 : n0 ≤ T159.heap.size := Nat.le_trans Z151 Kc159.1
        have ro159 := rng32 o159
        have rn5_159 := rng64 n5_159
        have N159a := Fr.app N150a N159
        refine own_via st159 ?_
        show own_Go p e below (Q0 Z p1 p2 p3 p4 p5 h0 n0) (own_Fr s room_1.cells room_1.slots) (T159.setTop (mkF m 210 #[.val (.long p1), .second, .val (.int p2), .val (.int p3), .val (.int p4), .val (.int p5), .val (.long v1), .second, .val (.int v3), .val (.int v5), .val (.int v7), .val (.int v9), .val (.ref a11), .val (.int (0 : Int32)), .val (.int (0 : Int32)), .val (.long v1), .second, .val (.int (0 : Int32)), .val (.int (0 : Int32)), .val (.long v1), .second, .val (.long v1), .second, .val (.int (1 : Int32)), .val (.int (1 : Int32)), .val (.long v157), .second, .unset, .unset] [(.int o159)]))
        rcases pp159 with ⟨hr159, pp159⟩ | ⟨hr159, pp159⟩
        · obtain rfl : o159 = (1 : Int32) := Int32.toInt_inj.mp hr159
          refine own_istore (pc' := 212) X159 hx #[.val (.long p1), .second, .val (.int p2), .val (.int p3), .val (.int p4), .val (.int p5), .val (.long v1), .second, .val (.int v3), .val (.int v5), .val (.int v7), .val (.int v9), .val (.ref a11), .val (.int (0 : Int32)), .val (.int (0 : Int32)), .val (.long v1), .second, .val (.int (0 : Int32)), .val (.int (0 : Int32)), .val (.long v1), .second, .val (.long v1), .second, .val (.int (1 : Int32)), .val (.int (1 : Int32)), .val (.long v157), .second, .val (.int (1 : Int32)), .unset] rfl (hb hby at_210) rfl ?_
          refine own_iload (pc' := 214) X159 hx rfl (hb hby at_212) rfl ?_
          obtain ⟨v161, hv161⟩ : ∃ z, v9.toInt64 = z := ⟨_, rfl⟩
          have f162 : v161.toInt = v9.toInt := by rw [← hv161]; exact c_i2l v9
          refine own_i2l (pc' := 215) X159 hx (z := v161) hv161 (hb hby at_214) rfl ?_
          refine own_lload (pc' := 217) X159 hx rfl (hb hby at_215) rfl ?_
          refine own_lcmp (pc' := 218) X159 hx rfl (hb hby at_217) rfl ?_
          have b163 : ¬ v157.toInt < v161.toInt := by omega
          refine own_ifNo (pc' := 221) X159 hx (own_lno_gt rfl rfl b163) (hb hby at_218) rfl ?_
          refine own_iconst (pc' := 222) X159 hx (1 : Int32) (by decide) (hb hby at_221) rfl ?_
          refine own_goto (pc' := 226) X159 hx (hb hby at_222) (by decide) (by decide) ?_
          refine own_istore (pc' := 228) X159 hx #[.val (.long p1), .second, .val (.int p2), .val (.int p3), .val (.int p4), .val (.int p5), .val (.long v1), .second, .val (.int v3), .val (.int v5), .val (.int v7), .val (.int v9), .val (.ref a11), .val (.int (0 : Int32)), .val (.int (0 : Int32)), .val (.long v1), .second, .val (.int (0 : Int32)), .val (.int (0 : Int32)), .val (.long v1), .second, .val (.long v1), .second, .val (.int (1 : Int32)), .val (.int (1 : Int32)), .val (.long v157), .second, .val (.int (1 : Int32)), .val (.int (1 : Int32))] rfl (hb hby at_226) rfl ?_
          refine own_iload (pc' := 230) X159 hx rfl (hb hby at_228) rfl ?_
          refine own_iload (pc' := 232) X159 hx rfl (hb hby at_230) rfl ?_
          refine own_icmpNo (pc' := 235) X159 hx (by decide) (hb hby at_232) rfl ?_
          refine own_iload (pc' := 237) X159 hx rfl (hb hby at_235) rfl ?_
          refine own_iload (pc' := 239) X159 hx rfl (hb hby at_237) rfl ?_
          refine own_icmpNo (pc' := 242) X159 hx (by decide) (hb hby at_239) rfl ?_
          refine own_iload (pc' := 244) X159 hx rfl (hb hby at_242) rfl ?_
          refine own_iload (pc' := 246) X159 hx rfl (hb hby at_244) rfl ?_
          refine own_icmpNo (pc' := 249) X159 hx (by decide) (hb hby at_246) rfl ?_
          refine own_iload (pc' := 251) X159 hx rfl (hb hby at_249) rfl ?_
          refine own_iload (pc' := 253) X159 hx rfl (hb hby at_251) rfl ?_
          refine own_icmpNo (pc' := 256) X159 hx (by decide) (hb hby at_253) rfl ?_
          refine own_iconst (pc' := 257) X159 hx (1 : Int32) (by decide) (hb hby at_256) rfl ?_
          refine own_goto (pc' := 261) X159 hx (hb hby at_257) (by decide) (by decide) ?_
          refine own_ret X159 hx Bd.returns Bd.notSynchronized (Or.inl ⟨rfl, by simp, _, rfl⟩) (hb hby at_261) rfl (by decide) (by decide) ?_
          show Q0 Z p1 p2 p3 p4 p5 h0 n0 _ T159.heap _
          exact ⟨rfl, N159a⟩
        · obtain rfl : o159 = (0 : Int32) := Int32.toInt_inj.mp hr159
          refine own_istore (pc' := 212) X159 hx #[.val (.long p1), .second, .val (.int p2), .val (.int p3), .val (.int p4), .val (.int p5), .val (.long v1), .second, .val (.int v3), .val (.int v5), .val (.int v7), .val (.int v9), .val (.ref a11), .val (.int (0 : Int32)), .val (.int (0 : Int32)), .val (.long v1), .second, .val (.int (0 : Int32)), .val (.int (0 : Int32)), .val (.long v1), .second, .val (.long v1), .second, .val (.int (1 : Int32)), .val (.int (1 : Int32)), .val (.long v157), .second, .val (.int (0 : Int32)), .unset] rfl (hb hby at_210) rfl ?_
          refine own_iload (pc' := 214) X159 hx rfl (hb hby at_212) rfl ?_
          obtain ⟨v164, hv164⟩ : ∃ z, v9.toInt64 = z := ⟨_, rfl⟩
          have f165 : v164.toInt = v9.toInt := by rw [← hv164]; exact c_i2l v9
          refine own_i2l (pc' := 215) X159 hx (z := v164) hv164 (hb hby at_214) rfl ?_
          refine own_lload (pc' := 217) X159 hx rfl (hb hby at_215) rfl ?_
          refine own_lcmp (pc' := 218) X159 hx rfl (hb hby at_217) rfl ?_
          have b166 : v157.toInt < v164.toInt := by omega
          refine own_ifYes (pc' := 225) X159 hx (hb hby at_218) (own_lyes_gt rfl rfl b166) (by decide) (by decide) ?_
          refine own_iconst (pc' := 226) X159 hx (0 : Int32) (by decide) (hb hby at_225) rfl ?_
          refine own_istore (pc' := 228) X159 hx #[.val (.long p1), .second, .val (.int p2), .val (.int p3), .val (.int p4), .val (.int p5), .val (.long v1), .second, .val (.int v3), .val (.int v5), .val (.int v7), .val (.int v9), .val (.ref a11), .val (.int (0 : Int32)), .val (.int (0 : Int32)), .val (.long v1), .second, .val (.int (0 : Int32)), .val (.int (0 : Int32)), .val (.long v1), .second, .val (.long v1), .second, .val (.int (1 : Int32)), .val (.int (1 : Int32)), .val (.long v157), .second, .val (.int (0 : Int32)), .val (.int (0 : Int32))] rfl (hb hby at_226) rfl ?_
          refine own_iload (pc' := 230) X159 hx rfl (hb hby at_228) rfl ?_
          refine own_iload (pc' := 232) X159 hx rfl (hb hby at_230) rfl ?_
          refine own_icmpNo (pc' := 235) X159 hx (by decide) (hb hby at_232) rfl ?_
          refine own_iload (pc' := 237) X159 hx rfl (hb hby at_235) rfl ?_
          refine own_iload (pc' := 239) X159 hx rfl (hb hby at_237) rfl ?_
          refine own_icmpNo (pc' := 242) X159 hx (by decide) (hb hby at_239) rfl ?_
          refine own_iload (pc' := 244) X159 hx rfl (hb hby at_242) rfl ?_
          refine own_iload (pc' := 246) X159 hx rfl (hb hby at_244) rfl ?_
          refine own_icmpNo (pc' := 249) X159 hx (by decide) (hb hby at_246) rfl ?_
          refine own_iload (pc' := 251) X159 hx rfl (hb hby at_249) rfl ?_
          refine own_iload (pc' := 253) X159 hx rfl (hb hby at_251) rfl ?_
          refine own_icmpNo (pc' := 256) X159 hx (by decide) (hb hby at_253) rfl ?_
          refine own_iconst (pc' := 257) X159 hx (1 : Int32) (by decide) (hb hby at_256) rfl ?_
          refine own_goto (pc' := 261) X159 hx (hb hby at_257) (by decide) (by decide) ?_
          refine own_ret X159 hx Bd.returns Bd.notSynchronized (Or.inl ⟨rfl, by simp, _, rfl⟩) (hb hby at_261) rfl (by decide) (by decide) ?_
          show Q0 Z p1 p2 p3 p4 p5 h0 n0 _ T159.heap _
          exact ⟨rfl, N159a⟩
      · obtain rfl : o150 = (0 : Int32) := Int32.toInt_inj.mp hr150
        refine own_istore (pc' := 169) X150 hx #[.val (.long p1), .second, .val (.int p2), .val (.int p3), .val (.int p4), .val (.int p5), .val (.long v1), .second, .val (.int v3), .val (.int v5), .val (.int v7), .val (.int v9), .val (.ref a11), .val (.int (0 : Int32)), .val (.int (0 : Int32)), .val (.long v1), .second, .val (.int (0 : Int32)), .val (.int (0 : Int32)), .val (.long v1), .second, .val (.long v1), .second, .val (.int (0 : Int32)), .unset, .unset, .unset, .unset, .unset] rfl (hb hby at_167) rfl ?_
        refine own_iload (pc' := 171) X150 hx rfl (hb hby at_169) rfl ?_
        obtain ⟨v167, hv167⟩ : ∃ z, v7.toInt64 = z := ⟨_, rfl⟩
        have f168 : v167.toInt = v7.toInt := by rw [← hv167]; exact c_i2l v7
        refine own_i2l (pc' := 172) X150 hx (z := v167) hv167 (hb hby at_171) rfl ?_
        refine own_lload (pc' := 174) X150 hx rfl (hb hby at_172) rfl ?_
        refine own_lcmp (pc' := 175) X150 hx rfl (hb hby at_174) rfl ?_
        have b169 : v1.toInt < v167.toInt := by omega
        refine own_ifYes (pc' := 182) X150 hx (hb hby at_175) (own_lyes_gt rfl rfl b169) (by decide) (by decide) ?_
        refine own_iconst (pc' := 183) X150 hx (0 : Int32) (by decide) (hb hby at_182) rfl ?_
        refine own_istore (pc' := 185) X150 hx #[.val (.long p1), .second, .val (.int p2), .val (.int p3), .val (.int p4), .val (.int p5), .val (.long v1), .second, .val (.int v3), .val (.int v5), .val (.int v7), .val (.int v9), .val (.ref a11), .val (.int (0 : Int32)), .val (.int (0 : Int32)), .val (.long v1), .second, .val (.int (0 : Int32)), .val (.int (0 : Int32)), .val (.long v1), .second, .val (.long v1), .second, .val (.int (0 : Int32)), .val (.int (0 : Int32)), .unset, .unset, .unset, .unset] rfl (hb hby at_183) rfl ?_
        refine own_iload (pc' := 187) X150 hx rfl (hb hby at_185) rfl ?_
        refine own_ifYes (pc' := 199) X150 hx (hb hby at_187) (by decide) (by decide) (by decide) ?_
        refine own_lload (pc' := 201) X150 hx rfl (hb hby at_199) rfl ?_
        refine own_lstore (pc' := 203) X150 hx #[.val (.long p1), .second, .val (.int p2), .val (.int p3), .val (.int p4), .val (.int p5), .val (.long v1), .second, .val (.int v3), .val (.int v5), .val (.int v7), .val (.int v9), .val (.ref a11), .val (.int (0 : Int32)), .val (.int (0 : Int32)), .val (.long v1), .second, .val (.int (0 : Int32)), .val (.int (0 : Int32)), .val (.long v1), .second, .val (.long v1), .second, .val (.int (0 : Int32)), .val (.int (0 : Int32)), .val (.long v1), .second, .unset, .unset] rfl (hb hby at_201) rfl ?_
        refine own_aload (pc' := 205) X150 hx rfl rfl (hb hby at_203) rfl ?_
        refine own_iload (pc' := 207) X150 hx rfl (hb hby at_205) rfl ?_
        obtain ⟨cq170, kq170, q170a, q170b, q170c⟩ := isOf hZ rfl Ec150_a1
        obtain ⟨_, _, ⟨T170, L170, k170, n170⟩, -, X170, ⟨Lc170, hQ170, l170, y170, z170⟩, st170⟩ := X150.virtualBack hx (y := (⟨"com/example/rebalanced/rebalanced/server/RequestBudget", "tryReserve", "(I)Z"⟩ : MethodName)) (z := (⟨"com/example/rebalanced/rebalanced/server/RequestBudget", "tryReserve", "(I)Z"⟩ : MethodName)) hown (mvT hZ (hw _ (List.mem_of_getElem? (i := 13) rfl))) (mvT hZ (hw _ (List.mem_of_getElem? (i := 14) rfl))) (notFace_of_selects (args := #[]) (mvT hZ (hw _ (List.mem_of_getElem? (i := 16) rfl)))) (mvT hZ (hw _ (List.mem_of_getElem? (i := 16) rfl))) (mvT hZ (hw _ (List.mem_of_getElem? (i := 15) rfl))) (by decide) (backOf (W := 0) (rm3 l Z a0 hw [] a11 v9 v1 n5_150 T150.heap n0 Z151 Ec150_a1 Fc150_0 Fc150_1 fr11 (by omega) (by omega)) hZ (hw _ (List.mem_of_getElem? (i := 17) rfl)) (hw _ (List.mem_of_getElem? (i := 4) rfl)) (by decide) (by decide)) q170a q170c (g := (mkF m 207 #[.val (.long p1), .second, .val (.int p2), .val (.int p3), .val (.int p4), .val (.int p5), .val (.long v1), .second, .val (.int v3), .val (.int v5), .val (.int v7), .val (.int v9), .val (.ref a11), .val (.int (0 : Int32)), .val (.int (0 : Int32)), .val (.long v1), .second, .val (.int (0 : Int32)), .val (.int (0 : Int32)), .val (.long v1), .second, .val (.long v1), .second, .val (.int (0 : Int32)), .val (.int (0 : Int32)), .val (.long v1), .second, .unset, .unset] [(.int v9), (.ref a11)])) rfl (by rw [hml]; rfl) (Steps.refl _) (argsL := [(.int v9)]) (rest := []) (lenOf pd_1 rfl) rfl (by show 2 * 0 + _ ≤ _; exact Nat.le_of_eq rfl) (hb hby at_207) (fun _ _ => ⟨rfl, rfl, (by decide : 1 + 0 ≤ _), (by decide : 2 + 0 ≤ _)⟩)
        dsimp only [Pt.U, Pt.locs, Pt.cells, Pt.slots] at X170 l170 y170 z170 st170 hQ170
        subst l170 y170 z170
        obtain ⟨o170, n5_170, rfl, pp170, N170, Kc170, Ec170_a1, Fc170_0, Fc170_1⟩ := hQ170
        have Z171 : n0 ≤ T170.heap.size := Nat.le_trans Z151 Kc170.1
        have ro170 := rng32 o170
        have rn5_170 := rng64 n5_170
        have N170a := Fr.app N150a N170
        refine own_via st170 ?_
        show own_Go p e below (Q0 Z p1 p2 p3 p4 p5 h0 n0) (own_Fr s room_1.cells room_1.slots) (T170.setTop (mkF m 210 #[.val (.long p1), .second, .val (.int p2), .val (.int p3), .val (.int p4), .val (.int p5), .val (.long v1), .second, .val (.int v3), .val (.int v5), .val (.int v7), .val (.int v9), .val (.ref a11), .val (.int (0 : Int32)), .val (.int (0 : Int32)), .val (.long v1), .second, .val (.int (0 : Int32)), .val (.int (0 : Int32)), .val (.long v1), .second, .val (.long v1), .second, .val (.int (0 : Int32)), .val (.int (0 : Int32)), .val (.long v1), .second, .unset, .unset] [(.int o170)]))
        rcases pp170 with ⟨hr170, pp170⟩ | ⟨hr170, pp170⟩
        · obtain rfl : o170 = (1 : Int32) := Int32.toInt_inj.mp hr170
          refine own_istore (pc' := 212) X170 hx #[.val (.long p1), .second, .val (.int p2), .val (.int p3), .val (.int p4), .val (.int p5), .val (.long v1), .second, .val (.int v3), .val (.int v5), .val (.int v7), .val (.int v9), .val (.ref a11), .val (.int (0 : Int32)), .val (.int (0 : Int32)), .val (.long v1), .second, .val (.int (0 : Int32)), .val (.int (0 : Int32)), .val (.long v1), .second, .val (.long v1), .second, .val (.int (0 : Int32)), .val (.int (0 : Int32)), .val (.long v1), .second, .val (.int (1 : Int32)), .unset] rfl (hb hby at_210) rfl ?_
          refine own_iload (pc' := 214) X170 hx rfl (hb hby at_212) rfl ?_
          obtain ⟨v172, hv172⟩ : ∃ z, v9.toInt64 = z := ⟨_, rfl⟩
          have f173 : v172.toInt = v9.toInt := by rw [← hv172]; exact c_i2l v9
          refine own_i2l (pc' := 215) X170 hx (z := v172) hv172 (hb hby at_214) rfl ?_
          refine own_lload (pc' := 217) X170 hx rfl (hb hby at_215) rfl ?_
          refine own_lcmp (pc' := 218) X170 hx rfl (hb hby at_217) rfl ?_
          have b174 : ¬ v1.toInt < v172.toInt := by omega
          refine own_ifNo (pc' := 221) X170 hx (own_lno_gt rfl rfl b174) (hb hby at_218) rfl ?_
          refine own_iconst (pc' := 222) X170 hx (1 : Int32) (by decide) (hb hby at_221) rfl ?_
          refine own_goto (pc' := 226) X170 hx (hb hby at_222) (by decide) (by decide) ?_
          refine own_istore (pc' := 228) X170 hx #[.val (.long p1), .second, .val (.int p2), .val (.int p3), .val (.int p4), .val (.int p5), .val (.long v1), .second, .val (.int v3), .val (.int v5), .val (.int v7), .val (.int v9), .val (.ref a11), .val (.int (0 : Int32)), .val (.int (0 : Int32)), .val (.long v1), .second, .val (.int (0 : Int32)), .val (.int (0 : Int32)), .val (.long v1), .second, .val (.long v1), .second, .val (.int (0 : Int32)), .val (.int (0 : Int32)), .val (.long v1), .second, .val (.int (1 : Int32)), .val (.int (1 : Int32))] rfl (hb hby at_226) rfl ?_
          refine own_iload (pc' := 230) X170 hx rfl (hb hby at_228) rfl ?_
          refine own_iload (pc' := 232) X170 hx rfl (hb hby at_230) rfl ?_
          refine own_icmpNo (pc' := 235) X170 hx (by decide) (hb hby at_232) rfl ?_
          refine own_iload (pc' := 237) X170 hx rfl (hb hby at_235) rfl ?_
          refine own_iload (pc' := 239) X170 hx rfl (hb hby at_237) rfl ?_
          refine own_icmpNo (pc' := 242) X170 hx (by decide) (hb hby at_239) rfl ?_
          refine own_iload (pc' := 244) X170 hx rfl (hb hby at_242) rfl ?_
          refine own_iload (pc' := 246) X170 hx rfl (hb hby at_244) rfl ?_
          refine own_icmpNo (pc' := 249) X170 hx (by decide) (hb hby at_246) rfl ?_
          refine own_iload (pc' := 251) X170 hx rfl (hb hby at_249) rfl ?_
          refine own_iload (pc' := 253) X170 hx rfl (hb hby at_251) rfl ?_
          refine own_icmpNo (pc' := 256) X170 hx (by decide) (hb hby at_253) rfl ?_
          refine own_iconst (pc' := 257) X170 hx (1 : Int32) (by decide) (hb hby at_256) rfl ?_
          refine own_goto (pc' := 261) X170 hx (hb hby at_257) (by decide) (by decide) ?_
          refine own_ret X170 hx Bd.returns Bd.notSynchronized (Or.inl ⟨rfl, by simp, _, rfl⟩) (hb hby at_261) rfl (by decide) (by decide) ?_
          show Q0 Z p1 p2 p3 p4 p5 h0 n0 _ T170.heap _
          exact ⟨rfl, N170a⟩
        · obtain rfl : o170 = (0 : Int32) := Int32.toInt_inj.mp hr170
          refine own_istore (pc' := 212) X170 hx #[.val (.long p1), .second, .val (.int p2), .val (.int p3), .val (.int p4), .val (.int p5), .val (.long v1), .second, .val (.int v3), .val (.int v5), .val (.int v7), .val (.int v9), .val (.ref a11), .val (.int (0 : Int32)), .val (.int (0 : Int32)), .val (.long v1), .second, .val (.int (0 : Int32)), .val (.int (0 : Int32)), .val (.long v1), .second, .val (.long v1), .second, .val (.int (0 : Int32)), .val (.int (0 : Int32)), .val (.long v1), .second, .val (.int (0 : Int32)), .unset] rfl (hb hby at_210) rfl ?_
          refine own_iload (pc' := 214) X170 hx rfl (hb hby at_212) rfl ?_
          obtain ⟨v175, hv175⟩ : ∃ z, v9.toInt64 = z := ⟨_, rfl⟩
          have f176 : v175.toInt = v9.toInt := by rw [← hv175]; exact c_i2l v9
          refine own_i2l (pc' := 215) X170 hx (z := v175) hv175 (hb hby at_214) rfl ?_
          refine own_lload (pc' := 217) X170 hx rfl (hb hby at_215) rfl ?_
          refine own_lcmp (pc' := 218) X170 hx rfl (hb hby at_217) rfl ?_
          have b177 : v1.toInt < v175.toInt := by omega
          refine own_ifYes (pc' := 225) X170 hx (hb hby at_218) (own_lyes_gt rfl rfl b177) (by decide) (by decide) ?_
          refine own_iconst (pc' := 226) X170 hx (0 : Int32) (by decide) (hb hby at_225) rfl ?_
          refine own_istore (pc' := 228) X170 hx #[.val (.long p1), .second, .val (.int p2), .val (.int p3), .val (.int p4), .val (.int p5), .val (.long v1), .second, .val (.int v3), .val (.int v5), .val (.int v7), .val (.int v9), .val (.ref a11), .val (.int (0 : Int32)), .val (.int (0 : Int32)), .val (.long v1), .second, .val (.int (0 : Int32)), .val (.int (0 : Int32)), .val (.long v1), .second, .val (.long v1), .second, .val (.int (0 : Int32)), .val (.int (0 : Int32)), .val (.long v1), .second, .val (.int (0 : Int32)), .val (.int (0 : Int32))] rfl (hb hby at_226) rfl ?_
          refine own_iload (pc' := 230) X170 hx rfl (hb hby at_228) rfl ?_
          refine own_iload (pc' := 232) X170 hx rfl (hb hby at_230) rfl ?_
          refine own_icmpNo (pc' := 235) X170 hx (by decide) (hb hby at_232) rfl ?_
          refine own_iload (pc' := 237) X170 hx rfl (hb hby at_235) rfl ?_
          refine own_iload (pc' := 239) X170 hx rfl (hb hby at_237) rfl ?_
          refine own_icmpNo (pc' := 242) X170 hx (by decide) (hb hby at_239) rfl ?_
          refine own_iload (pc' := 244) X170 hx rfl (hb hby at_242) rfl ?_
          refine own_iload (pc' := 246) X170 hx rfl (hb hby at_244) rfl ?_
          refine own_icmpNo (pc' := 249) X170 hx (by decide) (hb hby at_246) rfl ?_
          refine own_iload (pc' := 251) X170 hx rfl (hb hby at_249) rfl ?_
          refine own_iload (pc' := 253) X170 hx rfl (hb hby at_251) rfl ?_
          refine own_icmpNo (pc' := 256) X170 hx (by decide) (hb hby at_253) rfl ?_
          refine own_iconst (pc' := 257) X170 hx (1 : Int32) (by decide) (hb hby at_256) rfl ?_
          refine own_goto (pc' := 261) X170 hx (hb hby at_257) (by decide) (by decide) ?_
          refine own_ret X170 hx Bd.returns Bd.notSynchronized (Or.inl ⟨rfl, by simp, _, rfl⟩) (hb hby at_261) rfl (by decide) (by decide) ?_
          show Q0 Z p1 p2 p3 p4 p5 h0 n0 _ T170.heap _
          exact ⟨rfl, N170a⟩
set_option maxRecDepth 65536 in
set_option maxHeartbeats 40000000 in
theorem comes_1 {Post : Tables → Env → Array Value → State → Outcome → State → Prop} (hpost : ∀ tb e args s v u, (limb_1_1.after args s (.returned v) u = true ∧ limb_1_2.after args s (.returned v) u = true ∧ True) → FrameEnd s (.returned v) u (Jvm.fieldLocs frame_1_writes args s ++ Jvm.arrayLocs frame_1_arrays args s ++ Jvm.staticLocs frame_1_statics s) 16 128 → Post tb e args s (.returned v) u) :
    ArmFor flags0 classFile x code maxLocals ret World_1 tables_1 room_1 Calls_1 rest_1 Pre_1 Post := by
  intro l hfl _ _ p e ha hc hk s m args below hf hA hF happ hP
  obtain ⟨hcalls, hrest, hpre⟩ := hP
  obtain ⟨-, -, -, hnamed, -, -, -, hat⟩ := (Spec.applies_iff hf).mp happ
  obtain ⟨hg, hn⟩ := and_e (Cond.before_iff.mp (show (Jvm.Cond.and given_1 narrow_1).before args s = true from hpre))
  obtain ⟨g0, gr0⟩ := and_e hg
  obtain ⟨g1, gr1⟩ := and_e gr0
  obtain ⟨g2, gr2⟩ := and_e gr1
  obtain ⟨g3, gr3⟩ := and_e gr2
  obtain ⟨g4, gr4⟩ := and_e gr3
  obtain ⟨w0, w1, w2, w3, w4, rfl⟩ : ∃ w0 w1 w2 w3 w4 : Value, args = #[w0, w1, w2, w3, w4] := by
    have hs : args.size = 5 := by simpa [Cond.value, given_1] using g0
    obtain ⟨L⟩ := args
    match L, hs with
    | [w0, w1, w2, w3, w4], _ => exact ⟨w0, w1, w2, w3, w4, rfl⟩
  have hw := fun d (hd : d ∈ tables_1) => atoms_spec (ws := Jvm.Cond.code x code maxLocals ret :: tables_1) hat d (List.mem_cons_of_mem _ hd)
  obtain ⟨i0, ev0⟩ := isL_v g1
  obtain rfl : w0 = (.long i0) := Option.some.inj ev0
  obtain ⟨i1, ev1⟩ := is_v g2
  obtain rfl : w1 = (.int i1) := Option.some.inj ev1
  obtain ⟨i2, ev2⟩ := is_v g3
  obtain rfl : w2 = (.int i2) := Option.some.inj ev2
  obtain ⟨i3, ev3⟩ := is_v g4
  obtain rfl : w3 = (.int i3) := Option.some.inj ev3
  obtain ⟨i4, ev4⟩ := is_v gr4
  obtain rfl : w4 = (.int i4) := Option.some.inj ev4
  obtain ⟨n, o, h1, h2, h3, _, L, rfl, ⟨rfl, N⟩, hq⟩ := rm0 l s _ hw tables_1 i0 i1 i2 i3 i4  s.heap s.heap.size (Nat.le_refl _)  p e ha hc hk s m _ below hf ((Spec.applies_iff_loose hf).mp happ).1 ⟨rfl, State.Warmed39.refl s, rfl⟩ trivial
  refine ⟨n, _, h1, h2, h3, hpost _ _ _ _ _ _ ⟨Cond.after_iff.mpr rfl, Cond.after_iff.mpr (eq_i res_at (Term.int_eval (1)) rfl), trivial⟩ ⟨hq.1, hq.2.1, (hq.2.2.sift fun y hy => Or.inr (N y hy)).mono (by decide) (by decide)⟩⟩
theorem main_1_1 : Claimed_1_1 := comes_1 fun _ _ _ _ _ _ h hF => ⟨h.1, hF⟩
theorem main_1_2 : Claimed_1_2 := comes_1 fun _ _ _ _ _ _ h hF => ⟨h.2.1, hF⟩
end Jvm.Pilot.@@N@@
namespace Jvm.Pilot.@@N@@
open Jvm Jvm.ClassFile Sem Op Lib Jvm.Free Jvm.Stand Jvm.Pilot.@@N@@.Jvm.D
/-! MADE BY PROGRAM (witnessworld.py) out of the Statement's table words and the real class files: 9 classes; the members and pool entries that the words name. The judged class is class 1, her method 1. -/
namespace start1
open Jvm.ClassFile
def u (s : String) : CpInfo := .utf8 (stringToUtf16 s)
/-- a pool by its gaps: so many unusable entries, then the entry; so many at the end -/
def gap : Nat → List CpInfo → List CpInfo
  | 0, r => r
  | n + 1, r => .unusable :: gap n r
def poolList (es : List (Nat × CpInfo)) (last : Nat) : List CpInfo := es.foldr (fun e r => gap e.1 (e.2 :: r)) (gap last [])
def pool (es : List (Nat × CpInfo)) (last : Nat) : Array CpInfo := ⟨poolList es last⟩
def fileOf (pool : Array CpInfo) (this : Nat) (attrs : Array Attribute := #[]) (ms : Array MethodInfo := #[]) (fl : Nat := 33) (sup : Nat := 0) (ifs : Array Nat := #[]) (fds : Array FieldInfo := #[]) : ClassFile where
  minorVersion := 0
  majorVersion := 65
  constantPool := pool
  accessFlags := fl
  thisClass := this
  superClass := sup
  interfaces := ifs
  fields := fds
  methods := ms
  attributes := attrs
def plain (name : String) (sup : Option ClassId) : Class where
  name := name
  kind := .ordinary
  loader := none
  accessFlags := 33
  super := sup
  interfaces := #[]
  cf := none
  fields := #[]
  methods := #[]
  instanceTypes := #[]
  staticTypes := #[]
  resolved := #[]
  callSites := []
  init := .initialized
  statics := none
  mirror := none

def pool0 : Array CpInfo := pool [(5, u "<init>"), (0, u "()V"), (1, .class_ 10), (1, u "java/lang/Object")] 113

def k0c0 : Code := { maxStack := 0, maxLocals := 1, code := object_method_1_code, exceptionTable := #[], attributes := #[] }
def k0m0 : Method := { name := "<init>", desc := "()V", sig := { parameters := [], returnType := none }, accessFlags := 1, code := some k0c0 }
/-- java/lang/Object -/
def k0 : Class := { plain "java/lang/Object" none with
  accessFlags := 33
  interfaces := #[]
  cf := some (fileOf pool0 8 #[] #[{ accessFlags := 1, nameIndex := 5, descriptorIndex := 6, attributes := #[] }] 33 0 #[] #[])
  fields := #[]
  methods := #[k0m0]
  instanceTypes := #[]
  staticTypes := #[]
  resolved := Array.replicate 124 none
  statics := none }

def pool1 : Array CpInfo := pool [(2, .class_ 4), (1, u "java/lang/Object"), (0, u "<init>"), (0, u "()V"), (0, .long 9223372036854775807), (1, .integer 2147483647), (0, .class_ 11), (0, u "com/example/rebalanced/rebalanced/server/RequestBudget"), (0, .methodref 10 13), (0, .nameAndType 5 14), (0, u "(J)V"), (0, .methodref 10 16), (0, .nameAndType 17 18), (0, u "tryReserve"), (0, u "(I)Z"), (0, .methodref 10 20), (0, .nameAndType 21 22), (0, u "release"), (0, u "(I)V"), (0, .class_ 24), (0, u "com/example/rebalanced/rebalanced/server/RequestBudgetTryReservePinLaw"), (2, u "law"), (0, u "(JIIII)Z")] 3

def k1m0 : Method := { name := "<init>", desc := "()V", sig := { parameters := [], returnType := none }, accessFlags := 2, code := none }
def k1c1 : Code := { maxStack := 4, maxLocals := 29, code := code, exceptionTable := #[], attributes := #[] }
def k1m1 : Method := { name := "law", desc := "(JIIII)Z", sig := { parameters := [.long, .int, .int, .int, .int], returnType := some .boolean }, accessFlags := 9, code := some k1c1 }
/-- com/example/rebalanced/rebalanced/server/RequestBudgetTryReservePinLaw -/
def k1 : Class := { plain "com/example/rebalanced/rebalanced/server/RequestBudgetTryReservePinLaw" (some 0) with
  accessFlags := 49
  interfaces := #[]
  cf := some (fileOf pool1 23 #[] #[{ accessFlags := 2, nameIndex := 5, descriptorIndex := 6, attributes := #[] }, { accessFlags := 9, nameIndex := 27, descriptorIndex := 28, attributes := #[] }] 49 2 #[] #[])
  fields := #[]
  methods := #[k1m0, k1m1]
  instanceTypes := #[]
  staticTypes := #[]
  resolved := Array.replicate 32 none
  statics := none }

def pool2 : Array CpInfo := pool [(1, .methodref 2 3), (0, .class_ 4), (0, .nameAndType 5 6), (0, u "java/lang/Object"), (0, u "<init>"), (0, u "()V"), (0, .fieldref 8 9), (0, .class_ 10), (0, .nameAndType 11 12), (0, u "com/example/rebalanced/rebalanced/server/RequestBudget"), (0, u "limitBytes"), (0, u "J"), (0, .fieldref 8 14), (0, .nameAndType 15 12), (0, u "reservedBytes"), (0, u "(J)V"), (2, u "tryReserve"), (0, u "(I)Z"), (1, u "release"), (0, u "(I)V")] 2

def k2c0 : Code := { maxStack := 3, maxLocals := 3, code := prog_42_method_1_code, exceptionTable := #[], attributes := #[] }
def k2m0 : Method := { name := "<init>", desc := "(J)V", sig := { parameters := [.long], returnType := none }, accessFlags := 0, code := some k2c0 }
def k2c1 : Code := { maxStack := 6, maxLocals := 2, code := prog_42_method_2_code, exceptionTable := #[], attributes := #[] }
def k2m1 : Method := { name := "tryReserve", desc := "(I)Z", sig := { parameters := [.int], returnType := some .boolean }, accessFlags := 0, code := some k2c1 }
def k2c2 : Code := { maxStack := 5, maxLocals := 2, code := prog_42_method_3_code, exceptionTable := #[], attributes := #[] }
def k2m2 : Method := { name := "release", desc := "(I)V", sig := { parameters := [.int], returnType := none }, accessFlags := 0, code := some k2c2 }
/-- com/example/rebalanced/rebalanced/server/RequestBudget -/
def k2 : Class := { plain "com/example/rebalanced/rebalanced/server/RequestBudget" (some 0) with
  accessFlags := 48
  interfaces := #[]
  cf := some (fileOf pool2 8 #[] #[{ accessFlags := 0, nameIndex := 5, descriptorIndex := 16, attributes := #[] }, { accessFlags := 0, nameIndex := 19, descriptorIndex := 20, attributes := #[] }, { accessFlags := 0, nameIndex := 22, descriptorIndex := 23, attributes := #[] }] 48 2 #[] #[{ accessFlags := 18, nameIndex := 11, descriptorIndex := 12, attributes := #[] }, { accessFlags := 2, nameIndex := 15, descriptorIndex := 12, attributes := #[] }])
  fields := #[{ name := "limitBytes", type := .long, accessFlags := 18, slot := 0, constantValue := 0 }, { name := "reservedBytes", type := .long, accessFlags := 2, slot := 1, constantValue := 0 }]
  methods := #[k2m0, k2m1, k2m2]
  instanceTypes := #[.long, .long]
  staticTypes := #[]
  resolved := Array.replicate 26 none
  statics := none }

def pool3 : Array CpInfo := pool [(1, u "java/lang/Cloneable"), (0, .class_ 1), (0, u "java/lang/Object"), (0, .class_ 3)] 3

/-- java/lang/Cloneable -/
def k3 : Class := { plain "java/lang/Cloneable" (some 0) with
  accessFlags := 1537
  interfaces := #[]
  cf := some (fileOf pool3 2 #[] #[] 1537 4 #[] #[])
  fields := #[]
  methods := #[]
  instanceTypes := #[]
  staticTypes := #[]
  resolved := Array.replicate 8 none
  statics := none }

def pool4 : Array CpInfo := pool [(1, u "java/io/Serializable"), (0, .class_ 1), (0, u "java/lang/Object"), (0, .class_ 3)] 3

/-- java/io/Serializable -/
def k4 : Class := { plain "java/io/Serializable" (some 0) with
  accessFlags := 1537
  interfaces := #[]
  cf := some (fileOf pool4 2 #[] #[] 1537 4 #[] #[])
  fields := #[]
  methods := #[]
  instanceTypes := #[]
  staticTypes := #[]
  resolved := Array.replicate 8 none
  statics := none }

/-- the primitive byte -/
def k5 : Class := { plain "byte" none with kind := .primitive 'B', accessFlags := 0x411 }
/-- [B -/
def k6 : Class := { plain "[B" (some 0) with kind := .array 5 .byte, interfaces := #[3, 4], accessFlags := 1041 }

/-- the primitive int -/
def k7 : Class := { plain "int" none with kind := .primitive 'I', accessFlags := 0x411 }
/-- [I -/
def k8 : Class := { plain "[I" (some 0) with kind := .array 7 .int, interfaces := #[3, 4], accessFlags := 1041 }

def heap : Heap := #[]
def classes : Array Class := #[k0, k1, k2, k3, k4, k5, k6, k7, k8]
def interned : List (Array UInt16 × Addr) := []
def slotsUsed : Nat := 0
def theMethod : MethodId := ⟨1, 1⟩
def args0 : Array Value := #[.long 5, .int 3, .int 2, .int 1, .int 4]
def aboutOver (below : List Frame) : State where
  vm := { classes := classes, interned := interned.toArray }
  heap := heap
  slotsUsed := slotsUsed
  threads := #[{ frames := .invoking theMethod args0 :: below }]
def below0 : List Frame := [.native { method := ⟨0, 0⟩, args := #[] }]
def about1 : State := aboutOver below0
def p0 : Program := .bare "" "" ""
def e0 : Env := launch0.env 0 0 0
theorem w_frames : about1.frames = Frame.invoking theMethod args0 :: below0 := rfl
set_option maxRecDepth 65536 in
theorem w_args : argsFit about1.vm theMethod args0 = true := by decide +kernel
set_option maxRecDepth 65536 in
theorem w_heap : heapFits about1 = true := by decide +kernel
set_option maxRecDepth 65536 in
theorem w_runnable : about1.curStatus? = some .runnable := by decide +kernel
set_option maxRecDepth 65536 in
theorem w_alone : about1.alone = true := by decide +kernel
set_option maxRecDepth 65536 in
theorem w_named : about1.methodNamed? x = some theMethod := by decide +kernel
set_option maxRecDepth 65536 in
theorem w_hears : about1.hears theMethod below0 = true := by decide +kernel
set_option maxRecDepth 65536 in
theorem w_ripe : about1.ripe theMethod args0 below0 = true := by decide +kernel
theorem w_running : about1.status = .running := rfl
set_option maxRecDepth 65536 in
theorem w_room : about1.hasRoom e0.platform room_1 = true :=
  launch0.hasRoom_least _ room_1 (by decide +kernel) (by decide +kernel) (by decide +kernel) (by decide +kernel) (by decide +kernel) (by decide +kernel)
theorem allAtoms_all (ts : List Jvm.Cond) (a : Array Jvm.Value) (st : Jvm.State) : (allAtoms ts).before a st = ts.all (fun c => c.before a st) := by
  induction ts with
  | nil => rfl
  | cons c t ih =>
    show (Jvm.Cond.and c (allAtoms t)).before a st = _
    rw [Jvm.Cond.before_and, ih, List.all_cons]
def words1 : List Jvm.Cond := Jvm.Cond.code x code maxLocals ret :: tables_1
/-- a 'code' word, met by the world's own term for the bytes: nothing is compared byte by byte -/
theorem code_word {y : MethodName} {bytes : ByteArray} {mx : Nat} {rt : Option FieldType} {a : Array Value} {s : State} {m : MethodId} {meth : Method} {c : Code} (h1 : s.methodNamed? y = some m) (h2 : s.vm.method? m = some meth) (h3 : meth.code = some c) (h4 : c.code = bytes)
    (h5 : (c.maxLocals == mx && c.exceptionTable.isEmpty && decide (c.maxStack ≤ mostOperands) && decide (meth.sig.returnType = rt) && !meth.locks && decide (parseMethodDescriptor y.desc = some meth.sig)) = true) : (Jvm.Cond.code y bytes mx rt).before a s = true := by
  simp only [Bool.and_eq_true, beq_iff_eq, Bool.not_eq_true', decide_eq_true_eq] at h5
  obtain ⟨⟨⟨⟨⟨g1, g2⟩, g3⟩, g4⟩, g5⟩, g6⟩ := h5
  simp [Cond.before, Cond.holds, Cond.value, h1, h2, h3, h4, g1, g2, g3, g4, g5, g6]
def isCode : Jvm.Cond → Bool
  | .code _ _ _ _ => true
  | _ => false
theorem all_split {L : List Jvm.Cond} {P : Jvm.Cond → Bool} (h1 : L.all (fun c => isCode c || P c) = true) (h2 : ∀ c ∈ L.filter isCode, P c = true) : L.all P = true := by
  refine List.all_eq_true.mpr fun c hc => ?_
  have h := List.all_eq_true.mp h1 c hc
  rcases Bool.eq_false_or_eq_true (isCode c) with hi | hi
  · exact h2 c (List.mem_filter.mpr ⟨hc, hi⟩)
  · simpa [hi] using h
set_option maxRecDepth 65536 in
theorem w_c0 : (Jvm.Cond.code x code maxLocals ret).before args0 about1 = true := code_word (m := ⟨1, 1⟩) (meth := k1m1) (c := k1c1) (by decide +kernel) rfl rfl rfl (by decide +kernel)
set_option maxRecDepth 65536 in
theorem w_c1 : (Jvm.Cond.code ({ cls := "com/example/rebalanced/rebalanced/server/RequestBudget", name := "<init>", desc := "(J)V" } : Jvm.MethodName) prog_42_method_1_code (3 : Nat) (Option.none : Option Jvm.ClassFile.FieldType)).before args0 about1 = true := code_word (m := ⟨2, 0⟩) (meth := k2m0) (c := k2c0) (by decide +kernel) rfl rfl rfl (by decide +kernel)
set_option maxRecDepth 65536 in
theorem w_c2 : (Jvm.Cond.code ({ cls := "java/lang/Object", name := "<init>", desc := "()V" } : Jvm.MethodName) object_method_1_code (1 : Nat) (Option.none : Option Jvm.ClassFile.FieldType)).before args0 about1 = true := code_word (m := ⟨0, 0⟩) (meth := k0m0) (c := k0c0) (by decide +kernel) rfl rfl rfl (by decide +kernel)
set_option maxRecDepth 65536 in
theorem w_c3 : (Jvm.Cond.code ({ cls := "com/example/rebalanced/rebalanced/server/RequestBudget", name := "tryReserve", desc := "(I)Z" } : Jvm.MethodName) prog_42_method_2_code (2 : Nat) (Option.some Jvm.ClassFile.FieldType.boolean)).before args0 about1 = true := code_word (m := ⟨2, 1⟩) (meth := k2m1) (c := k2c1) (by decide +kernel) rfl rfl rfl (by decide +kernel)
set_option maxRecDepth 65536 in
theorem w_c4 : (Jvm.Cond.code ({ cls := "com/example/rebalanced/rebalanced/server/RequestBudget", name := "release", desc := "(I)V" } : Jvm.MethodName) prog_42_method_3_code (2 : Nat) (Option.none : Option Jvm.ClassFile.FieldType)).before args0 about1 = true := code_word (m := ⟨2, 2⟩) (meth := k2m2) (c := k2c2) (by decide +kernel) rfl rfl rfl (by decide +kernel)
def codes1 : List Jvm.Cond := [Jvm.Cond.code x code maxLocals ret, Jvm.Cond.code ({ cls := "com/example/rebalanced/rebalanced/server/RequestBudget", name := "<init>", desc := "(J)V" } : Jvm.MethodName) prog_42_method_1_code (3 : Nat) (Option.none : Option Jvm.ClassFile.FieldType), Jvm.Cond.code ({ cls := "java/lang/Object", name := "<init>", desc := "()V" } : Jvm.MethodName) object_method_1_code (1 : Nat) (Option.none : Option Jvm.ClassFile.FieldType), Jvm.Cond.code ({ cls := "com/example/rebalanced/rebalanced/server/RequestBudget", name := "tryReserve", desc := "(I)Z" } : Jvm.MethodName) prog_42_method_2_code (2 : Nat) (Option.some Jvm.ClassFile.FieldType.boolean), Jvm.Cond.code ({ cls := "com/example/rebalanced/rebalanced/server/RequestBudget", name := "release", desc := "(I)V" } : Jvm.MethodName) prog_42_method_3_code (2 : Nat) (Option.none : Option Jvm.ClassFile.FieldType)]
set_option maxRecDepth 65536 in
theorem codes_eq : words1.filter isCode = codes1 := rfl
theorem w_codes : ∀ c ∈ words1.filter isCode, c.before args0 about1 = true := by
  rw [codes_eq]
  intro c hc
  simp only [codes1, List.mem_cons, List.not_mem_nil, or_false] at hc
  rcases hc with rfl | rfl | rfl | rfl | rfl
  · exact w_c0
  · exact w_c1
  · exact w_c2
  · exact w_c3
  · exact w_c4
set_option maxRecDepth 65536 in
theorem w_t1 : (words1.take 24).all (fun c => isCode c || c.before args0 about1) = true := by decide +kernel
set_option maxRecDepth 65536 in
theorem w_t2 : (words1.drop 24).all (fun c => isCode c || c.before args0 about1) = true := by decide +kernel
theorem w_tables : (allAtoms (Jvm.Cond.code x code maxLocals ret :: tables_1)).before args0 about1 = true := by
  rw [allAtoms_all]
  show words1.all (fun c => c.before args0 about1) = true
  refine all_split ?_ w_codes
  rw [← List.take_append_drop 24 words1, List.all_append, w_t1, w_t2]
  rfl
set_option maxRecDepth 65536 in
theorem w_case : (Jvm.Cond.and given_1 narrow_1).before args0 about1 = true := by decide +kernel
theorem w_applies : (headSpec (Jvm.Cond.code x code maxLocals ret :: tables_1) room_1).applies x e0.platform about1 = true :=
  (Spec.applies_iff w_frames).mpr ⟨w_running, w_runnable, w_alone, w_named, w_hears, w_ripe, w_room, w_tables⟩
theorem atStart : AtStart classFile x code maxLocals ret World_1 tables_1 room_1 Calls_1 rest_1 Pre_1 launch0 p0 e0 about1 theMethod args0 below0 :=
  ⟨lists_1, trivial, launch0.admits_env _ _ _, launch0.least_env, fairChoices_fair.cas, fairChoices_fair.clock, w_frames, w_args, w_heap, w_applies, trivial, trivial, w_case⟩
end start1
theorem witness_1 : WitnessClaimed_1 := ⟨start1.p0, start1.e0, start1.about1, start1.theMethod, start1.args0, start1.below0, start1.atStart⟩
end Jvm.Pilot.@@N@@
