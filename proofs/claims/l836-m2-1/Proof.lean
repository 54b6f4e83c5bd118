import JvmDerived
import JvmDerived.Pilot.@@N@@Statement
import JvmDerived.Pilot.@@N@@Code
set_option linter.unusedVariables false
set_option linter.unusedSimpArgs false
namespace Jvm.Pilot.@@N@@
open Jvm Jvm.ClassFile Sem Op Lib Jvm.Free Jvm.Stand Jvm.LawKit Jvm.RoadKit Bundle Jvm.Pilot.@@N@@.Jvm.D
section OwnKit
variable {p : Program} {l : Launch} {e : Env} {R : Room} {s : State} {m : MethodId} {args : Array Value} {below : List Frame} {meth : Method} {c : Code} {T : State} {locs : List Loc} {cells slots : Nat}
/-- from U the walk comes to its end, and there Q holds -/
def own_Go (p : Program) (e : Env) (below : List Frame) (Q : Option Value → Heap → List Loc → Prop) (F : List Loc → Outcome → State → Prop) (U : State) : Prop :=
  ∃ t o, Steps p.tables e below U t ∧ t.status = .running ∧ Ended t below o ∧ ∃ v L, o = .returned v ∧ Q v t.heap L ∧ F L o t
def own_Fr (s : State) (C S : Nat) (L : List Loc) (o : Outcome) (t : State) : Prop := FrameEnd s o t L C S
def own_FrW (s : State) (C S : Nat) (L : List Loc) (o : Outcome) (t : State) : Prop := ReturnedEndW s o t L C S
variable {Q : Option Value → Heap → List Loc → Prop} {F : List Loc → Outcome → State → Prop} {C S : Nat}
theorem own_by {U U' : State} (k : ∀ t, Steps p.tables e below U' t → Steps p.tables e below U t) (h : own_Go p e below Q F U') : own_Go p e below Q F U := by
  obtain ⟨t, o, h1, h2⟩ := h
  exact ⟨t, o, k t h1, h2⟩
theorem own_via {U U' : State} (k : Steps p.tables e below U U') (h : own_Go p e below Q F U') : own_Go p e below Q F U := own_by (fun _ q => k.trans q) h
theorem own_ret (X : Stand p l e R s m args below meth c T locs cells slots) (hx : p.tables.exec = Jvm.exec) {pc : Nat} {Ls : Array Slot} {w : Value} {t : FieldType} {i : Instr} {rest : List Value} (hret : meth.sig.returnType = some t) (hlocks : meth.locks = false)
    (hi : (i = .ireturn ∧ (t = .int ∨ t = .boolean ∨ t = .byte ∨ t = .char ∨ t = .short) ∧ ∃ z, w = .int z) ∨ (i = .lreturn ∧ t = .long ∧ ∃ z, w = .long z) ∨ (i = .dreturn ∧ t = .double ∧ ∃ z, w = .double z) ∨ (i = .freturn ∧ t = .float ∧ ∃ z, w = .float z) ∨ (i = .areturn ∧ t.isReference = true ∧ w.isRef = true))
    (hd : decode c.code pc = .ok (i, 1)) (hn : narrow t w = w) (hc : cells ≤ C) (hs : slots ≤ S) (hQ : Q (some w) T.heap locs) : own_Go p e below Q (own_Fr s C S) (T.setTop (mkF m pc Ls (w :: rest))) := by
  obtain ⟨fs, hr, hrun, hended, hW, hsame⟩ := X.leave (v := some w) (fun h => by rw [hret] at h; cases h) hlocks
  exact ⟨_, _, retOut X hx hret hn hi hd hr, hrun, hended, _, _, rfl, hQ, ⟨_, rfl⟩, hW, hsame.mono hc hs⟩
theorem own_ret0 (X : Stand p l e R s m args below meth c T locs cells slots) (hx : p.tables.exec = Jvm.exec) {pc : Nat} {Ls : Array Slot} {st : List Value} (hret : meth.sig.returnType = none) (hlocks : meth.locks = false)
    (hd : decode c.code pc = .ok (.return_, 1)) (hst : st = []) (hc : cells ≤ C) (hs : slots ≤ S) (hQ : Q none T.heap locs) : own_Go p e below Q (own_Fr s C S) (T.setTop (mkF m pc Ls st)) := by
  subst hst
  obtain ⟨fs, hr, hrun, hended, hW, hsame⟩ := X.leave (v := none) (fun _ => rfl) hlocks
  exact ⟨_, _, X.returnOut hx hret hd hr, hrun, hended, _, _, rfl, hQ, ⟨_, rfl⟩, hW, hsame.mono hc hs⟩
theorem own_retW {s : State} {vm₁ : Vm} {nn : Nat} (X : Stand p l e R (s.setVm vm₁) m args below meth c T locs cells slots) (hx : p.tables.exec = Jvm.exec) {pc : Nat} {Ls : Array Slot} {w : Value} {t : FieldType} {i : Instr} {rest : List Value} (hret : meth.sig.returnType = some t) (hlocks : meth.locks = false) (hS : s.Since vm₁ nn) (hk : nn ≤ T.heap.size)
    (hi : (i = .ireturn ∧ (t = .int ∨ t = .boolean ∨ t = .byte ∨ t = .char ∨ t = .short) ∧ ∃ z, w = .int z) ∨ (i = .lreturn ∧ t = .long ∧ ∃ z, w = .long z) ∨ (i = .dreturn ∧ t = .double ∧ ∃ z, w = .double z) ∨ (i = .freturn ∧ t = .float ∧ ∃ z, w = .float z) ∨ (i = .areturn ∧ t.isReference = true ∧ w.isRef = true))
    (hd : decode c.code pc = .ok (i, 1)) (hn : narrow t w = w) (hc : cells ≤ C) (hs : slots ≤ S) (hQ : Q (some w) T.heap locs) : own_Go p e below Q (own_FrW s C S) (T.setTop (mkF m pc Ls (w :: rest))) := by
  obtain ⟨fs, hr, hrun, hended, hW⟩ := X.leaveW hS hk (v := some w) (fun h => by rw [hret] at h; cases h) hlocks
  exact ⟨_, _, retOut X hx hret hn hi hd hr, hrun, hended, _, _, rfl, hQ, hW.1, hW.2.1, hW.2.2.1, hW.2.2.2.mono hc hs⟩
theorem own_nz {z : Int32} (h : z.toInt = 0 ∨ z.toInt = 1) : narrow .boolean (.int z) = .int z := by
  rcases h with h | h
  · obtain rfl : z = 0 := Int32.toInt_inj.mp h
    rfl
  · obtain rfl : z = 1 := Int32.toInt_inj.mp h
    rfl
theorem own_nb {z : Int32} (h : -128 ≤ z.toInt ∧ z.toInt < 128) : nar .byte z = z := by
  have q := c_i2b z
  exact Int32.toInt_inj.mp (by show z.toInt8.toInt32.toInt = z.toInt; omega)
theorem own_fb {z : Int32} (h : -128 ≤ z.toInt ∧ z.toInt < 128) : fits .byte (.int z) = true := by
  have q := fits_nar_byte z
  rw [show z.toInt8.toInt32 = z from own_nb h] at q
  exact q
theorem own_b01 {z : Int32} (h : z.toInt = 0 ∨ z.toInt = 1) : z = 0 ∨ z = 1 := h.imp (fun q => Int32.toInt_inj.mp q) (fun q => Int32.toInt_inj.mp q)
theorem own_nbool {z : Int32} (h : z.toInt = 0 ∨ z.toInt = 1) : nar .boolean z = z := by rcases own_b01 h with rfl | rfl <;> decide
theorem own_fbool {z : Int32} (h : z.toInt = 0 ∨ z.toInt = 1) : fits .boolean (.int z) = true := by rcases own_b01 h with rfl | rfl <;> decide
theorem own_lt {x y : Int32} : x.toInt < y.toInt ↔ x < y := Int32.lt_iff_toInt_lt.symm
theorem own_yes_lt {x y : Int32} {a b : Int} (ha : x.toInt = a) (hb : y.toInt = b) (h : a < b) : if_icmp.holds .lt x y = true := by subst ha hb; exact (tlt (own_lt.mp h)).1
theorem own_no_lt {x y : Int32} {a b : Int} (ha : x.toInt = a) (hb : y.toInt = b) (h : ¬ a < b) : if_icmp.holds .lt x y = false := by subst ha hb; exact (flt (fun q => h (own_lt.mpr q))).1
theorem own_yes_ge {x y : Int32} {a b : Int} (ha : x.toInt = a) (hb : y.toInt = b) (h : ¬ a < b) : if_icmp.holds .ge x y = true := by subst ha hb; exact (flt (fun q => h (own_lt.mpr q))).2.1
theorem own_no_ge {x y : Int32} {a b : Int} (ha : x.toInt = a) (hb : y.toInt = b) (h : a < b) : if_icmp.holds .ge x y = false := by subst ha hb; exact (tlt (own_lt.mp h)).2.1
theorem own_yes_gt {x y : Int32} {a b : Int} (ha : x.toInt = a) (hb : y.toInt = b) (h : b < a) : if_icmp.holds .gt x y = true := by subst ha hb; exact (tlt (own_lt.mp h)).2.2.1
theorem own_no_gt {x y : Int32} {a b : Int} (ha : x.toInt = a) (hb : y.toInt = b) (h : ¬ b < a) : if_icmp.holds .gt x y = false := by subst ha hb; exact (flt (fun q => h (own_lt.mpr q))).2.2.1
theorem own_yes_le {x y : Int32} {a b : Int} (ha : x.toInt = a) (hb : y.toInt = b) (h : ¬ b < a) : if_icmp.holds .le x y = true := by subst ha hb; exact (flt (fun q => h (own_lt.mpr q))).2.2.2
theorem own_no_le {x y : Int32} {a b : Int} (ha : x.toInt = a) (hb : y.toInt = b) (h : b < a) : if_icmp.holds .le x y = false := by subst ha hb; exact (tlt (own_lt.mp h)).2.2.2
theorem own_yes_eq {x y : Int32} {a b : Int} (ha : x.toInt = a) (hb : y.toInt = b) (h : a = b) : if_icmp.holds .eq x y = true := by subst ha hb; exact (teq (Int32.toInt_inj.mp h)).1
theorem own_no_eq {x y : Int32} {a b : Int} (ha : x.toInt = a) (hb : y.toInt = b) (h : ¬ a = b) : if_icmp.holds .eq x y = false := by subst ha hb; exact (feq (fun q => h (congrArg Int32.toInt q))).1
theorem own_yes_ne {x y : Int32} {a b : Int} (ha : x.toInt = a) (hb : y.toInt = b) (h : ¬ a = b) : if_icmp.holds .ne x y = true := by subst ha hb; exact (feq (fun q => h (congrArg Int32.toInt q))).2
theorem own_no_ne {x y : Int32} {a b : Int} (ha : x.toInt = a) (hb : y.toInt = b) (h : a = b) : if_icmp.holds .ne x y = false := by subst ha hb; exact (teq (Int32.toInt_inj.mp h)).2
theorem own_z {cd : ClassFile.Cond} {x : Int32} {b : Bool} (h : if_icmp.holds cd x 0 = b) : ifCond.holds cd x = b := (if0 cd x).trans h
theorem own_lcm {x y : Int64} {a b : Int} (ha : x.toInt = a) (hb : y.toInt = b) : (a < b ∧ (lcmpW x y).toInt = -1) ∨ (a = b ∧ (lcmpW x y).toInt = 0) ∨ (b < a ∧ (lcmpW x y).toInt = 1) := by
  subst ha hb
  obtain ⟨h1, h2, h3⟩ := c_lcmp x y
  omega
theorem own_ne0 {x : Int32} {a : Int} (ha : x.toInt = a) (h : ¬ a = 0) : x ≠ 0 := fun q => h (by rw [← ha, q]; rfl)
theorem own_iloadN (X : Stand p l e R s m args below meth c T locs cells slots) (hx : p.tables.exec = Jvm.exec) {pc pc' : Nat} {Ls : Array Slot} {st : List Value} {k : Fin 4} {v : Int32} (hl : Ls[k.val]? = some (.val (.int v))) (hd : decode c.code pc = .ok (.iload_n k, 1)) (hp : pc + 1 = pc') (h : own_Go p e below Q F (T.setTop (mkF m pc' Ls (.int v :: st)))) : own_Go p e below Q F (T.setTop (mkF m pc Ls st)) := by
  subst hp
  exact own_by (fun _ q => XS.iloadN X.here hx rfl hd hl q) h
theorem own_iload (X : Stand p l e R s m args below meth c T locs cells slots) (hx : p.tables.exec = Jvm.exec) {pc pc' : Nat} {Ls : Array Slot} {st : List Value} {k : Nat} {v : Int32} (hl : Ls[k]? = some (.val (.int v))) (hd : decode c.code pc = .ok (.iload k, 2)) (hp : pc + 2 = pc') (h : own_Go p e below Q F (T.setTop (mkF m pc' Ls (.int v :: st)))) : own_Go p e below Q F (T.setTop (mkF m pc Ls st)) := by
  subst hp
  exact own_by (fun _ q => XS.iload X.here hx rfl hd hl q) h
theorem own_lloadN (X : Stand p l e R s m args below meth c T locs cells slots) (hx : p.tables.exec = Jvm.exec) {pc pc' : Nat} {Ls : Array Slot} {st : List Value} {k : Fin 4} {v : Int64} (hl : Ls[k.val]? = some (.val (.long v))) (hd : decode c.code pc = .ok (.lload_n k, 1)) (hp : pc + 1 = pc') (h : own_Go p e below Q F (T.setTop (mkF m pc' Ls (.long v :: st)))) : own_Go p e below Q F (T.setTop (mkF m pc Ls st)) := by
  subst hp
  exact own_by (fun _ q => XS.lloadN X.here hx rfl hd hl q) h
theorem own_lload (X : Stand p l e R s m args below meth c T locs cells slots) (hx : p.tables.exec = Jvm.exec) {pc pc' : Nat} {Ls : Array Slot} {st : List Value} {k : Nat} {v : Int64} (hl : Ls[k]? = some (.val (.long v))) (hd : decode c.code pc = .ok (.lload k, 2)) (hp : pc + 2 = pc') (h : own_Go p e below Q F (T.setTop (mkF m pc' Ls (.long v :: st)))) : own_Go p e below Q F (T.setTop (mkF m pc Ls st)) := by
  subst hp
  exact own_by (fun _ q => XS.lload X.here hx rfl hd hl q) h
theorem own_aloadN (X : Stand p l e R s m args below meth c T locs cells slots) (hx : p.tables.exec = Jvm.exec) {pc pc' : Nat} {Ls : Array Slot} {st : List Value} {k : Fin 4} {v : Value} (hl : Ls[k.val]? = some (.val v)) (hv : v.isRef = true) (hd : decode c.code pc = .ok (.aload_n k, 1)) (hp : pc + 1 = pc') (h : own_Go p e below Q F (T.setTop (mkF m pc' Ls (v :: st)))) : own_Go p e below Q F (T.setTop (mkF m pc Ls st)) := by
  subst hp
  exact own_by (fun _ q => XS.aloadN X.here hx rfl hd hl hv q) h
theorem own_aload (X : Stand p l e R s m args below meth c T locs cells slots) (hx : p.tables.exec = Jvm.exec) {pc pc' : Nat} {Ls : Array Slot} {st : List Value} {k : Nat} {v : Value} (hl : Ls[k]? = some (.val v)) (hv : v.isRef = true) (hd : decode c.code pc = .ok (.aload k, 2)) (hp : pc + 2 = pc') (h : own_Go p e below Q F (T.setTop (mkF m pc' Ls (v :: st)))) : own_Go p e below Q F (T.setTop (mkF m pc Ls st)) := by
  subst hp
  exact own_by (fun _ q => XS.aload X.here hx rfl hd hl hv q) h
theorem own_iconst (X : Stand p l e R s m args below meth c T locs cells slots) (hx : p.tables.exec = Jvm.exec) {pc pc' : Nat} {Ls : Array Slot} {st : List Value} {i : Int} (z : Int32) (hz : Int32.ofInt i = z) (hd : decode c.code pc = .ok (.iconst i, 1)) (hp : pc + 1 = pc') (h : own_Go p e below Q F (T.setTop (mkF m pc' Ls (.int z :: st)))) : own_Go p e below Q F (T.setTop (mkF m pc Ls st)) := by
  subst hp hz
  exact own_by (fun _ q => XS.iconst X.here hx rfl hd q) h
theorem own_bipush (X : Stand p l e R s m args below meth c T locs cells slots) (hx : p.tables.exec = Jvm.exec) {pc pc' : Nat} {Ls : Array Slot} {st : List Value} {i : Int} (z : Int32) (hz : (Int8.ofInt i).toInt32 = z) (hd : decode c.code pc = .ok (.bipush i, 2)) (hp : pc + 2 = pc') (h : own_Go p e below Q F (T.setTop (mkF m pc' Ls (.int z :: st)))) : own_Go p e below Q F (T.setTop (mkF m pc Ls st)) := by
  subst hp hz
  exact own_by (fun _ q => XS.bipush X.here hx rfl hd q) h
theorem own_sipush (X : Stand p l e R s m args below meth c T locs cells slots) (hx : p.tables.exec = Jvm.exec) {pc pc' : Nat} {Ls : Array Slot} {st : List Value} {i : Int} (z : Int32) (hz : (Int16.ofInt i).toInt32 = z) (hd : decode c.code pc = .ok (.sipush i, 3)) (hp : pc + 3 = pc') (h : own_Go p e below Q F (T.setTop (mkF m pc' Ls (.int z :: st)))) : own_Go p e below Q F (T.setTop (mkF m pc Ls st)) := by
  subst hp hz
  exact own_by (fun _ q => XS.sipush X.here hx rfl hd q) h
theorem own_lconst (X : Stand p l e R s m args below meth c T locs cells slots) (hx : p.tables.exec = Jvm.exec) {pc pc' : Nat} {Ls : Array Slot} {st : List Value} {k : Fin 2} (z : Int64) (hz : Int64.ofNat k = z) (hd : decode c.code pc = .ok (.lconst k, 1)) (hp : pc + 1 = pc') (h : own_Go p e below Q F (T.setTop (mkF m pc' Ls (.long z :: st)))) : own_Go p e below Q F (T.setTop (mkF m pc Ls st)) := by
  subst hp hz
  exact own_by (fun _ q => XS.lconst X.here hx rfl hd q) h
theorem own_aconstNull (X : Stand p l e R s m args below meth c T locs cells slots) (hx : p.tables.exec = Jvm.exec) {pc pc' : Nat} {Ls : Array Slot} {st : List Value}  (hd : decode c.code pc = .ok (.aconst_null, 1)) (hp : pc + 1 = pc') (h : own_Go p e below Q F (T.setTop (mkF m pc' Ls (.null :: st)))) : own_Go p e below Q F (T.setTop (mkF m pc Ls st)) := by
  subst hp
  exact own_by (fun _ q => XS.aconstNull X.here hx rfl hd q) h
theorem own_iadd (X : Stand p l e R s m args below meth c T locs cells slots) (hx : p.tables.exec = Jvm.exec) {pc pc' : Nat} {Ls : Array Slot} {st : List Value} {x y z : Int32} (hz : x + y = z) (hd : decode c.code pc = .ok (.iadd, 1)) (hp : pc + 1 = pc') (h : own_Go p e below Q F (T.setTop (mkF m pc' Ls (.int z :: st)))) : own_Go p e below Q F (T.setTop (mkF m pc Ls (.int y :: .int x :: st))) := by
  subst hp hz
  exact own_by (fun _ q => XS.iadd X.here hx rfl hd rfl q) h
theorem own_isub (X : Stand p l e R s m args below meth c T locs cells slots) (hx : p.tables.exec = Jvm.exec) {pc pc' : Nat} {Ls : Array Slot} {st : List Value} {x y z : Int32} (hz : x - y = z) (hd : decode c.code pc = .ok (.isub, 1)) (hp : pc + 1 = pc') (h : own_Go p e below Q F (T.setTop (mkF m pc' Ls (.int z :: st)))) : own_Go p e below Q F (T.setTop (mkF m pc Ls (.int y :: .int x :: st))) := by
  subst hp hz
  exact own_by (fun _ q => XS.isub X.here hx rfl hd rfl q) h
theorem own_imul (X : Stand p l e R s m args below meth c T locs cells slots) (hx : p.tables.exec = Jvm.exec) {pc pc' : Nat} {Ls : Array Slot} {st : List Value} {x y z : Int32} (hz : x * y = z) (hd : decode c.code pc = .ok (.imul, 1)) (hp : pc + 1 = pc') (h : own_Go p e below Q F (T.setTop (mkF m pc' Ls (.int z :: st)))) : own_Go p e below Q F (T.setTop (mkF m pc Ls (.int y :: .int x :: st))) := by
  subst hp hz
  exact own_by (fun _ q => XS.imul X.here hx rfl hd rfl q) h
theorem own_iand (X : Stand p l e R s m args below meth c T locs cells slots) (hx : p.tables.exec = Jvm.exec) {pc pc' : Nat} {Ls : Array Slot} {st : List Value} {x y z : Int32} (hz : x &&& y = z) (hd : decode c.code pc = .ok (.iand, 1)) (hp : pc + 1 = pc') (h : own_Go p e below Q F (T.setTop (mkF m pc' Ls (.int z :: st)))) : own_Go p e below Q F (T.setTop (mkF m pc Ls (.int y :: .int x :: st))) := by
  subst hp hz
  exact own_by (fun _ q => XS.iand X.here hx rfl hd rfl q) h
theorem own_ior (X : Stand p l e R s m args below meth c T locs cells slots) (hx : p.tables.exec = Jvm.exec) {pc pc' : Nat} {Ls : Array Slot} {st : List Value} {x y z : Int32} (hz : x ||| y = z) (hd : decode c.code pc = .ok (.ior, 1)) (hp : pc + 1 = pc') (h : own_Go p e below Q F (T.setTop (mkF m pc' Ls (.int z :: st)))) : own_Go p e below Q F (T.setTop (mkF m pc Ls (.int y :: .int x :: st))) := by
  subst hp hz
  exact own_by (fun _ q => XS.ior X.here hx rfl hd rfl q) h
theorem own_ixor (X : Stand p l e R s m args below meth c T locs cells slots) (hx : p.tables.exec = Jvm.exec) {pc pc' : Nat} {Ls : Array Slot} {st : List Value} {x y z : Int32} (hz : x ^^^ y = z) (hd : decode c.code pc = .ok (.ixor, 1)) (hp : pc + 1 = pc') (h : own_Go p e below Q F (T.setTop (mkF m pc' Ls (.int z :: st)))) : own_Go p e below Q F (T.setTop (mkF m pc Ls (.int y :: .int x :: st))) := by
  subst hp hz
  exact own_by (fun _ q => XS.ixor X.here hx rfl hd rfl q) h
theorem own_ishl (X : Stand p l e R s m args below meth c T locs cells slots) (hx : p.tables.exec = Jvm.exec) {pc pc' : Nat} {Ls : Array Slot} {st : List Value} {x y z : Int32} (hz : x <<< (y &&& 31) = z) (hd : decode c.code pc = .ok (.ishl, 1)) (hp : pc + 1 = pc') (h : own_Go p e below Q F (T.setTop (mkF m pc' Ls (.int z :: st)))) : own_Go p e below Q F (T.setTop (mkF m pc Ls (.int y :: .int x :: st))) := by
  subst hp hz
  exact own_by (fun _ q => XS.ishl X.here hx rfl hd rfl q) h
theorem own_ishr (X : Stand p l e R s m args below meth c T locs cells slots) (hx : p.tables.exec = Jvm.exec) {pc pc' : Nat} {Ls : Array Slot} {st : List Value} {x y z : Int32} (hz : x >>> (y &&& 31) = z) (hd : decode c.code pc = .ok (.ishr, 1)) (hp : pc + 1 = pc') (h : own_Go p e below Q F (T.setTop (mkF m pc' Ls (.int z :: st)))) : own_Go p e below Q F (T.setTop (mkF m pc Ls (.int y :: .int x :: st))) := by
  subst hp hz
  exact own_by (fun _ q => XS.ishr X.here hx rfl hd rfl q) h
theorem own_iushr (X : Stand p l e R s m args below meth c T locs cells slots) (hx : p.tables.exec = Jvm.exec) {pc pc' : Nat} {Ls : Array Slot} {st : List Value} {x y z : Int32} (hz : (x.toUInt32 >>> (y &&& 31).toUInt32).toInt32 = z) (hd : decode c.code pc = .ok (.iushr, 1)) (hp : pc + 1 = pc') (h : own_Go p e below Q F (T.setTop (mkF m pc' Ls (.int z :: st)))) : own_Go p e below Q F (T.setTop (mkF m pc Ls (.int y :: .int x :: st))) := by
  subst hp hz
  exact own_by (fun _ q => XS.iushr X.here hx rfl hd rfl q) h
theorem own_idiv (X : Stand p l e R s m args below meth c T locs cells slots) (hx : p.tables.exec = Jvm.exec) {pc pc' : Nat} {Ls : Array Slot} {st : List Value} {x y z : Int32} (hy : y ≠ 0) (hz : x / y = z) (hd : decode c.code pc = .ok (.idiv, 1)) (hp : pc + 1 = pc') (h : own_Go p e below Q F (T.setTop (mkF m pc' Ls (.int z :: st)))) : own_Go p e below Q F (T.setTop (mkF m pc Ls (.int y :: .int x :: st))) := by
  subst hp hz
  exact own_by (fun _ q => XS.idiv X.here hx rfl hd rfl hy q) h
theorem own_irem (X : Stand p l e R s m args below meth c T locs cells slots) (hx : p.tables.exec = Jvm.exec) {pc pc' : Nat} {Ls : Array Slot} {st : List Value} {x y z : Int32} (hy : y ≠ 0) (hz : x % y = z) (hd : decode c.code pc = .ok (.irem, 1)) (hp : pc + 1 = pc') (h : own_Go p e below Q F (T.setTop (mkF m pc' Ls (.int z :: st)))) : own_Go p e below Q F (T.setTop (mkF m pc Ls (.int y :: .int x :: st))) := by
  subst hp hz
  exact own_by (fun _ q => iremM X hx rfl hd rfl hy q) h
theorem own_ladd (X : Stand p l e R s m args below meth c T locs cells slots) (hx : p.tables.exec = Jvm.exec) {pc pc' : Nat} {Ls : Array Slot} {st : List Value} {x y z : Int64} (hz : x + y = z) (hd : decode c.code pc = .ok (.ladd, 1)) (hp : pc + 1 = pc') (h : own_Go p e below Q F (T.setTop (mkF m pc' Ls (.long z :: st)))) : own_Go p e below Q F (T.setTop (mkF m pc Ls (.long y :: .long x :: st))) := by
  subst hp hz
  exact own_by (fun _ q => XS.ladd X.here hx rfl hd rfl q) h
theorem own_lsub (X : Stand p l e R s m args below meth c T locs cells slots) (hx : p.tables.exec = Jvm.exec) {pc pc' : Nat} {Ls : Array Slot} {st : List Value} {x y z : Int64} (hz : x - y = z) (hd : decode c.code pc = .ok (.lsub, 1)) (hp : pc + 1 = pc') (h : own_Go p e below Q F (T.setTop (mkF m pc' Ls (.long z :: st)))) : own_Go p e below Q F (T.setTop (mkF m pc Ls (.long y :: .long x :: st))) := by
  subst hp hz
  exact own_by (fun _ q => XS.lsub X.here hx rfl hd rfl q) h
theorem own_lmul (X : Stand p l e R s m args below meth c T locs cells slots) (hx : p.tables.exec = Jvm.exec) {pc pc' : Nat} {Ls : Array Slot} {st : List Value} {x y z : Int64} (hz : x * y = z) (hd : decode c.code pc = .ok (.lmul, 1)) (hp : pc + 1 = pc') (h : own_Go p e below Q F (T.setTop (mkF m pc' Ls (.long z :: st)))) : own_Go p e below Q F (T.setTop (mkF m pc Ls (.long y :: .long x :: st))) := by
  subst hp hz
  exact own_by (fun _ q => XS.lmul X.here hx rfl hd rfl q) h
theorem own_land (X : Stand p l e R s m args below meth c T locs cells slots) (hx : p.tables.exec = Jvm.exec) {pc pc' : Nat} {Ls : Array Slot} {st : List Value} {x y z : Int64} (hz : x &&& y = z) (hd : decode c.code pc = .ok (.land, 1)) (hp : pc + 1 = pc') (h : own_Go p e below Q F (T.setTop (mkF m pc' Ls (.long z :: st)))) : own_Go p e below Q F (T.setTop (mkF m pc Ls (.long y :: .long x :: st))) := by
  subst hp hz
  exact own_by (fun _ q => XS.land X.here hx rfl hd rfl q) h
theorem own_lor (X : Stand p l e R s m args below meth c T locs cells slots) (hx : p.tables.exec = Jvm.exec) {pc pc' : Nat} {Ls : Array Slot} {st : List Value} {x y z : Int64} (hz : x ||| y = z) (hd : decode c.code pc = .ok (.lor, 1)) (hp : pc + 1 = pc') (h : own_Go p e below Q F (T.setTop (mkF m pc' Ls (.long z :: st)))) : own_Go p e below Q F (T.setTop (mkF m pc Ls (.long y :: .long x :: st))) := by
  subst hp hz
  exact own_by (fun _ q => XS.lor X.here hx rfl hd rfl q) h
theorem own_lcmp (X : Stand p l e R s m args below meth c T locs cells slots) (hx : p.tables.exec = Jvm.exec) {pc pc' : Nat} {Ls : Array Slot} {st : List Value} {x y : Int64} {z : Int32} (hz : lcmpW x y = z) (hd : decode c.code pc = .ok (.lcmp, 1)) (hp : pc + 1 = pc') (h : own_Go p e below Q F (T.setTop (mkF m pc' Ls (.int z :: st)))) : own_Go p e below Q F (T.setTop (mkF m pc Ls (.long y :: .long x :: st))) := by
  subst hp hz
  exact own_by (fun _ q => XS.lcmp X.here hx rfl hd rfl q) h
theorem own_ineg (X : Stand p l e R s m args below meth c T locs cells slots) (hx : p.tables.exec = Jvm.exec) {pc pc' : Nat} {Ls : Array Slot} {st : List Value} {x z : Int32} (hz : -x = z) (hd : decode c.code pc = .ok (.ineg, 1)) (hp : pc + 1 = pc') (h : own_Go p e below Q F (T.setTop (mkF m pc' Ls (.int z :: st)))) : own_Go p e below Q F (T.setTop (mkF m pc Ls (.int x :: st))) := by
  subst hp hz
  exact own_by (fun _ q => XS.ineg X.here hx rfl hd rfl q) h
theorem own_i2l (X : Stand p l e R s m args below meth c T locs cells slots) (hx : p.tables.exec = Jvm.exec) {pc pc' : Nat} {Ls : Array Slot} {st : List Value} {x : Int32} {z : Int64} (hz : x.toInt64 = z) (hd : decode c.code pc = .ok (.i2l, 1)) (hp : pc + 1 = pc') (h : own_Go p e below Q F (T.setTop (mkF m pc' Ls (.long z :: st)))) : own_Go p e below Q F (T.setTop (mkF m pc Ls (.int x :: st))) := by
  subst hp hz
  exact own_by (fun _ q => XS.i2l X.here hx rfl hd rfl q) h
theorem own_l2i (X : Stand p l e R s m args below meth c T locs cells slots) (hx : p.tables.exec = Jvm.exec) {pc pc' : Nat} {Ls : Array Slot} {st : List Value} {x : Int64} {z : Int32} (hz : x.toInt32 = z) (hd : decode c.code pc = .ok (.l2i, 1)) (hp : pc + 1 = pc') (h : own_Go p e below Q F (T.setTop (mkF m pc' Ls (.int z :: st)))) : own_Go p e below Q F (T.setTop (mkF m pc Ls (.long x :: st))) := by
  subst hp hz
  exact own_by (fun _ q => XS.l2i X.here hx rfl hd rfl q) h
theorem own_i2b (X : Stand p l e R s m args below meth c T locs cells slots) (hx : p.tables.exec = Jvm.exec) {pc pc' : Nat} {Ls : Array Slot} {st : List Value} {x z : Int32} (hz : x.toInt8.toInt32 = z) (hd : decode c.code pc = .ok (.i2b, 1)) (hp : pc + 1 = pc') (h : own_Go p e below Q F (T.setTop (mkF m pc' Ls (.int z :: st)))) : own_Go p e below Q F (T.setTop (mkF m pc Ls (.int x :: st))) := by
  subst hp hz
  exact own_by (fun _ q => XS.i2b X.here hx rfl hd rfl q) h
theorem own_i2c (X : Stand p l e R s m args below meth c T locs cells slots) (hx : p.tables.exec = Jvm.exec) {pc pc' : Nat} {Ls : Array Slot} {st : List Value} {x z : Int32} (hz : x.toUInt32.toUInt16.toUInt32.toInt32 = z) (hd : decode c.code pc = .ok (.i2c, 1)) (hp : pc + 1 = pc') (h : own_Go p e below Q F (T.setTop (mkF m pc' Ls (.int z :: st)))) : own_Go p e below Q F (T.setTop (mkF m pc Ls (.int x :: st))) := by
  subst hp hz
  exact own_by (fun _ q => XS.i2c X.here hx rfl hd rfl q) h
theorem own_i2s (X : Stand p l e R s m args below meth c T locs cells slots) (hx : p.tables.exec = Jvm.exec) {pc pc' : Nat} {Ls : Array Slot} {st : List Value} {x z : Int32} (hz : x.toInt16.toInt32 = z) (hd : decode c.code pc = .ok (.i2s, 1)) (hp : pc + 1 = pc') (h : own_Go p e below Q F (T.setTop (mkF m pc' Ls (.int z :: st)))) : own_Go p e below Q F (T.setTop (mkF m pc Ls (.int x :: st))) := by
  subst hp hz
  exact own_by (fun _ q => XS.i2s X.here hx rfl hd rfl q) h
theorem own_dup (X : Stand p l e R s m args below meth c T locs cells slots) (hx : p.tables.exec = Jvm.exec) {pc pc' : Nat} {Ls : Array Slot} {st : List Value} {x : Value} (hc : x.category = 1) (hd : decode c.code pc = .ok (.dup, 1)) (hp : pc + 1 = pc') (h : own_Go p e below Q F (T.setTop (mkF m pc' Ls (x :: x :: st)))) : own_Go p e below Q F (T.setTop (mkF m pc Ls (x :: st))) := by
  subst hp
  exact own_by (fun _ q => XS.dup X.here hx rfl hd rfl hc q) h
theorem own_dupX1 (X : Stand p l e R s m args below meth c T locs cells slots) (hx : p.tables.exec = Jvm.exec) {pc pc' : Nat} {Ls : Array Slot} {st : List Value} {x y : Value} (hc : x.category = 1) (hc2 : y.category = 1) (hd : decode c.code pc = .ok (.dup_x1, 1)) (hp : pc + 1 = pc') (h : own_Go p e below Q F (T.setTop (mkF m pc' Ls (x :: y :: x :: st)))) : own_Go p e below Q F (T.setTop (mkF m pc Ls (x :: y :: st))) := by
  subst hp
  exact own_by (fun _ q => XS.dupX1 X.here hx rfl hd rfl hc hc2 q) h
theorem own_pop (X : Stand p l e R s m args below meth c T locs cells slots) (hx : p.tables.exec = Jvm.exec) {pc pc' : Nat} {Ls : Array Slot} {st : List Value} {x : Value} (hc : x.category = 1) (hd : decode c.code pc = .ok (.pop, 1)) (hp : pc + 1 = pc') (h : own_Go p e below Q F (T.setTop (mkF m pc' Ls st))) : own_Go p e below Q F (T.setTop (mkF m pc Ls (x :: st))) := by
  subst hp
  exact own_by (fun _ q => XS.pop X.here hx rfl hd rfl hc q) h
theorem own_istoreN (X : Stand p l e R s m args below meth c T locs cells slots) (hx : p.tables.exec = Jvm.exec) {pc pc' : Nat} {Ls : Array Slot} {st : List Value} {k : Fin 4} {x : Int32} (L' : Array Slot) (hl : storeLocals Ls k.val (.int x) = some L') (hd : decode c.code pc = .ok (.istore_n k, 1)) (hp : pc + 1 = pc') (h : own_Go p e below Q F (T.setTop (mkF m pc' L' st))) : own_Go p e below Q F (T.setTop (mkF m pc Ls (.int x :: st))) := by
  subst hp
  exact own_by (fun _ q => XS.istoreN X.here hx rfl hd rfl hl q) h
theorem own_istore (X : Stand p l e R s m args below meth c T locs cells slots) (hx : p.tables.exec = Jvm.exec) {pc pc' : Nat} {Ls : Array Slot} {st : List Value} {k : Nat} {x : Int32} (L' : Array Slot) (hl : storeLocals Ls k (.int x) = some L') (hd : decode c.code pc = .ok (.istore k, 2)) (hp : pc + 2 = pc') (h : own_Go p e below Q F (T.setTop (mkF m pc' L' st))) : own_Go p e below Q F (T.setTop (mkF m pc Ls (.int x :: st))) := by
  subst hp
  exact own_by (fun _ q => XS.istore X.here hx rfl hd rfl hl q) h
theorem own_lstoreN (X : Stand p l e R s m args below meth c T locs cells slots) (hx : p.tables.exec = Jvm.exec) {pc pc' : Nat} {Ls : Array Slot} {st : List Value} {k : Fin 4} {x : Int64} (L' : Array Slot) (hl : storeLocals Ls k.val (.long x) = some L') (hd : decode c.code pc = .ok (.lstore_n k, 1)) (hp : pc + 1 = pc') (h : own_Go p e below Q F (T.setTop (mkF m pc' L' st))) : own_Go p e below Q F (T.setTop (mkF m pc Ls (.long x :: st))) := by
  subst hp
  exact own_by (fun _ q => XS.lstoreN X.here hx rfl hd rfl hl q) h
theorem own_lstore (X : Stand p l e R s m args below meth c T locs cells slots) (hx : p.tables.exec = Jvm.exec) {pc pc' : Nat} {Ls : Array Slot} {st : List Value} {k : Nat} {x : Int64} (L' : Array Slot) (hl : storeLocals Ls k (.long x) = some L') (hd : decode c.code pc = .ok (.lstore k, 2)) (hp : pc + 2 = pc') (h : own_Go p e below Q F (T.setTop (mkF m pc' L' st))) : own_Go p e below Q F (T.setTop (mkF m pc Ls (.long x :: st))) := by
  subst hp
  exact own_by (fun _ q => XS.lstore X.here hx rfl hd rfl hl q) h
theorem own_astoreN (X : Stand p l e R s m args below meth c T locs cells slots) (hx : p.tables.exec = Jvm.exec) {pc pc' : Nat} {Ls : Array Slot} {st : List Value} {k : Fin 4} {x : Value} (L' : Array Slot) (hv : x.isRef = true) (hl : storeLocals Ls k.val x = some L') (hd : decode c.code pc = .ok (.astore_n k, 1)) (hp : pc + 1 = pc') (h : own_Go p e below Q F (T.setTop (mkF m pc' L' st))) : own_Go p e below Q F (T.setTop (mkF m pc Ls (x :: st))) := by
  subst hp
  exact own_by (fun _ q => XS.astoreN X.here hx rfl hd rfl hv hl q) h
theorem own_astore (X : Stand p l e R s m args below meth c T locs cells slots) (hx : p.tables.exec = Jvm.exec) {pc pc' : Nat} {Ls : Array Slot} {st : List Value} {k : Nat} {x : Value} (L' : Array Slot) (hv : x.isRef = true) (hl : storeLocals Ls k x = some L') (hd : decode c.code pc = .ok (.astore k, 2)) (hp : pc + 2 = pc') (h : own_Go p e below Q F (T.setTop (mkF m pc' L' st))) : own_Go p e below Q F (T.setTop (mkF m pc Ls (x :: st))) := by
  subst hp
  exact own_by (fun _ q => XS.astore X.here hx rfl hd rfl hv hl q) h
theorem own_iinc (X : Stand p l e R s m args below meth c T locs cells slots) (hx : p.tables.exec = Jvm.exec) {pc pc' : Nat} {Ls : Array Slot} {st : List Value} {k : Nat} {cst : Int} {x z : Int32} (L' : Array Slot) (hv : Ls[k]? = some (.val (.int x))) (hz : x + Int32.ofInt cst = z) (hl : storeLocals Ls k (.int z) = some L') (hd : decode c.code pc = .ok (.iinc k cst, 3)) (hp : pc + 3 = pc') (h : own_Go p e below Q F (T.setTop (mkF m pc' L' st))) : own_Go p e below Q F (T.setTop (mkF m pc Ls st)) := by
  subst hp hz
  exact own_by (fun _ q => XS.iinc X.here hx rfl hd hv hl q) h
theorem own_goto (X : Stand p l e R s m args below meth c T locs cells slots) (hx : p.tables.exec = Jvm.exec) {pc pc' : Nat} {Ls : Array Slot} {st : List Value} {o : Int}  (hd : decode c.code pc = .ok (.goto o, 3))  (ho : 0 ≤ (pc : Int) + o) (hp : ((pc : Int) + o).toNat = pc') (h : own_Go p e below Q F (T.setTop (mkF m pc' Ls st))) : own_Go p e below Q F (T.setTop (mkF m pc Ls st)) := by
  exact own_by (fun _ q => XS.goto X.here hx rfl rfl hd ho hp q) h
theorem own_ifYes (X : Stand p l e R s m args below meth c T locs cells slots) (hx : p.tables.exec = Jvm.exec) {pc pc' : Nat} {Ls : Array Slot} {st : List Value} {o : Int} {cd : ClassFile.Cond} {x : Int32} (hd : decode c.code pc = .ok (.ifCond cd o, 3)) (hc : ifCond.holds cd x = true) (ho : 0 ≤ (pc : Int) + o) (hp : ((pc : Int) + o).toNat = pc') (h : own_Go p e below Q F (T.setTop (mkF m pc' Ls st))) : own_Go p e below Q F (T.setTop (mkF m pc Ls (.int x :: st))) := by
  exact own_by (fun _ q => XS.ifYes X.here hx rfl rfl hd rfl hc ho hp q) h
theorem own_icmpYes (X : Stand p l e R s m args below meth c T locs cells slots) (hx : p.tables.exec = Jvm.exec) {pc pc' : Nat} {Ls : Array Slot} {st : List Value} {o : Int} {cd : ClassFile.Cond} {x y : Int32} (hd : decode c.code pc = .ok (.if_icmp cd o, 3)) (hc : if_icmp.holds cd x y = true) (ho : 0 ≤ (pc : Int) + o) (hp : ((pc : Int) + o).toNat = pc') (h : own_Go p e below Q F (T.setTop (mkF m pc' Ls st))) : own_Go p e below Q F (T.setTop (mkF m pc Ls (.int y :: .int x :: st))) := by
  exact own_by (fun _ q => XS.icmpYes X.here hx rfl rfl hd rfl hc ho hp q) h
theorem own_ifnullYes (X : Stand p l e R s m args below meth c T locs cells slots) (hx : p.tables.exec = Jvm.exec) {pc pc' : Nat} {Ls : Array Slot} {st : List Value} {o : Int}  (hd : decode c.code pc = .ok (.ifnull o, 3))  (ho : 0 ≤ (pc : Int) + o) (hp : ((pc : Int) + o).toNat = pc') (h : own_Go p e below Q F (T.setTop (mkF m pc' Ls st))) : own_Go p e below Q F (T.setTop (mkF m pc Ls (.null :: st))) := by
  exact own_by (fun _ q => XS.ifnullYes X.here hx rfl rfl hd rfl ho hp q) h
theorem own_ifnonnullYes (X : Stand p l e R s m args below meth c T locs cells slots) (hx : p.tables.exec = Jvm.exec) {pc pc' : Nat} {Ls : Array Slot} {st : List Value} {o : Int} {b : Addr} (hd : decode c.code pc = .ok (.ifnonnull o, 3))  (ho : 0 ≤ (pc : Int) + o) (hp : ((pc : Int) + o).toNat = pc') (h : own_Go p e below Q F (T.setTop (mkF m pc' Ls st))) : own_Go p e below Q F (T.setTop (mkF m pc Ls (.ref b :: st))) := by
  exact own_by (fun _ q => XS.ifnonnullYes X.here hx rfl rfl hd rfl ho hp q) h
theorem own_acmpYes (X : Stand p l e R s m args below meth c T locs cells slots) (hx : p.tables.exec = Jvm.exec) {pc pc' : Nat} {Ls : Array Slot} {st : List Value} {o : Int} {cd : ClassFile.ACond} {a b : Addr} (hd : decode c.code pc = .ok (.if_acmp cd o, 3)) (hc : if_acmp.holds cd (some a) (some b) = true) (ho : 0 ≤ (pc : Int) + o) (hp : ((pc : Int) + o).toNat = pc') (h : own_Go p e below Q F (T.setTop (mkF m pc' Ls st))) : own_Go p e below Q F (T.setTop (mkF m pc Ls (.ref b :: .ref a :: st))) := by
  exact own_by (fun _ q => XS.acmpYes X.here hx rfl rfl hd rfl hc ho hp q) h
theorem own_ifNo (X : Stand p l e R s m args below meth c T locs cells slots) (hx : p.tables.exec = Jvm.exec) {pc pc' : Nat} {Ls : Array Slot} {st : List Value} {cd : ClassFile.Cond} {x : Int32} {o : Int} (hc : ifCond.holds cd x = false) (hd : decode c.code pc = .ok (.ifCond cd o, 3)) (hp : pc + 3 = pc') (h : own_Go p e below Q F (T.setTop (mkF m pc' Ls st))) : own_Go p e below Q F (T.setTop (mkF m pc Ls (.int x :: st))) := by
  subst hp
  exact own_by (fun _ q => XS.ifNo X.here hx rfl hd rfl hc q) h
theorem own_icmpNo (X : Stand p l e R s m args below meth c T locs cells slots) (hx : p.tables.exec = Jvm.exec) {pc pc' : Nat} {Ls : Array Slot} {st : List Value} {cd : ClassFile.Cond} {x y : Int32} {o : Int} (hc : if_icmp.holds cd x y = false) (hd : decode c.code pc = .ok (.if_icmp cd o, 3)) (hp : pc + 3 = pc') (h : own_Go p e below Q F (T.setTop (mkF m pc' Ls st))) : own_Go p e below Q F (T.setTop (mkF m pc Ls (.int y :: .int x :: st))) := by
  subst hp
  exact own_by (fun _ q => XS.icmpNo X.here hx rfl hd rfl hc q) h
theorem own_ifnullNo (X : Stand p l e R s m args below meth c T locs cells slots) (hx : p.tables.exec = Jvm.exec) {pc pc' : Nat} {Ls : Array Slot} {st : List Value} {b : Addr} {o : Int}  (hd : decode c.code pc = .ok (.ifnull o, 3)) (hp : pc + 3 = pc') (h : own_Go p e below Q F (T.setTop (mkF m pc' Ls st))) : own_Go p e below Q F (T.setTop (mkF m pc Ls (.ref b :: st))) := by
  subst hp
  exact own_by (fun _ q => XS.ifnullNo X.here hx rfl hd rfl q) h
theorem own_ifnonnullNo (X : Stand p l e R s m args below meth c T locs cells slots) (hx : p.tables.exec = Jvm.exec) {pc pc' : Nat} {Ls : Array Slot} {st : List Value} {o : Int}  (hd : decode c.code pc = .ok (.ifnonnull o, 3)) (hp : pc + 3 = pc') (h : own_Go p e below Q F (T.setTop (mkF m pc' Ls st))) : own_Go p e below Q F (T.setTop (mkF m pc Ls (.null :: st))) := by
  subst hp
  exact own_by (fun _ q => XS.ifnonnullNo X.here hx rfl hd rfl q) h
theorem own_acmpNo (X : Stand p l e R s m args below meth c T locs cells slots) (hx : p.tables.exec = Jvm.exec) {pc pc' : Nat} {Ls : Array Slot} {st : List Value} {cd : ClassFile.ACond} {a b : Addr} {o : Int} (hc : if_acmp.holds cd (some a) (some b) = false) (hd : decode c.code pc = .ok (.if_acmp cd o, 3)) (hp : pc + 3 = pc') (h : own_Go p e below Q F (T.setTop (mkF m pc' Ls st))) : own_Go p e below Q F (T.setTop (mkF m pc Ls (.ref b :: .ref a :: st))) := by
  subst hp
  exact own_by (fun _ q => XS.acmpNo X.here hx rfl hd rfl hc q) h
theorem own_ldcInt (X : Stand p l e R s m args below meth c T locs cells slots) (hx : p.tables.exec = Jvm.exec) {pc pc' : Nat} {Ls : Array Slot} {st : List Value} {Z : State} {a0 : Array Value} {own : String} {index : Nat} {v : Int32} (hZ : Z.Warmed39 s.vm) (hown : s.vm.findClass own = some m.cls) (w : (Jvm.Cond.constant own index v).before a0 Z = true) (hd : decode c.code pc = .ok (.ldc index, 2)) (hp : pc + 2 = pc') (h : own_Go p e below Q F (T.setTop (mkF m pc' Ls (.int v :: st)))) : own_Go p e below Q F (T.setTop (mkF m pc Ls st)) := by
  subst hp
  exact own_by (fun _ q => X.ldcInt hx hown (mv hZ w) (g := mkF m pc Ls st) rfl hd _ q) h
theorem own_ldc2Long (X : Stand p l e R s m args below meth c T locs cells slots) (hx : p.tables.exec = Jvm.exec) {pc pc' : Nat} {Ls : Array Slot} {st : List Value} {Z : State} {a0 : Array Value} {own : String} {index : Nat} {v : Int64} (hZ : Z.Warmed39 s.vm) (hown : s.vm.findClass own = some m.cls) (w : (Jvm.Cond.constantLong own index v).before a0 Z = true) (hd : decode c.code pc = .ok (.ldc2_w index, 3)) (hp : pc + 3 = pc') (h : own_Go p e below Q F (T.setTop (mkF m pc' Ls (.long v :: st)))) : own_Go p e below Q F (T.setTop (mkF m pc Ls st)) := by
  subst hp
  exact own_by (fun _ q => X.ldc2Long hx hown (mv hZ w) (g := mkF m pc Ls st) rfl hd _ q) h
theorem own_lyes_lt {x y : Int64} {a b : Int} (ha : x.toInt = a) (hb : y.toInt = b) (h : a < b) : ifCond.holds .lt (lcmpW x y) = true := by
  have q := own_lcm ha hb
  have r :  (lcmpW x y).toInt < 0 := by omega
  exact own_z (own_yes_lt rfl rfl r)
theorem own_lno_lt {x y : Int64} {a b : Int} (ha : x.toInt = a) (hb : y.toInt = b) (h : ¬ a < b) : ifCond.holds .lt (lcmpW x y) = false := by
  have q := own_lcm ha hb
  have r : ¬ (lcmpW x y).toInt < 0 := by omega
  exact own_z (own_no_lt rfl rfl r)
theorem own_lyes_ge {x y : Int64} {a b : Int} (ha : x.toInt = a) (hb : y.toInt = b) (h : ¬ a < b) : ifCond.holds .ge (lcmpW x y) = true := by
  have q := own_lcm ha hb
  have r : ¬ (lcmpW x y).toInt < 0 := by omega
  exact own_z (own_yes_ge rfl rfl r)
theorem own_lno_ge {x y : Int64} {a b : Int} (ha : x.toInt = a) (hb : y.toInt = b) (h : a < b) : ifCond.holds .ge (lcmpW x y) = false := by
  have q := own_lcm ha hb
  have r :  (lcmpW x y).toInt < 0 := by omega
  exact own_z (own_no_ge rfl rfl r)
theorem own_lyes_gt {x y : Int64} {a b : Int} (ha : x.toInt = a) (hb : y.toInt = b) (h : b < a) : ifCond.holds .gt (lcmpW x y) = true := by
  have q := own_lcm ha hb
  have r :  0 < (lcmpW x y).toInt := by omega
  exact own_z (own_yes_gt rfl rfl r)
theorem own_lno_gt {x y : Int64} {a b : Int} (ha : x.toInt = a) (hb : y.toInt = b) (h : ¬ b < a) : ifCond.holds .gt (lcmpW x y) = false := by
  have q := own_lcm ha hb
  have r : ¬ 0 < (lcmpW x y).toInt := by omega
  exact own_z (own_no_gt rfl rfl r)
theorem own_lyes_le {x y : Int64} {a b : Int} (ha : x.toInt = a) (hb : y.toInt = b) (h : ¬ b < a) : ifCond.holds .le (lcmpW x y) = true := by
  have q := own_lcm ha hb
  have r : ¬ 0 < (lcmpW x y).toInt := by omega
  exact own_z (own_yes_le rfl rfl r)
theorem own_lno_le {x y : Int64} {a b : Int} (ha : x.toInt = a) (hb : y.toInt = b) (h : b < a) : ifCond.holds .le (lcmpW x y) = false := by
  have q := own_lcm ha hb
  have r :  0 < (lcmpW x y).toInt := by omega
  exact own_z (own_no_le rfl rfl r)
theorem own_lyes_eq {x y : Int64} {a b : Int} (ha : x.toInt = a) (hb : y.toInt = b) (h : a = b) : ifCond.holds .eq (lcmpW x y) = true := by
  have q := own_lcm ha hb
  have r :  (lcmpW x y).toInt = 0 := by omega
  exact own_z (own_yes_eq rfl rfl r)
theorem own_lno_eq {x y : Int64} {a b : Int} (ha : x.toInt = a) (hb : y.toInt = b) (h : ¬ a = b) : ifCond.holds .eq (lcmpW x y) = false := by
  have q := own_lcm ha hb
  have r : ¬ (lcmpW x y).toInt = 0 := by omega
  exact own_z (own_no_eq rfl rfl r)
theorem own_lyes_ne {x y : Int64} {a b : Int} (ha : x.toInt = a) (hb : y.toInt = b) (h : ¬ a = b) : ifCond.holds .ne (lcmpW x y) = true := by
  have q := own_lcm ha hb
  have r : ¬ (lcmpW x y).toInt = 0 := by omega
  exact own_z (own_yes_ne rfl rfl r)
theorem own_lno_ne {x y : Int64} {a b : Int} (ha : x.toInt = a) (hb : y.toInt = b) (h : a = b) : ifCond.holds .ne (lcmpW x y) = false := by
  have q := own_lcm ha hb
  have r :  (lcmpW x y).toInt = 0 := by omega
  exact own_z (own_no_ne rfl rfl r)
theorem own_tswIn (X : Stand p l e R s m args below meth c T locs cells slots) (hx : p.tables.exec = Jvm.exec) {pc pc' : Nat} {Ls : Array Slot} {st : List Value} {dflt low high : Int} {offs : Array Int} {len : Nat} (o : Int) {i : Int32} (hd : decode c.code pc = .ok (.tableswitch dflt low high offs, len)) (hin : ¬ (i.toInt < low ∨ i.toInt > high)) (hoff : offs[(i.toInt - low).toNat]? = some o) (ho : 0 ≤ (pc : Int) + o) (hp : ((pc : Int) + o).toNat = pc') (h : own_Go p e below Q F (T.setTop (mkF m pc' Ls st))) : own_Go p e below Q F (T.setTop (mkF m pc Ls (.int i :: st))) := by
  exact own_by (fun _ q => XS.tswIn X.here hx rfl rfl hd rfl hin hoff ho hp q) h
theorem own_tswOut (X : Stand p l e R s m args below meth c T locs cells slots) (hx : p.tables.exec = Jvm.exec) {pc pc' : Nat} {Ls : Array Slot} {st : List Value} {dflt low high : Int} {offs : Array Int} {len : Nat} {i : Int32} (hd : decode c.code pc = .ok (.tableswitch dflt low high offs, len)) (hout : i.toInt < low ∨ i.toInt > high) (ho : 0 ≤ (pc : Int) + dflt) (hp : ((pc : Int) + dflt).toNat = pc') (h : own_Go p e below Q F (T.setTop (mkF m pc' Ls st))) : own_Go p e below Q F (T.setTop (mkF m pc Ls (.int i :: st))) := by
  exact own_by (fun _ q => XS.tswOut X.here hx rfl rfl hd rfl hout ho hp q) h
end OwnKit
theorem own_fldv {args : Array Value} {s : State} {t : Term} {a : Addr} {C n d : String} {k : Int32} (ht : t.eval args s none [] s = some (.ref a)) (h : (Jvm.Cond.eq (Term.field t C n d) (Term.int k)).value args s none s [] = some true) : s.fieldOf? a C n d = some (.int k) := by
  have e := fld_at (C := C) (n := n) (dd := d) ht
  simp only [Cond.value, e, Term.int_eval] at h
  cases hf : s.fieldOf? a C n d with
  | none => rw [hf] at h; simp at h
  | some v =>
    rw [hf] at h
    cases v <;> simp at h
    rw [h]
theorem pd_0 : parseMethodDescriptor "(S)Z" = some ⟨[.short], some .boolean⟩ := by decide +kernel
theorem d1_0 : decode prog_51_method_8_code 0 = .ok (.iload_n 1, 1) := by decide +kernel
theorem d1_1 : decode prog_51_method_8_code 1 = .ok (.aload_n 0, 1) := by decide +kernel
theorem d1_2 : decode prog_51_method_8_code 2 = .ok (.getfield 57, 3) := by decide +kernel
theorem d1_5 : decode prog_51_method_8_code 5 = .ok (.if_icmp .lt 15, 3) := by decide +kernel
theorem d1_8 : decode prog_51_method_8_code 8 = .ok (.iload_n 1, 1) := by decide +kernel
theorem d1_9 : decode prog_51_method_8_code 9 = .ok (.aload_n 0, 1) := by decide +kernel
theorem d1_10 : decode prog_51_method_8_code 10 = .ok (.getfield 60, 3) := by decide +kernel
theorem d1_13 : decode prog_51_method_8_code 13 = .ok (.if_icmp .gt 7, 3) := by decide +kernel
theorem d1_16 : decode prog_51_method_8_code 16 = .ok (.iconst 1, 1) := by decide +kernel
theorem d1_17 : decode prog_51_method_8_code 17 = .ok (.goto 4, 3) := by decide +kernel
theorem d1_20 : decode prog_51_method_8_code 20 = .ok (.iconst 0, 1) := by decide +kernel
theorem d1_21 : decode prog_51_method_8_code 21 = .ok (.ireturn, 1) := by decide +kernel
theorem pn_0 : plainName "com/example/rebalanced/rebalanced/wire/ApiKey" = true := by first | (simp [plainName, overriddenIn]; done) | decide +kernel
theorem ef_1 (m : MethodId) (x0 : Addr) (x1 : Int32) : entryFrame m #[(.ref x0), (.int x1)] 2 = mkF m 0 #[.val (.ref x0), .val (.int x1)] [] := by first | (simp [entryFrame, mkF, argsToLocals, Value.category, maxLocals]; done) | rfl
def Q1 (Z : State) (a1 : Addr) (u : Int32) (wl : Int32) (wh : Int32) (h0 : Heap) (n0 : Nat) (v : Option Value) (h : Heap) (L : List Loc) : Prop := ∃ r : Int32, v = some (.int r) ∧ ((r.toInt = 1 ∧ wl.toInt ≤ u.toInt ∧ u.toInt ≤ wh.toInt) ∨ (r.toInt = 0 ∧ (u.toInt < wl.toInt ∨ wh.toInt < u.toInt))) ∧ Fr n0 L ∧ h = h0
set_option maxRecDepth 65536 in
set_option maxHeartbeats 40000000 in
theorem rm1 (l : Launch) (Z : State) (a0 : Array Value) (hw : ∀ d ∈ tables_1, d.before a0 Z = true) (ws : List Jvm.Cond) (a1 : Addr) (u : Int32) (wl : Int32) (wh : Int32) (h0 : Heap) (n0 : Nat) (Z0 : n0 ≤ h0.size) (F_minVersion_a1 : Fld Z h0 a1 "com/example/rebalanced/rebalanced/wire/ApiKey" "minVersion" "S" (.int wl)) (F_maxVersion_a1 : Fld Z h0 a1 "com/example/rebalanced/rebalanced/wire/ApiKey" "maxVersion" "S" (.int wh)) :
    MetFree l (⟨"com/example/rebalanced/rebalanced/wire/ApiKey", "serves", "(S)Z"⟩ : MethodName) (head1 (Jvm.Cond.code (⟨"com/example/rebalanced/rebalanced/wire/ApiKey", "serves", "(S)Z"⟩ : MethodName) prog_51_method_8_code 2 (some .boolean) :: ws) ({ frames := 0, cells := 0, slots := 0, locals := 0 } : Room)) (fun a U => a = #[(.ref a1), (.int u)] ∧ Z.Warmed39 U.vm ∧ U.heap = h0) (fun _ _ _ _ _ => True) (fun _ U o U' => ∃ v L, o = .returned v ∧ Q1 Z a1 u wl wh h0 n0 v U'.heap L ∧ FrameEnd U o U' L ({ frames := 0, cells := 0, slots := 0, locals := 0 } : Room).cells ({ frames := 0, cells := 0, slots := 0, locals := 0 } : Room).slots) := by
  refine MetFree.of_bodySF (plainFor_of_name pn_0) hisR ?_
  intro p e s m args below meth c s₁ Bd hml0 hP hK
  obtain ⟨rfl, hZ, hh⟩ := hP
  have hx := Bd.exec
  have hby := Bd.bytes
  have hml : c.maxLocals = 2 := hml0
  have hown : s.vm.findClass "com/example/rebalanced/rebalanced/wire/ApiKey" = some m.cls := findClass_of_methodNamed Bd.named
  have hnm := (name_of_methodNamed Bd.named Bd.method).1
  have X0 : Stand p l e ({ frames := 0, cells := 0, slots := 0, locals := 0 } : Room) s m #[(.ref a1), (.int u)] below meth c s₁ [] 0 0 := Stand.of_body Bd
  have e0 : s₁.heap = h0 := by rw [← hh, Bd.state]; rfl
  have N0 := Fr.nil n0
  change own_Go p e below (Q1 Z a1 u wl wh h0 n0) (own_Fr s ({ frames := 0, cells := 0, slots := 0, locals := 0 } : Room).cells ({ frames := 0, cells := 0, slots := 0, locals := 0 } : Room).slots) (s₁.setTop (entryFrame m #[(.ref a1), (.int u)] 2))
  rw [ef_1 m a1 u]
  have ru := rng32 u
  have rwl := rng32 wl
  have rwh := rng32 wh
  refine own_iloadN (pc' := 1) X0 hx rfl (hb hby d1_0) rfl ?_
  refine own_aloadN (pc' := 2) X0 hx rfl rfl (hb hby d1_1) rfl ?_
  obtain ⟨T1, X1, e1, st1⟩ := getF X0 hx hZ hown (host := "") (Or.inl (hw _ (List.mem_of_getElem? (i := 9) rfl))) Via.refl e0 F_minVersion_a1 (g := (mkF m 2 #[.val (.ref a1), .val (.int u)] [(.ref a1), (.int u)])) rfl rfl (hb hby d1_2)
  refine own_by st1 ?_
  show own_Go p e below (Q1 Z a1 u wl wh h0 n0) (own_Fr s ({ frames := 0, cells := 0, slots := 0, locals := 0 } : Room).cells ({ frames := 0, cells := 0, slots := 0, locals := 0 } : Room).slots) (T1.setTop (mkF m 5 #[.val (.ref a1), .val (.int u)] [(.int wl), (.int u)]))
  by_cases b2 : u.toInt < wl.toInt
  · refine own_icmpYes (pc' := 20) X1 hx (hb hby d1_5) (own_yes_lt rfl rfl b2) (by decide) (by decide) ?_
    refine own_iconst (pc' := 21) X1 hx (0 : Int32) (by decide) (hb hby d1_20) rfl ?_
    refine own_ret X1 hx Bd.returns Bd.notSynchronized (Or.inl ⟨rfl, by simp, _, rfl⟩) (hb hby d1_21) rfl (by decide) (by decide) ?_
    show Q1 Z a1 u wl wh h0 n0 _ T1.heap _
    rw [e1]
    have kc0 : ((0 : Int32)).toInt = 0 := by decide
    exact ⟨(0 : Int32), rfl, by omega, N0, rfl⟩
  · refine own_icmpNo (pc' := 8) X1 hx (own_no_lt rfl rfl b2) (hb hby d1_5) rfl ?_
    refine own_iloadN (pc' := 9) X1 hx rfl (hb hby d1_8) rfl ?_
    refine own_aloadN (pc' := 10) X1 hx rfl rfl (hb hby d1_9) rfl ?_
    obtain ⟨T3, X3, e3, st3⟩ := getF X1 hx hZ hown (host := "") (Or.inl (hw _ (List.mem_of_getElem? (i := 11) rfl))) Via.refl e1 F_maxVersion_a1 (g := (mkF m 10 #[.val (.ref a1), .val (.int u)] [(.ref a1), (.int u)])) rfl rfl (hb hby d1_10)
    refine own_by st3 ?_
    show own_Go p e below (Q1 Z a1 u wl wh h0 n0) (own_Fr s ({ frames := 0, cells := 0, slots := 0, locals := 0 } : Room).cells ({ frames := 0, cells := 0, slots := 0, locals := 0 } : Room).slots) (T3.setTop (mkF m 13 #[.val (.ref a1), .val (.int u)] [(.int wh), (.int u)]))
    by_cases b4 : wh.toInt < u.toInt
    · refine own_icmpYes (pc' := 20) X3 hx (hb hby d1_13) (own_yes_gt rfl rfl b4) (by decide) (by decide) ?_
      refine own_iconst (pc' := 21) X3 hx (0 : Int32) (by decide) (hb hby d1_20) rfl ?_
      refine own_ret X3 hx Bd.returns Bd.notSynchronized (Or.inl ⟨rfl, by simp, _, rfl⟩) (hb hby d1_21) rfl (by decide) (by decide) ?_
      show Q1 Z a1 u wl wh h0 n0 _ T3.heap _
      rw [e3]
      have kc0 : ((0 : Int32)).toInt = 0 := by decide
      exact ⟨(0 : Int32), rfl, by omega, N0, rfl⟩
    · refine own_icmpNo (pc' := 16) X3 hx (own_no_gt rfl rfl b4) (hb hby d1_13) rfl ?_
      refine own_iconst (pc' := 17) X3 hx (1 : Int32) (by decide) (hb hby d1_16) rfl ?_
      refine own_goto (pc' := 21) X3 hx (hb hby d1_17) (by decide) (by decide) ?_
      refine own_ret X3 hx Bd.returns Bd.notSynchronized (Or.inl ⟨rfl, by simp, _, rfl⟩) (hb hby d1_21) rfl (by decide) (by decide) ?_
      show Q1 Z a1 u wl wh h0 n0 _ T3.heap _
      rw [e3]
      have kc0 : ((1 : Int32)).toInt = 1 := by decide
      exact ⟨(1 : Int32), rfl, by omega, N0, rfl⟩
theorem pn_1 : plainName "com/example/rebalanced/rebalanced/wire/ApiKeyServesPinLaw" = true := by first | (simp [plainName, overriddenIn]; done) | decide +kernel
theorem ef_0 (m : MethodId) (x0 : Int32) (x1 : Int32) (x2 : Int32) : entryFrame m #[(.int x0), (.int x1), (.int x2)] maxLocals = mkF m 0 #[.val (.int x0), .val (.int x1), .val (.int x2), .unset, .unset, .unset, .unset, .unset, .unset, .unset] [] := by first | (simp [entryFrame, mkF, argsToLocals, Value.category, maxLocals]; done) | rfl
def Q0 (Z : State) (p1 : Int32) (p2 : Int32) (p3 : Int32) (aK0 : Addr) (aK1 : Addr) (aK2 : Addr) (aK3 : Addr) (aK4 : Addr) (aK5 : Addr) (aK6 : Addr) (aK7 : Addr) (aK8 : Addr) (aK9 : Addr) (h0 : Heap) (n0 : Nat) (v : Option Value) (h : Heap) (L : List Loc) : Prop := v = some (.int 1) ∧ Fr n0 L
set_option maxRecDepth 65536 in
set_option maxHeartbeats 40000000 in
theorem rm0 (l : Launch) (Z : State) (a0 : Array Value) (hw : ∀ d ∈ tables_1, d.before a0 Z = true) (ws : List Jvm.Cond) (p1 : Int32) (p2 : Int32) (p3 : Int32) (aK0 : Addr) (aK1 : Addr) (aK2 : Addr) (aK3 : Addr) (aK4 : Addr) (aK5 : Addr) (aK6 : Addr) (aK7 : Addr) (aK8 : Addr) (aK9 : Addr) (h0 : Heap) (n0 : Nat) (Z0 : n0 ≤ h0.size) (S_FETCH : Sta Z h0 "com/example/rebalanced/rebalanced/wire/ApiKey" "FETCH" "Lcom/example/rebalanced/rebalanced/wire/ApiKey;" (.ref aK0)) (S_LIST_OFFSETS : Sta Z h0 "com/example/rebalanced/rebalanced/wire/ApiKey" "LIST_OFFSETS" "Lcom/example/rebalanced/rebalanced/wire/ApiKey;" (.ref aK1)) (S_METADATA : Sta Z h0 "com/example/rebalanced/rebalanced/wire/ApiKey" "METADATA" "Lcom/example/rebalanced/rebalanced/wire/ApiKey;" (.ref aK2)) (S_OFFSET_COMMIT : Sta Z h0 "com/example/rebalanced/rebalanced/wire/ApiKey" "OFFSET_COMMIT" "Lcom/example/rebalanced/rebalanced/wire/ApiKey;" (.ref aK3)) (S_OFFSET_FETCH : Sta Z h0 "com/example/rebalanced/rebalanced/wire/ApiKey" "OFFSET_FETCH" "Lcom/example/rebalanced/rebalanced/wire/ApiKey;" (.ref aK4)) (S_FIND_COORDINATOR : Sta Z h0 "com/example/rebalanced/rebalanced/wire/ApiKey" "FIND_COORDINATOR" "Lcom/example/rebalanced/rebalanced/wire/ApiKey;" (.ref aK5)) (S_LIST_GROUPS : Sta Z h0 "com/example/rebalanced/rebalanced/wire/ApiKey" "LIST_GROUPS" "Lcom/example/rebalanced/rebalanced/wire/ApiKey;" (.ref aK6)) (S_API_VERSIONS : Sta Z h0 "com/example/rebalanced/rebalanced/wire/ApiKey" "API_VERSIONS" "Lcom/example/rebalanced/rebalanced/wire/ApiKey;" (.ref aK7)) (S_CONSUMER_GROUP_HEARTBEAT : Sta Z h0 "com/example/rebalanced/rebalanced/wire/ApiKey" "CONSUMER_GROUP_HEARTBEAT" "Lcom/example/rebalanced/rebalanced/wire/ApiKey;" (.ref aK8)) (S_CONSUMER_GROUP_DESCRIBE : Sta Z h0 "com/example/rebalanced/rebalanced/wire/ApiKey" "CONSUMER_GROUP_DESCRIBE" "Lcom/example/rebalanced/rebalanced/wire/ApiKey;" (.ref aK9)) (E_aK0 : Exa Z h0 aK0 "com/example/rebalanced/rebalanced/wire/ApiKey") (E_aK1 : Exa Z h0 aK1 "com/example/rebalanced/rebalanced/wire/ApiKey") (E_aK2 : Exa Z h0 aK2 "com/example/rebalanced/rebalanced/wire/ApiKey") (E_aK3 : Exa Z h0 aK3 "com/example/rebalanced/rebalanced/wire/ApiKey") (E_aK4 : Exa Z h0 aK4 "com/example/rebalanced/rebalanced/wire/ApiKey") (E_aK5 : Exa Z h0 aK5 "com/example/rebalanced/rebalanced/wire/ApiKey") (E_aK6 : Exa Z h0 aK6 "com/example/rebalanced/rebalanced/wire/ApiKey") (E_aK7 : Exa Z h0 aK7 "com/example/rebalanced/rebalanced/wire/ApiKey") (E_aK8 : Exa Z h0 aK8 "com/example/rebalanced/rebalanced/wire/ApiKey") (E_aK9 : Exa Z h0 aK9 "com/example/rebalanced/rebalanced/wire/ApiKey") (Fm_aK0 : Fld Z h0 aK0 "com/example/rebalanced/rebalanced/wire/ApiKey" "minVersion" "S" (.int (12 : Int32))) (Fx_aK0 : Fld Z h0 aK0 "com/example/rebalanced/rebalanced/wire/ApiKey" "maxVersion" "S" (.int (12 : Int32))) (Fm_aK1 : Fld Z h0 aK1 "com/example/rebalanced/rebalanced/wire/ApiKey" "minVersion" "S" (.int (6 : Int32))) (Fx_aK1 : Fld Z h0 aK1 "com/example/rebalanced/rebalanced/wire/ApiKey" "maxVersion" "S" (.int (7 : Int32))) (Fm_aK2 : Fld Z h0 aK2 "com/example/rebalanced/rebalanced/wire/ApiKey" "minVersion" "S" (.int (4 : Int32))) (Fx_aK2 : Fld Z h0 aK2 "com/example/rebalanced/rebalanced/wire/ApiKey" "maxVersion" "S" (.int (12 : Int32))) (Fm_aK3 : Fld Z h0 aK3 "com/example/rebalanced/rebalanced/wire/ApiKey" "minVersion" "S" (.int (8 : Int32))) (Fx_aK3 : Fld Z h0 aK3 "com/example/rebalanced/rebalanced/wire/ApiKey" "maxVersion" "S" (.int (10 : Int32))) (Fm_aK4 : Fld Z h0 aK4 "com/example/rebalanced/rebalanced/wire/ApiKey" "minVersion" "S" (.int (8 : Int32))) (Fx_aK4 : Fld Z h0 aK4 "com/example/rebalanced/rebalanced/wire/ApiKey" "maxVersion" "S" (.int (10 : Int32))) (Fm_aK5 : Fld Z h0 aK5 "com/example/rebalanced/rebalanced/wire/ApiKey" "minVersion" "S" (.int (0 : Int32))) (Fx_aK5 : Fld Z h0 aK5 "com/example/rebalanced/rebalanced/wire/ApiKey" "maxVersion" "S" (.int (6 : Int32))) (Fm_aK6 : Fld Z h0 aK6 "com/example/rebalanced/rebalanced/wire/ApiKey" "minVersion" "S" (.int (0 : Int32))) (Fx_aK6 : Fld Z h0 aK6 "com/example/rebalanced/rebalanced/wire/ApiKey" "maxVersion" "S" (.int (5 : Int32))) (Fm_aK7 : Fld Z h0 aK7 "com/example/rebalanced/rebalanced/wire/ApiKey" "minVersion" "S" (.int (0 : Int32))) (Fx_aK7 : Fld Z h0 aK7 "com/example/rebalanced/rebalanced/wire/ApiKey" "maxVersion" "S" (.int (4 : Int32))) (Fm_aK8 : Fld Z h0 aK8 "com/example/rebalanced/rebalanced/wire/ApiKey" "minVersion" "S" (.int (0 : Int32))) (Fx_aK8 : Fld Z h0 aK8 "com/example/rebalanced/rebalanced/wire/ApiKey" "maxVersion" "S" (.int (1 : Int32))) (Fm_aK9 : Fld Z h0 aK9 "com/example/rebalanced/rebalanced/wire/ApiKey" "minVersion" "S" (.int (0 : Int32))) (Fx_aK9 : Fld Z h0 aK9 "com/example/rebalanced/rebalanced/wire/ApiKey" "maxVersion" "S" (.int (1 : Int32))) :
    MetFree l x (head1 (Jvm.Cond.code x code maxLocals ret :: ws) room_1) (fun a U => a = #[(.int p1), (.int p2), (.int p3)] ∧ Z.Warmed39 U.vm ∧ U.heap = h0) (fun _ _ _ _ _ => True) (fun _ U o U' => ∃ v L, o = .returned v ∧ Q0 Z p1 p2 p3 aK0 aK1 aK2 aK3 aK4 aK5 aK6 aK7 aK8 aK9 h0 n0 v U'.heap L ∧ FrameEnd U o U' L room_1.cells room_1.slots) := by
  refine MetFree.of_bodySF (plainFor_of_name pn_1) hisR ?_
  intro p e s m args below meth c s₁ Bd hml0 hP hK
  obtain ⟨rfl, hZ, hh⟩ := hP
  have hx := Bd.exec
  have hby := Bd.bytes
  have hml : c.maxLocals = 10 := hml0
  have hown : s.vm.findClass "com/example/rebalanced/rebalanced/wire/ApiKeyServesPinLaw" = some m.cls := findClass_of_methodNamed Bd.named
  have hnm := (name_of_methodNamed Bd.named Bd.method).1
  have X0 : Stand p l e room_1 s m #[(.int p1), (.int p2), (.int p3)] below meth c s₁ [] 0 0 := Stand.of_body Bd
  have e0 : s₁.heap = h0 := by rw [← hh, Bd.state]; rfl
  have N0 := Fr.nil n0
  change own_Go p e below (Q0 Z p1 p2 p3 aK0 aK1 aK2 aK3 aK4 aK5 aK6 aK7 aK8 aK9 h0 n0) (own_Fr s room_1.cells room_1.slots) (s₁.setTop (entryFrame m #[(.int p1), (.int p2), (.int p3)] maxLocals))
  rw [ef_0 m p1 p2 p3]
  have rp1 := rng32 p1
  have rp2 := rng32 p2
  have rp3 := rng32 p3
  have cutB : ∀ (T_cutB : State), Stand p l e room_1 s m #[(.int p1), (.int p2), (.int p3)] below meth c T_cutB [] 0 0 → T_cutB.heap = h0 → ∀ (k3 : Int32) (m7 : Int32) (lo : Int32) (hi : Int32) (vv : Int32) (ap : Addr), (Exa Z h0 ap "com/example/rebalanced/rebalanced/wire/ApiKey") → (Fld Z h0 ap "com/example/rebalanced/rebalanced/wire/ApiKey" "minVersion" "S" (.int lo)) → (Fld Z h0 ap "com/example/rebalanced/rebalanced/wire/ApiKey" "maxVersion" "S" (.int hi)) → own_Go p e below (Q0 Z p1 p2 p3 aK0 aK1 aK2 aK3 aK4 aK5 aK6 aK7 aK8 aK9 h0 n0) (own_Fr s room_1.cells room_1.slots) (T_cutB.setTop (mkF m 298 #[.val (.int p1), .val (.int p2), .val (.int p3), .val (.int k3), .val (.ref ap), .val (.int lo), .val (.int hi), .val (.int m7), .val (.int vv), .unset] [])) := by
    intro T_cutB X_cutB e_cutB k3 m7 lo hi vv ap Ea F1 F2
    have rk3 := rng32 k3
    have rm7 := rng32 m7
    have rlo := rng32 lo
    have rhi := rng32 hi
    have rvv := rng32 vv
    refine own_iload (pc' := 300) X_cutB hx rfl (hb hby at_298) rfl ?_
    refine own_iload (pc' := 302) X_cutB hx rfl (hb hby at_300) rfl ?_
    by_cases b1 : vv.toInt < lo.toInt
    · refine own_icmpYes (pc' := 316) X_cutB hx (hb hby at_302) (own_yes_gt rfl rfl b1) (by decide) (by decide) ?_
      refine own_iconst (pc' := 317) X_cutB hx (0 : Int32) (by decide) (hb hby at_316) rfl ?_
      refine own_istore (pc' := 319) X_cutB hx #[.val (.int p1), .val (.int p2), .val (.int p3), .val (.int k3), .val (.ref ap), .val (.int lo), .val (.int hi), .val (.int m7), .val (.int vv), .val (.int (0 : Int32))] rfl (hb hby at_317) rfl ?_
      refine own_aload (pc' := 321) X_cutB hx rfl rfl (hb hby at_319) rfl ?_
      refine own_iload (pc' := 323) X_cutB hx rfl (hb hby at_321) rfl ?_
      obtain ⟨cq2, kq2, q2a, q2b, q2c⟩ := isOf hZ e_cutB Ea
      obtain ⟨_, _, ⟨T2, L2, k2, n2⟩, -, X2, ⟨Lc2, hQ2, l2, y2, z2⟩, st2⟩ := X_cutB.virtualBack hx (y := (⟨"com/example/rebalanced/rebalanced/wire/ApiKey", "serves", "(S)Z"⟩ : MethodName)) (z := (⟨"com/example/rebalanced/rebalanced/wire/ApiKey", "serves", "(S)Z"⟩ : MethodName)) hown (mvT hZ (hw _ (List.mem_of_getElem? (i := 4) rfl))) (mvT hZ (hw _ (List.mem_of_getElem? (i := 5) rfl))) (notFace_of_selects (args := #[]) (mvT hZ (hw _ (List.mem_of_getElem? (i := 7) rfl)))) (mvT hZ (hw _ (List.mem_of_getElem? (i := 7) rfl))) (mvT hZ (hw _ (List.mem_of_getElem? (i := 6) rfl))) (by decide) (backOf (W := 0) (rm1 l Z a0 hw [] ap vv lo hi h0 n0 Z0 F1 F2) hZ (hw _ (List.mem_of_getElem? (i := 8) rfl)) (hw _ (List.mem_of_getElem? (i := 2) rfl)) (by decide) (by decide)) q2a q2c (g := (mkF m 323 #[.val (.int p1), .val (.int p2), .val (.int p3), .val (.int k3), .val (.ref ap), .val (.int lo), .val (.int hi), .val (.int m7), .val (.int vv), .val (.int (0 : Int32))] [(.int vv), (.ref ap)])) rfl (by rw [hml]; rfl) (Steps.refl _) (argsL := [(.int vv)]) (rest := []) (lenOf pd_0 rfl) rfl (by show 2 * 0 + _ ≤ _; exact Nat.le_of_eq rfl) (hb hby at_323) (fun _ _ => ⟨rfl, e_cutB, (by decide : 0 + 0 ≤ _), (by decide : 0 + 0 ≤ _)⟩)
      dsimp only [Pt.U, Pt.locs, Pt.cells, Pt.slots] at X2 l2 y2 z2 st2 hQ2
      subst l2 y2 z2
      obtain ⟨o2, rfl, pp2, N2, e2⟩ := hQ2
      have ro2 := rng32 o2
      have N2a := Fr.app N0 N2
      refine own_via st2 ?_
      show own_Go p e below (Q0 Z p1 p2 p3 aK0 aK1 aK2 aK3 aK4 aK5 aK6 aK7 aK8 aK9 h0 n0) (own_Fr s room_1.cells room_1.slots) (T2.setTop (mkF m 326 #[.val (.int p1), .val (.int p2), .val (.int p3), .val (.int k3), .val (.ref ap), .val (.int lo), .val (.int hi), .val (.int m7), .val (.int vv), .val (.int (0 : Int32))] [(.int o2)]))
      refine own_iload (pc' := 328) X2 hx rfl (hb hby at_326) rfl ?_
      have b3 : o2.toInt = 0 := by omega
      refine own_icmpNo (pc' := 331) X2 hx (own_no_ne rfl (by decide) b3) (hb hby at_328) rfl ?_
      refine own_iconst (pc' := 332) X2 hx (1 : Int32) (by decide) (hb hby at_331) rfl ?_
      refine own_goto (pc' := 336) X2 hx (hb hby at_332) (by decide) (by decide) ?_
      refine own_ret X2 hx Bd.returns Bd.notSynchronized (Or.inl ⟨rfl, by simp, _, rfl⟩) (hb hby at_336) rfl (by decide) (by decide) ?_
      show Q0 Z p1 p2 p3 aK0 aK1 aK2 aK3 aK4 aK5 aK6 aK7 aK8 aK9 h0 n0 _ T2.heap _
      rw [e2]
      exact ⟨rfl, N2a⟩
    · refine own_icmpNo (pc' := 305) X_cutB hx (own_no_gt rfl rfl b1) (hb hby at_302) rfl ?_
      refine own_iload (pc' := 307) X_cutB hx rfl (hb hby at_305) rfl ?_
      refine own_iload (pc' := 309) X_cutB hx rfl (hb hby at_307) rfl ?_
      by_cases b4 : hi.toInt < vv.toInt
      · refine own_icmpYes (pc' := 316) X_cutB hx (hb hby at_309) (own_yes_gt rfl rfl b4) (by decide) (by decide) ?_
        refine own_iconst (pc' := 317) X_cutB hx (0 : Int32) (by decide) (hb hby at_316) rfl ?_
        refine own_istore (pc' := 319) X_cutB hx #[.val (.int p1), .val (.int p2), .val (.int p3), .val (.int k3), .val (.ref ap), .val (.int lo), .val (.int hi), .val (.int m7), .val (.int vv), .val (.int (0 : Int32))] rfl (hb hby at_317) rfl ?_
        refine own_aload (pc' := 321) X_cutB hx rfl rfl (hb hby at_319) rfl ?_
        refine own_iload (pc' := 323) X_cutB hx rfl (hb hby at_321) rfl ?_
        obtain ⟨cq5, kq5, q5a, q5b, q5c⟩ := isOf hZ e_cutB Ea
        obtain ⟨_, _, ⟨T5, L5, k5, n5⟩, -, X5, ⟨Lc5, hQ5, l5, y5, z5⟩, st5⟩ := X_cutB.virtualBack hx (y := (⟨"com/example/rebalanced/rebalanced/wire/ApiKey", "serves", "(S)Z"⟩ : MethodName)) (z := (⟨"com/example/rebalanced/rebalanced/wire/ApiKey", "serves", "(S)Z"⟩ : MethodName)) hown (mvT hZ (hw _ (List.mem_of_getElem? (i := 4) rfl))) (mvT hZ (hw _ (List.mem_of_getElem? (i := 5) rfl))) (notFace_of_selects (args := #[]) (mvT hZ (hw _ (List.mem_of_getElem? (i := 7) rfl)))) (mvT hZ (hw _ (List.mem_of_getElem? (i := 7) rfl))) (mvT hZ (hw _ (List.mem_of_getElem? (i := 6) rfl))) (by decide) (backOf (W := 0) (rm1 l Z a0 hw [] ap vv lo hi h0 n0 Z0 F1 F2) hZ (hw _ (List.mem_of_getElem? (i := 8) rfl)) (hw _ (List.mem_of_getElem? (i := 2) rfl)) (by decide) (by decide)) q5a q5c (g := (mkF m 323 #[.val (.int p1), .val (.int p2), .val (.int p3), .val (.int k3), .val (.ref ap), .val (.int lo), .val (.int hi), .val (.int m7), .val (.int vv), .val (.int (0 : Int32))] [(.int vv), (.ref ap)])) rfl (by rw [hml]; rfl) (Steps.refl _) (argsL := [(.int vv)]) (rest := []) (lenOf pd_0 rfl) rfl (by show 2 * 0 + _ ≤ _; exact Nat.le_of_eq rfl) (hb hby at_323) (fun _ _ => ⟨rfl, e_cutB, (by decide : 0 + 0 ≤ _), (by decide : 0 + 0 ≤ _)⟩)
        dsimp only [Pt.U, Pt.locs, Pt.cells, Pt.slots] at X5 l5 y5 z5 st5 hQ5
        subst l5 y5 z5
        obtain ⟨o5, rfl, pp5, N5, e5⟩ := hQ5
        have ro5 := rng32 o5
        have N5a := Fr.app N0 N5
        refine own_via st5 ?_
        show own_Go p e below (Q0 Z p1 p2 p3 aK0 aK1 aK2 aK3 aK4 aK5 aK6 aK7 aK8 aK9 h0 n0) (own_Fr s room_1.cells room_1.slots) (T5.setTop (mkF m 326 #[.val (.int p1), .val (.int p2), .val (.int p3), .val (.int k3), .val (.ref ap), .val (.int lo), .val (.int hi), .val (.int m7), .val (.int vv), .val (.int (0 : Int32))] [(.int o5)]))
        refine own_iload (pc' := 328) X5 hx rfl (hb hby at_326) rfl ?_
        have b6 : o5.toInt = 0 := by omega
        refine own_icmpNo (pc' := 331) X5 hx (own_no_ne rfl (by decide) b6) (hb hby at_328) rfl ?_
        refine own_iconst (pc' := 332) X5 hx (1 : Int32) (by decide) (hb hby at_331) rfl ?_
        refine own_goto (pc' := 336) X5 hx (hb hby at_332) (by decide) (by decide) ?_
        refine own_ret X5 hx Bd.returns Bd.notSynchronized (Or.inl ⟨rfl, by simp, _, rfl⟩) (hb hby at_336) rfl (by decide) (by decide) ?_
        show Q0 Z p1 p2 p3 aK0 aK1 aK2 aK3 aK4 aK5 aK6 aK7 aK8 aK9 h0 n0 _ T5.heap _
        rw [e5]
        exact ⟨rfl, N5a⟩
      · refine own_icmpNo (pc' := 312) X_cutB hx (own_no_gt rfl rfl b4) (hb hby at_309) rfl ?_
        refine own_iconst (pc' := 313) X_cutB hx (1 : Int32) (by decide) (hb hby at_312) rfl ?_
        refine own_goto (pc' := 317) X_cutB hx (hb hby at_313) (by decide) (by decide) ?_
        refine own_istore (pc' := 319) X_cutB hx #[.val (.int p1), .val (.int p2), .val (.int p3), .val (.int k3), .val (.ref ap), .val (.int lo), .val (.int hi), .val (.int m7), .val (.int vv), .val (.int (1 : Int32))] rfl (hb hby at_317) rfl ?_
        refine own_aload (pc' := 321) X_cutB hx rfl rfl (hb hby at_319) rfl ?_
        refine own_iload (pc' := 323) X_cutB hx rfl (hb hby at_321) rfl ?_
        obtain ⟨cq7, kq7, q7a, q7b, q7c⟩ := isOf hZ e_cutB Ea
        obtain ⟨_, _, ⟨T7, L7, k7, n7⟩, -, X7, ⟨Lc7, hQ7, l7, y7, z7⟩, st7⟩ := X_cutB.virtualBack hx (y := (⟨"com/example/rebalanced/rebalanced/wire/ApiKey", "serves", "(S)Z"⟩ : MethodName)) (z := (⟨"com/example/rebalanced/rebalanced/wire/ApiKey", "serves", "(S)Z"⟩ : MethodName)) hown (mvT hZ (hw _ (List.mem_of_getElem? (i := 4) rfl))) (mvT hZ (hw _ (List.mem_of_getElem? (i := 5) rfl))) (notFace_of_selects (args := #[]) (mvT hZ (hw _ (List.mem_of_getElem? (i := 7) rfl)))) (mvT hZ (hw _ (List.mem_of_getElem? (i := 7) rfl))) (mvT hZ (hw _ (List.mem_of_getElem? (i := 6) rfl))) (by decide) (backOf (W := 0) (rm1 l Z a0 hw [] ap vv lo hi h0 n0 Z0 F1 F2) hZ (hw _ (List.mem_of_getElem? (i := 8) rfl)) (hw _ (List.mem_of_getElem? (i := 2) rfl)) (by decide) (by decide)) q7a q7c (g := (mkF m 323 #[.val (.int p1), .val (.int p2), .val (.int p3), .val (.int k3), .val (.ref ap), .val (.int lo), .val (.int hi), .val (.int m7), .val (.int vv), .val (.int (1 : Int32))] [(.int vv), (.ref ap)])) rfl (by rw [hml]; rfl) (Steps.refl _) (argsL := [(.int vv)]) (rest := []) (lenOf pd_0 rfl) rfl (by show 2 * 0 + _ ≤ _; exact Nat.le_of_eq rfl) (hb hby at_323) (fun _ _ => ⟨rfl, e_cutB, (by decide : 0 + 0 ≤ _), (by decide : 0 + 0 ≤ _)⟩)
        dsimp only [Pt.U, Pt.locs, Pt.cells, Pt.slots] at X7 l7 y7 z7 st7 hQ7
        subst l7 y7 z7
        obtain ⟨o7, rfl, pp7, N7, e7⟩ := hQ7
        have ro7 := rng32 o7
        have N7a := Fr.app N0 N7
        refine own_via st7 ?_
        show own_Go p e below (Q0 Z p1 p2 p3 aK0 aK1 aK2 aK3 aK4 aK5 aK6 aK7 aK8 aK9 h0 n0) (own_Fr s room_1.cells room_1.slots) (T7.setTop (mkF m 326 #[.val (.int p1), .val (.int p2), .val (.int p3), .val (.int k3), .val (.ref ap), .val (.int lo), .val (.int hi), .val (.int m7), .val (.int vv), .val (.int (1 : Int32))] [(.int o7)]))
        refine own_iload (pc' := 328) X7 hx rfl (hb hby at_326) rfl ?_
        have b8 : o7.toInt = 1 := by omega
        refine own_icmpNo (pc' := 331) X7 hx (own_no_ne rfl (by decide) b8) (hb hby at_328) rfl ?_
        refine own_iconst (pc' := 332) X7 hx (1 : Int32) (by decide) (hb hby at_331) rfl ?_
        refine own_goto (pc' := 336) X7 hx (hb hby at_332) (by decide) (by decide) ?_
        refine own_ret X7 hx Bd.returns Bd.notSynchronized (Or.inl ⟨rfl, by simp, _, rfl⟩) (hb hby at_336) rfl (by decide) (by decide) ?_
        show Q0 Z p1 p2 p3 aK0 aK1 aK2 aK3 aK4 aK5 aK6 aK7 aK8 aK9 h0 n0 _ T7.heap _
        rw [e7]
        exact ⟨rfl, N7a⟩
  have cutA : ∀ (T_cutA : State), Stand p l e room_1 s m #[(.int p1), (.int p2), (.int p3)] below meth c T_cutA [] 0 0 → T_cutA.heap = h0 → ∀ (k3 : Int32) (lo : Int32) (hi : Int32) (ap : Addr), (Exa Z h0 ap "com/example/rebalanced/rebalanced/wire/ApiKey") → (Fld Z h0 ap "com/example/rebalanced/rebalanced/wire/ApiKey" "minVersion" "S" (.int lo)) → (Fld Z h0 ap "com/example/rebalanced/rebalanced/wire/ApiKey" "maxVersion" "S" (.int hi)) → (0 ≤ lo.toInt ∧ lo.toInt ≤ hi.toInt ∧ hi.toInt ≤ 12) → own_Go p e below (Q0 Z p1 p2 p3 aK0 aK1 aK2 aK3 aK4 aK5 aK6 aK7 aK8 aK9 h0 n0) (own_Fr s room_1.cells room_1.slots) (T_cutA.setTop (mkF m 202 #[.val (.int p1), .val (.int p2), .val (.int p3), .val (.int k3), .val (.ref ap), .val (.int lo), .val (.int hi), .unset, .unset, .unset] [])) := by
    intro T_cutA X_cutA e_cutA k3 lo hi ap Ea F1 F2 hl
    have rk3 := rng32 k3
    have rlo := rng32 lo
    have rhi := rng32 hi
    refine own_iloadN (pc' := 203) X_cutA hx rfl (hb hby at_202) rfl ?_
    refine own_bipush (pc' := 205) X_cutA hx (7 : Int32) (by decide) (hb hby at_203) rfl ?_
    obtain ⟨v9, hv9⟩ : ∃ z, p2 &&& (7 : Int32) = z := ⟨_, rfl⟩
    have f10 : v9.toInt = p2.toInt % 8 := by rw [← hv9]; exact c_mask p2 (7 : Int32) 3 (by decide) (by decide)
    refine own_iand (pc' := 206) X_cutA hx (z := v9) hv9 (hb hby at_205) rfl ?_
    refine own_istore (pc' := 208) X_cutA hx #[.val (.int p1), .val (.int p2), .val (.int p3), .val (.int k3), .val (.ref ap), .val (.int lo), .val (.int hi), .val (.int v9), .unset, .unset] rfl (hb hby at_206) rfl ?_
    refine own_iload (pc' := 210) X_cutA hx rfl (hb hby at_208) rfl ?_
    by_cases b11 : v9.toInt = 0
    · refine own_ifNo (pc' := 213) X_cutA hx (own_z (own_no_ne rfl (by decide) b11)) (hb hby at_210) rfl ?_
      refine own_iload (pc' := 215) X_cutA hx rfl (hb hby at_213) rfl ?_
      refine own_iconst (pc' := 216) X_cutA hx (1 : Int32) (by decide) (hb hby at_215) rfl ?_
      obtain ⟨v12, hv12⟩ : ∃ z, lo - (1 : Int32) = z := ⟨_, rfl⟩
      have f13 : (v12.toInt - (lo.toInt - 1)) % 4294967296 = 0 := by rw [← hv12]; exact c_isub lo (1 : Int32)
      have rv12 := rng32 v12
      replace f13 : v12.toInt = lo.toInt - 1 := by omega
      refine own_isub (pc' := 217) X_cutA hx (z := v12) hv12 (hb hby at_216) rfl ?_
      obtain ⟨v14, hv14⟩ : ∃ z, v12.toInt16.toInt32 = z := ⟨_, rfl⟩
      have f15 : (v14.toInt - v12.toInt) % 65536 = 0 ∧ -32768 ≤ v14.toInt ∧ v14.toInt < 32768 := by rw [← hv14]; exact c_i2s v12
      replace f15 : v14.toInt = v12.toInt := by omega
      refine own_i2s (pc' := 218) X_cutA hx (z := v14) hv14 (hb hby at_217) rfl ?_
      refine own_istore (pc' := 220) X_cutA hx #[.val (.int p1), .val (.int p2), .val (.int p3), .val (.int k3), .val (.ref ap), .val (.int lo), .val (.int hi), .val (.int v9), .val (.int v14), .unset] rfl (hb hby at_218) rfl ?_
      refine own_goto (pc' := 298) X_cutA hx (hb hby at_220) (by decide) (by decide) ?_
      exact cutB T_cutA X_cutA e_cutA k3 v9 lo hi v14 ap Ea F1 F2
    · refine own_ifYes (pc' := 223) X_cutA hx (hb hby at_210) (own_z (own_yes_ne rfl (by decide) b11)) (by decide) (by decide) ?_
      refine own_iload (pc' := 225) X_cutA hx rfl (hb hby at_223) rfl ?_
      refine own_iconst (pc' := 226) X_cutA hx (1 : Int32) (by decide) (hb hby at_225) rfl ?_
      by_cases b16 : v9.toInt = 1
      · refine own_icmpNo (pc' := 229) X_cutA hx (own_no_ne rfl (by decide) b16) (hb hby at_226) rfl ?_
        refine own_iload (pc' := 231) X_cutA hx rfl (hb hby at_229) rfl ?_
        obtain ⟨v17, hv17⟩ : ∃ z, lo.toInt16.toInt32 = z := ⟨_, rfl⟩
        have f18 : (v17.toInt - lo.toInt) % 65536 = 0 ∧ -32768 ≤ v17.toInt ∧ v17.toInt < 32768 := by rw [← hv17]; exact c_i2s lo
        replace f18 : v17.toInt = lo.toInt := by omega
        refine own_i2s (pc' := 232) X_cutA hx (z := v17) hv17 (hb hby at_231) rfl ?_
        refine own_istore (pc' := 234) X_cutA hx #[.val (.int p1), .val (.int p2), .val (.int p3), .val (.int k3), .val (.ref ap), .val (.int lo), .val (.int hi), .val (.int v9), .val (.int v17), .unset] rfl (hb hby at_232) rfl ?_
        refine own_goto (pc' := 298) X_cutA hx (hb hby at_234) (by decide) (by decide) ?_
        exact cutB T_cutA X_cutA e_cutA k3 v9 lo hi v17 ap Ea F1 F2
      · refine own_icmpYes (pc' := 237) X_cutA hx (hb hby at_226) (own_yes_ne rfl (by decide) b16) (by decide) (by decide) ?_
        refine own_iload (pc' := 239) X_cutA hx rfl (hb hby at_237) rfl ?_
        refine own_iconst (pc' := 240) X_cutA hx (2 : Int32) (by decide) (hb hby at_239) rfl ?_
        by_cases b19 : v9.toInt = 2
        · refine own_icmpNo (pc' := 243) X_cutA hx (own_no_ne rfl (by decide) b19) (hb hby at_240) rfl ?_
          refine own_iload (pc' := 245) X_cutA hx rfl (hb hby at_243) rfl ?_
          obtain ⟨v20, hv20⟩ : ∃ z, hi.toInt16.toInt32 = z := ⟨_, rfl⟩
          have f21 : (v20.toInt - hi.toInt) % 65536 = 0 ∧ -32768 ≤ v20.toInt ∧ v20.toInt < 32768 := by rw [← hv20]; exact c_i2s hi
          replace f21 : v20.toInt = hi.toInt := by omega
          refine own_i2s (pc' := 246) X_cutA hx (z := v20) hv20 (hb hby at_245) rfl ?_
          refine own_istore (pc' := 248) X_cutA hx #[.val (.int p1), .val (.int p2), .val (.int p3), .val (.int k3), .val (.ref ap), .val (.int lo), .val (.int hi), .val (.int v9), .val (.int v20), .unset] rfl (hb hby at_246) rfl ?_
          refine own_goto (pc' := 298) X_cutA hx (hb hby at_248) (by decide) (by decide) ?_
          exact cutB T_cutA X_cutA e_cutA k3 v9 lo hi v20 ap Ea F1 F2
        · refine own_icmpYes (pc' := 251) X_cutA hx (hb hby at_240) (own_yes_ne rfl (by decide) b19) (by decide) (by decide) ?_
          refine own_iload (pc' := 253) X_cutA hx rfl (hb hby at_251) rfl ?_
          refine own_iconst (pc' := 254) X_cutA hx (3 : Int32) (by decide) (hb hby at_253) rfl ?_
          by_cases b22 : v9.toInt = 3
          · refine own_icmpNo (pc' := 257) X_cutA hx (own_no_ne rfl (by decide) b22) (hb hby at_254) rfl ?_
            refine own_iload (pc' := 259) X_cutA hx rfl (hb hby at_257) rfl ?_
            refine own_iconst (pc' := 260) X_cutA hx (1 : Int32) (by decide) (hb hby at_259) rfl ?_
            obtain ⟨v23, hv23⟩ : ∃ z, hi + (1 : Int32) = z := ⟨_, rfl⟩
            have f24 : (v23.toInt - (hi.toInt + 1)) % 4294967296 = 0 := by rw [← hv23]; exact c_iadd hi (1 : Int32)
            have rv23 := rng32 v23
            replace f24 : v23.toInt = hi.toInt + 1 := by omega
            refine own_iadd (pc' := 261) X_cutA hx (z := v23) hv23 (hb hby at_260) rfl ?_
            obtain ⟨v25, hv25⟩ : ∃ z, v23.toInt16.toInt32 = z := ⟨_, rfl⟩
            have f26 : (v25.toInt - v23.toInt) % 65536 = 0 ∧ -32768 ≤ v25.toInt ∧ v25.toInt < 32768 := by rw [← hv25]; exact c_i2s v23
            replace f26 : v25.toInt = v23.toInt := by omega
            refine own_i2s (pc' := 262) X_cutA hx (z := v25) hv25 (hb hby at_261) rfl ?_
            refine own_istore (pc' := 264) X_cutA hx #[.val (.int p1), .val (.int p2), .val (.int p3), .val (.int k3), .val (.ref ap), .val (.int lo), .val (.int hi), .val (.int v9), .val (.int v25), .unset] rfl (hb hby at_262) rfl ?_
            refine own_goto (pc' := 298) X_cutA hx (hb hby at_264) (by decide) (by decide) ?_
            exact cutB T_cutA X_cutA e_cutA k3 v9 lo hi v25 ap Ea F1 F2
          · refine own_icmpYes (pc' := 267) X_cutA hx (hb hby at_254) (own_yes_ne rfl (by decide) b22) (by decide) (by decide) ?_
            refine own_iload (pc' := 269) X_cutA hx rfl (hb hby at_267) rfl ?_
            refine own_iconst (pc' := 270) X_cutA hx (4 : Int32) (by decide) (hb hby at_269) rfl ?_
            by_cases b27 : v9.toInt = 4
            · refine own_icmpNo (pc' := 273) X_cutA hx (own_no_ne rfl (by decide) b27) (hb hby at_270) rfl ?_
              refine own_iload (pc' := 275) X_cutA hx rfl (hb hby at_273) rfl ?_
              refine own_iloadN (pc' := 276) X_cutA hx rfl (hb hby at_275) rfl ?_
              refine own_ldcInt (pc' := 278) X_cutA hx hZ hown (hw _ (List.mem_of_getElem? (i := 0) rfl)) (hb hby at_276) rfl ?_
              obtain ⟨v28, hv28⟩ : ∃ z, p3 &&& (2147483647 : Int32) = z := ⟨_, rfl⟩
              have f29 : v28.toInt = p3.toInt % 2147483648 := by rw [← hv28]; exact c_mask p3 (2147483647 : Int32) 31 (by decide) (by decide)
              refine own_iand (pc' := 279) X_cutA hx (z := v28) hv28 (hb hby at_278) rfl ?_
              refine own_iload (pc' := 281) X_cutA hx rfl (hb hby at_279) rfl ?_
              refine own_iload (pc' := 283) X_cutA hx rfl (hb hby at_281) rfl ?_
              obtain ⟨v30, hv30⟩ : ∃ z, hi - lo = z := ⟨_, rfl⟩
              have f31 : (v30.toInt - (hi.toInt - lo.toInt)) % 4294967296 = 0 := by rw [← hv30]; exact c_isub hi lo
              have rv30 := rng32 v30
              replace f31 : v30.toInt = hi.toInt - lo.toInt := by omega
              refine own_isub (pc' := 284) X_cutA hx (z := v30) hv30 (hb hby at_283) rfl ?_
              refine own_iconst (pc' := 285) X_cutA hx (1 : Int32) (by decide) (hb hby at_284) rfl ?_
              obtain ⟨v32, hv32⟩ : ∃ z, v30 + (1 : Int32) = z := ⟨_, rfl⟩
              have f33 : (v32.toInt - (v30.toInt + 1)) % 4294967296 = 0 := by rw [← hv32]; exact c_iadd v30 (1 : Int32)
              have rv32 := rng32 v32
              replace f33 : v32.toInt = v30.toInt + 1 := by omega
              refine own_iadd (pc' := 286) X_cutA hx (z := v32) hv32 (hb hby at_285) rfl ?_
              obtain ⟨v34, hv34⟩ : ∃ z, v28 % v32 = z := ⟨_, rfl⟩
              have q35 := (c_iremV v28 v32).1 (by omega) (by omega)
              rw [hv34] at q35
              replace q35 : 0 ≤ v34.toInt ∧ v34.toInt < v32.toInt ∧ v34.toInt ≤ v28.toInt := ⟨q35.1, q35.2.1, q35.2.2.1⟩
              refine own_irem (pc' := 287) X_cutA hx (z := v34) (own_ne0 rfl (by omega)) hv34 (hb hby at_286) rfl ?_
              obtain ⟨v36, hv36⟩ : ∃ z, lo + v34 = z := ⟨_, rfl⟩
              have f37 : (v36.toInt - (lo.toInt + v34.toInt)) % 4294967296 = 0 := by rw [← hv36]; exact c_iadd lo v34
              have rv36 := rng32 v36
              replace f37 : v36.toInt = lo.toInt + v34.toInt := by omega
              refine own_iadd (pc' := 288) X_cutA hx (z := v36) hv36 (hb hby at_287) rfl ?_
              obtain ⟨v38, hv38⟩ : ∃ z, v36.toInt16.toInt32 = z := ⟨_, rfl⟩
              have f39 : (v38.toInt - v36.toInt) % 65536 = 0 ∧ -32768 ≤ v38.toInt ∧ v38.toInt < 32768 := by rw [← hv38]; exact c_i2s v36
              replace f39 : v38.toInt = v36.toInt := by omega
              refine own_i2s (pc' := 289) X_cutA hx (z := v38) hv38 (hb hby at_288) rfl ?_
              refine own_istore (pc' := 291) X_cutA hx #[.val (.int p1), .val (.int p2), .val (.int p3), .val (.int k3), .val (.ref ap), .val (.int lo), .val (.int hi), .val (.int v9), .val (.int v38), .unset] rfl (hb hby at_289) rfl ?_
              refine own_goto (pc' := 298) X_cutA hx (hb hby at_291) (by decide) (by decide) ?_
              exact cutB T_cutA X_cutA e_cutA k3 v9 lo hi v38 ap Ea F1 F2
            · refine own_icmpYes (pc' := 294) X_cutA hx (hb hby at_270) (own_yes_ne rfl (by decide) b27) (by decide) (by decide) ?_
              refine own_iloadN (pc' := 295) X_cutA hx rfl (hb hby at_294) rfl ?_
              obtain ⟨v40, hv40⟩ : ∃ z, p3.toInt16.toInt32 = z := ⟨_, rfl⟩
              have f41 : (v40.toInt - p3.toInt) % 65536 = 0 ∧ -32768 ≤ v40.toInt ∧ v40.toInt < 32768 := by rw [← hv40]; exact c_i2s p3
              refine own_i2s (pc' := 296) X_cutA hx (z := v40) hv40 (hb hby at_295) rfl ?_
              refine own_istore (pc' := 298) X_cutA hx #[.val (.int p1), .val (.int p2), .val (.int p3), .val (.int k3), .val (.ref ap), .val (.int lo), .val (.int hi), .val (.int v9), .val (.int v40), .unset] rfl (hb hby at_296) rfl ?_
              exact cutB T_cutA X_cutA e_cutA k3 v9 lo hi v40 ap Ea F1 F2
  refine own_iloadN (pc' := 1) X0 hx rfl (hb hby at_0) rfl ?_
  refine own_ldcInt (pc' := 3) X0 hx hZ hown (hw _ (List.mem_of_getElem? (i := 0) rfl)) (hb hby at_1) rfl ?_
  obtain ⟨v42, hv42⟩ : ∃ z, p1 &&& (2147483647 : Int32) = z := ⟨_, rfl⟩
  have f43 : v42.toInt = p1.toInt % 2147483648 := by rw [← hv42]; exact c_mask p1 (2147483647 : Int32) 31 (by decide) (by decide)
  refine own_iand (pc' := 4) X0 hx (z := v42) hv42 (hb hby at_3) rfl ?_
  refine own_bipush (pc' := 6) X0 hx (10 : Int32) (by decide) (hb hby at_4) rfl ?_
  obtain ⟨v44, hv44⟩ : ∃ z, v42 % (10 : Int32) = z := ⟨_, rfl⟩
  have f45 : v44.toInt = v42.toInt % 10 := by rw [← hv44]; exact (c_irem v42 (10 : Int32) 10 (by decide)).1 (by omega)
  refine own_irem (pc' := 7) X0 hx (z := v44) (by decide) hv44 (hb hby at_6) rfl ?_
  refine own_istoreN (pc' := 8) X0 hx #[.val (.int p1), .val (.int p2), .val (.int p3), .val (.int v44), .unset, .unset, .unset, .unset, .unset, .unset] rfl (hb hby at_7) rfl ?_
  refine own_iloadN (pc' := 9) X0 hx rfl (hb hby at_8) rfl ?_
  by_cases b46 : v44.toInt = 0
  · refine own_ifNo (pc' := 12) X0 hx (own_z (own_no_ne rfl (by decide) b46)) (hb hby at_9) rfl ?_
    obtain ⟨T47, X47, e47, st47⟩ := getS X0 hx hZ (host := "") hown (hw _ (List.mem_of_getElem? (i := 1) rfl)) Via.refl e0 S_FETCH (g := (mkF m 12 #[.val (.int p1), .val (.int p2), .val (.int p3), .val (.int v44), .unset, .unset, .unset, .unset, .unset, .unset] [])) rfl (hb hby at_12)
    refine own_by st47 ?_
    show own_Go p e below (Q0 Z p1 p2 p3 aK0 aK1 aK2 aK3 aK4 aK5 aK6 aK7 aK8 aK9 h0 n0) (own_Fr s room_1.cells room_1.slots) (T47.setTop (mkF m 15 #[.val (.int p1), .val (.int p2), .val (.int p3), .val (.int v44), .unset, .unset, .unset, .unset, .unset, .unset] [(.ref aK0)]))
    refine own_astore (pc' := 17) X47 hx #[.val (.int p1), .val (.int p2), .val (.int p3), .val (.int v44), .val (.ref aK0), .unset, .unset, .unset, .unset, .unset] rfl rfl (hb hby at_15) rfl ?_
    refine own_bipush (pc' := 19) X47 hx (12 : Int32) (by decide) (hb hby at_17) rfl ?_
    refine own_istore (pc' := 21) X47 hx #[.val (.int p1), .val (.int p2), .val (.int p3), .val (.int v44), .val (.ref aK0), .val (.int (12 : Int32)), .unset, .unset, .unset, .unset] rfl (hb hby at_19) rfl ?_
    refine own_bipush (pc' := 23) X47 hx (12 : Int32) (by decide) (hb hby at_21) rfl ?_
    refine own_istore (pc' := 25) X47 hx #[.val (.int p1), .val (.int p2), .val (.int p3), .val (.int v44), .val (.ref aK0), .val (.int (12 : Int32)), .val (.int (12 : Int32)), .unset, .unset, .unset] rfl (hb hby at_23) rfl ?_
    refine own_goto (pc' := 202) X47 hx (hb hby at_25) (by decide) (by decide) ?_
    exact cutA T47 X47 e47 v44 (12 : Int32) (12 : Int32) aK0 E_aK0 Fm_aK0 Fx_aK0 (by decide)
  · refine own_ifYes (pc' := 28) X0 hx (hb hby at_9) (own_z (own_yes_ne rfl (by decide) b46)) (by decide) (by decide) ?_
    refine own_iloadN (pc' := 29) X0 hx rfl (hb hby at_28) rfl ?_
    refine own_iconst (pc' := 30) X0 hx (1 : Int32) (by decide) (hb hby at_29) rfl ?_
    by_cases b48 : v44.toInt = 1
    · refine own_icmpNo (pc' := 33) X0 hx (own_no_ne rfl (by decide) b48) (hb hby at_30) rfl ?_
      obtain ⟨T49, X49, e49, st49⟩ := getS X0 hx hZ (host := "") hown (hw _ (List.mem_of_getElem? (i := 13) rfl)) Via.refl e0 S_LIST_OFFSETS (g := (mkF m 33 #[.val (.int p1), .val (.int p2), .val (.int p3), .val (.int v44), .unset, .unset, .unset, .unset, .unset, .unset] [])) rfl (hb hby at_33)
      refine own_by st49 ?_
      show own_Go p e below (Q0 Z p1 p2 p3 aK0 aK1 aK2 aK3 aK4 aK5 aK6 aK7 aK8 aK9 h0 n0) (own_Fr s room_1.cells room_1.slots) (T49.setTop (mkF m 36 #[.val (.int p1), .val (.int p2), .val (.int p3), .val (.int v44), .unset, .unset, .unset, .unset, .unset, .unset] [(.ref aK1)]))
      refine own_astore (pc' := 38) X49 hx #[.val (.int p1), .val (.int p2), .val (.int p3), .val (.int v44), .val (.ref aK1), .unset, .unset, .unset, .unset, .unset] rfl rfl (hb hby at_36) rfl ?_
      refine own_bipush (pc' := 40) X49 hx (6 : Int32) (by decide) (hb hby at_38) rfl ?_
      refine own_istore (pc' := 42) X49 hx #[.val (.int p1), .val (.int p2), .val (.int p3), .val (.int v44), .val (.ref aK1), .val (.int (6 : Int32)), .unset, .unset, .unset, .unset] rfl (hb hby at_40) rfl ?_
      refine own_bipush (pc' := 44) X49 hx (7 : Int32) (by decide) (hb hby at_42) rfl ?_
      refine own_istore (pc' := 46) X49 hx #[.val (.int p1), .val (.int p2), .val (.int p3), .val (.int v44), .val (.ref aK1), .val (.int (6 : Int32)), .val (.int (7 : Int32)), .unset, .unset, .unset] rfl (hb hby at_44) rfl ?_
      refine own_goto (pc' := 202) X49 hx (hb hby at_46) (by decide) (by decide) ?_
      exact cutA T49 X49 e49 v44 (6 : Int32) (7 : Int32) aK1 E_aK1 Fm_aK1 Fx_aK1 (by decide)
    · refine own_icmpYes (pc' := 49) X0 hx (hb hby at_30) (own_yes_ne rfl (by decide) b48) (by decide) (by decide) ?_
      refine own_iloadN (pc' := 50) X0 hx rfl (hb hby at_49) rfl ?_
      refine own_iconst (pc' := 51) X0 hx (2 : Int32) (by decide) (hb hby at_50) rfl ?_
      by_cases b50 : v44.toInt = 2
      · refine own_icmpNo (pc' := 54) X0 hx (own_no_ne rfl (by decide) b50) (hb hby at_51) rfl ?_
        obtain ⟨T51, X51, e51, st51⟩ := getS X0 hx hZ (host := "") hown (hw _ (List.mem_of_getElem? (i := 29) rfl)) Via.refl e0 S_METADATA (g := (mkF m 54 #[.val (.int p1), .val (.int p2), .val (.int p3), .val (.int v44), .unset, .unset, .unset, .unset, .unset, .unset] [])) rfl (hb hby at_54)
        refine own_by st51 ?_
        show own_Go p e below (Q0 Z p1 p2 p3 aK0 aK1 aK2 aK3 aK4 aK5 aK6 aK7 aK8 aK9 h0 n0) (own_Fr s room_1.cells room_1.slots) (T51.setTop (mkF m 57 #[.val (.int p1), .val (.int p2), .val (.int p3), .val (.int v44), .unset, .unset, .unset, .unset, .unset, .unset] [(.ref aK2)]))
        refine own_astore (pc' := 59) X51 hx #[.val (.int p1), .val (.int p2), .val (.int p3), .val (.int v44), .val (.ref aK2), .unset, .unset, .unset, .unset, .unset] rfl rfl (hb hby at_57) rfl ?_
        refine own_iconst (pc' := 60) X51 hx (4 : Int32) (by decide) (hb hby at_59) rfl ?_
        refine own_istore (pc' := 62) X51 hx #[.val (.int p1), .val (.int p2), .val (.int p3), .val (.int v44), .val (.ref aK2), .val (.int (4 : Int32)), .unset, .unset, .unset, .unset] rfl (hb hby at_60) rfl ?_
        refine own_bipush (pc' := 64) X51 hx (12 : Int32) (by decide) (hb hby at_62) rfl ?_
        refine own_istore (pc' := 66) X51 hx #[.val (.int p1), .val (.int p2), .val (.int p3), .val (.int v44), .val (.ref aK2), .val (.int (4 : Int32)), .val (.int (12 : Int32)), .unset, .unset, .unset] rfl (hb hby at_64) rfl ?_
        refine own_goto (pc' := 202) X51 hx (hb hby at_66) (by decide) (by decide) ?_
        exact cutA T51 X51 e51 v44 (4 : Int32) (12 : Int32) aK2 E_aK2 Fm_aK2 Fx_aK2 (by decide)
      · refine own_icmpYes (pc' := 69) X0 hx (hb hby at_51) (own_yes_ne rfl (by decide) b50) (by decide) (by decide) ?_
        refine own_iloadN (pc' := 70) X0 hx rfl (hb hby at_69) rfl ?_
        refine own_iconst (pc' := 71) X0 hx (3 : Int32) (by decide) (hb hby at_70) rfl ?_
        by_cases b52 : v44.toInt = 3
        · refine own_icmpNo (pc' := 74) X0 hx (own_no_ne rfl (by decide) b52) (hb hby at_71) rfl ?_
          obtain ⟨T53, X53, e53, st53⟩ := getS X0 hx hZ (host := "") hown (hw _ (List.mem_of_getElem? (i := 21) rfl)) Via.refl e0 S_OFFSET_COMMIT (g := (mkF m 74 #[.val (.int p1), .val (.int p2), .val (.int p3), .val (.int v44), .unset, .unset, .unset, .unset, .unset, .unset] [])) rfl (hb hby at_74)
          refine own_by st53 ?_
          show own_Go p e below (Q0 Z p1 p2 p3 aK0 aK1 aK2 aK3 aK4 aK5 aK6 aK7 aK8 aK9 h0 n0) (own_Fr s room_1.cells room_1.slots) (T53.setTop (mkF m 77 #[.val (.int p1), .val (.int p2), .val (.int p3), .val (.int v44), .unset, .unset, .unset, .unset, .unset, .unset] [(.ref aK3)]))
          refine own_astore (pc' := 79) X53 hx #[.val (.int p1), .val (.int p2), .val (.int p3), .val (.int v44), .val (.ref aK3), .unset, .unset, .unset, .unset, .unset] rfl rfl (hb hby at_77) rfl ?_
          refine own_bipush (pc' := 81) X53 hx (8 : Int32) (by decide) (hb hby at_79) rfl ?_
          refine own_istore (pc' := 83) X53 hx #[.val (.int p1), .val (.int p2), .val (.int p3), .val (.int v44), .val (.ref aK3), .val (.int (8 : Int32)), .unset, .unset, .unset, .unset] rfl (hb hby at_81) rfl ?_
          refine own_bipush (pc' := 85) X53 hx (10 : Int32) (by decide) (hb hby at_83) rfl ?_
          refine own_istore (pc' := 87) X53 hx #[.val (.int p1), .val (.int p2), .val (.int p3), .val (.int v44), .val (.ref aK3), .val (.int (8 : Int32)), .val (.int (10 : Int32)), .unset, .unset, .unset] rfl (hb hby at_85) rfl ?_
          refine own_goto (pc' := 202) X53 hx (hb hby at_87) (by decide) (by decide) ?_
          exact cutA T53 X53 e53 v44 (8 : Int32) (10 : Int32) aK3 E_aK3 Fm_aK3 Fx_aK3 (by decide)
        · refine own_icmpYes (pc' := 90) X0 hx (hb hby at_71) (own_yes_ne rfl (by decide) b52) (by decide) (by decide) ?_
          refine own_iloadN (pc' := 91) X0 hx rfl (hb hby at_90) rfl ?_
          refine own_iconst (pc' := 92) X0 hx (4 : Int32) (by decide) (hb hby at_91) rfl ?_
          by_cases b54 : v44.toInt = 4
          · refine own_icmpNo (pc' := 95) X0 hx (own_no_ne rfl (by decide) b54) (hb hby at_92) rfl ?_
            obtain ⟨T55, X55, e55, st55⟩ := getS X0 hx hZ (host := "") hown (hw _ (List.mem_of_getElem? (i := 15) rfl)) Via.refl e0 S_OFFSET_FETCH (g := (mkF m 95 #[.val (.int p1), .val (.int p2), .val (.int p3), .val (.int v44), .unset, .unset, .unset, .unset, .unset, .unset] [])) rfl (hb hby at_95)
            refine own_by st55 ?_
            show own_Go p e below (Q0 Z p1 p2 p3 aK0 aK1 aK2 aK3 aK4 aK5 aK6 aK7 aK8 aK9 h0 n0) (own_Fr s room_1.cells room_1.slots) (T55.setTop (mkF m 98 #[.val (.int p1), .val (.int p2), .val (.int p3), .val (.int v44), .unset, .unset, .unset, .unset, .unset, .unset] [(.ref aK4)]))
            refine own_astore (pc' := 100) X55 hx #[.val (.int p1), .val (.int p2), .val (.int p3), .val (.int v44), .val (.ref aK4), .unset, .unset, .unset, .unset, .unset] rfl rfl (hb hby at_98) rfl ?_
            refine own_bipush (pc' := 102) X55 hx (8 : Int32) (by decide) (hb hby at_100) rfl ?_
            refine own_istore (pc' := 104) X55 hx #[.val (.int p1), .val (.int p2), .val (.int p3), .val (.int v44), .val (.ref aK4), .val (.int (8 : Int32)), .unset, .unset, .unset, .unset] rfl (hb hby at_102) rfl ?_
            refine own_bipush (pc' := 106) X55 hx (10 : Int32) (by decide) (hb hby at_104) rfl ?_
            refine own_istore (pc' := 108) X55 hx #[.val (.int p1), .val (.int p2), .val (.int p3), .val (.int v44), .val (.ref aK4), .val (.int (8 : Int32)), .val (.int (10 : Int32)), .unset, .unset, .unset] rfl (hb hby at_106) rfl ?_
            refine own_goto (pc' := 202) X55 hx (hb hby at_108) (by decide) (by decide) ?_
            exact cutA T55 X55 e55 v44 (8 : Int32) (10 : Int32) aK4 E_aK4 Fm_aK4 Fx_aK4 (by decide)
          · refine own_icmpYes (pc' := 111) X0 hx (hb hby at_92) (own_yes_ne rfl (by decide) b54) (by decide) (by decide) ?_
            refine own_iloadN (pc' := 112) X0 hx rfl (hb hby at_111) rfl ?_
            refine own_iconst (pc' := 113) X0 hx (5 : Int32) (by decide) (hb hby at_112) rfl ?_
            by_cases b56 : v44.toInt = 5
            · refine own_icmpNo (pc' := 116) X0 hx (own_no_ne rfl (by decide) b56) (hb hby at_113) rfl ?_
              obtain ⟨T57, X57, e57, st57⟩ := getS X0 hx hZ (host := "") hown (hw _ (List.mem_of_getElem? (i := 17) rfl)) Via.refl e0 S_FIND_COORDINATOR (g := (mkF m 116 #[.val (.int p1), .val (.int p2), .val (.int p3), .val (.int v44), .unset, .unset, .unset, .unset, .unset, .unset] [])) rfl (hb hby at_116)
              refine own_by st57 ?_
              show own_Go p e below (Q0 Z p1 p2 p3 aK0 aK1 aK2 aK3 aK4 aK5 aK6 aK7 aK8 aK9 h0 n0) (own_Fr s room_1.cells room_1.slots) (T57.setTop (mkF m 119 #[.val (.int p1), .val (.int p2), .val (.int p3), .val (.int v44), .unset, .unset, .unset, .unset, .unset, .unset] [(.ref aK5)]))
              refine own_astore (pc' := 121) X57 hx #[.val (.int p1), .val (.int p2), .val (.int p3), .val (.int v44), .val (.ref aK5), .unset, .unset, .unset, .unset, .unset] rfl rfl (hb hby at_119) rfl ?_
              refine own_iconst (pc' := 122) X57 hx (0 : Int32) (by decide) (hb hby at_121) rfl ?_
              refine own_istore (pc' := 124) X57 hx #[.val (.int p1), .val (.int p2), .val (.int p3), .val (.int v44), .val (.ref aK5), .val (.int (0 : Int32)), .unset, .unset, .unset, .unset] rfl (hb hby at_122) rfl ?_
              refine own_bipush (pc' := 126) X57 hx (6 : Int32) (by decide) (hb hby at_124) rfl ?_
              refine own_istore (pc' := 128) X57 hx #[.val (.int p1), .val (.int p2), .val (.int p3), .val (.int v44), .val (.ref aK5), .val (.int (0 : Int32)), .val (.int (6 : Int32)), .unset, .unset, .unset] rfl (hb hby at_126) rfl ?_
              refine own_goto (pc' := 202) X57 hx (hb hby at_128) (by decide) (by decide) ?_
              exact cutA T57 X57 e57 v44 (0 : Int32) (6 : Int32) aK5 E_aK5 Fm_aK5 Fx_aK5 (by decide)
            · refine own_icmpYes (pc' := 131) X0 hx (hb hby at_113) (own_yes_ne rfl (by decide) b56) (by decide) (by decide) ?_
              refine own_iloadN (pc' := 132) X0 hx rfl (hb hby at_131) rfl ?_
              refine own_bipush (pc' := 134) X0 hx (6 : Int32) (by decide) (hb hby at_132) rfl ?_
              by_cases b58 : v44.toInt = 6
              · refine own_icmpNo (pc' := 137) X0 hx (own_no_ne rfl (by decide) b58) (hb hby at_134) rfl ?_
                obtain ⟨T59, X59, e59, st59⟩ := getS X0 hx hZ (host := "") hown (hw _ (List.mem_of_getElem? (i := 23) rfl)) Via.refl e0 S_LIST_GROUPS (g := (mkF m 137 #[.val (.int p1), .val (.int p2), .val (.int p3), .val (.int v44), .unset, .unset, .unset, .unset, .unset, .unset] [])) rfl (hb hby at_137)
                refine own_by st59 ?_
                show own_Go p e below (Q0 Z p1 p2 p3 aK0 aK1 aK2 aK3 aK4 aK5 aK6 aK7 aK8 aK9 h0 n0) (own_Fr s room_1.cells room_1.slots) (T59.setTop (mkF m 140 #[.val (.int p1), .val (.int p2), .val (.int p3), .val (.int v44), .unset, .unset, .unset, .unset, .unset, .unset] [(.ref aK6)]))
                refine own_astore (pc' := 142) X59 hx #[.val (.int p1), .val (.int p2), .val (.int p3), .val (.int v44), .val (.ref aK6), .unset, .unset, .unset, .unset, .unset] rfl rfl (hb hby at_140) rfl ?_
                refine own_iconst (pc' := 143) X59 hx (0 : Int32) (by decide) (hb hby at_142) rfl ?_
                refine own_istore (pc' := 145) X59 hx #[.val (.int p1), .val (.int p2), .val (.int p3), .val (.int v44), .val (.ref aK6), .val (.int (0 : Int32)), .unset, .unset, .unset, .unset] rfl (hb hby at_143) rfl ?_
                refine own_iconst (pc' := 146) X59 hx (5 : Int32) (by decide) (hb hby at_145) rfl ?_
                refine own_istore (pc' := 148) X59 hx #[.val (.int p1), .val (.int p2), .val (.int p3), .val (.int v44), .val (.ref aK6), .val (.int (0 : Int32)), .val (.int (5 : Int32)), .unset, .unset, .unset] rfl (hb hby at_146) rfl ?_
                refine own_goto (pc' := 202) X59 hx (hb hby at_148) (by decide) (by decide) ?_
                exact cutA T59 X59 e59 v44 (0 : Int32) (5 : Int32) aK6 E_aK6 Fm_aK6 Fx_aK6 (by decide)
              · refine own_icmpYes (pc' := 151) X0 hx (hb hby at_134) (own_yes_ne rfl (by decide) b58) (by decide) (by decide) ?_
                refine own_iloadN (pc' := 152) X0 hx rfl (hb hby at_151) rfl ?_
                refine own_bipush (pc' := 154) X0 hx (7 : Int32) (by decide) (hb hby at_152) rfl ?_
                by_cases b60 : v44.toInt = 7
                · refine own_icmpNo (pc' := 157) X0 hx (own_no_ne rfl (by decide) b60) (hb hby at_154) rfl ?_
                  obtain ⟨T61, X61, e61, st61⟩ := getS X0 hx hZ (host := "") hown (hw _ (List.mem_of_getElem? (i := 25) rfl)) Via.refl e0 S_API_VERSIONS (g := (mkF m 157 #[.val (.int p1), .val (.int p2), .val (.int p3), .val (.int v44), .unset, .unset, .unset, .unset, .unset, .unset] [])) rfl (hb hby at_157)
                  refine own_by st61 ?_
                  show own_Go p e below (Q0 Z p1 p2 p3 aK0 aK1 aK2 aK3 aK4 aK5 aK6 aK7 aK8 aK9 h0 n0) (own_Fr s room_1.cells room_1.slots) (T61.setTop (mkF m 160 #[.val (.int p1), .val (.int p2), .val (.int p3), .val (.int v44), .unset, .unset, .unset, .unset, .unset, .unset] [(.ref aK7)]))
                  refine own_astore (pc' := 162) X61 hx #[.val (.int p1), .val (.int p2), .val (.int p3), .val (.int v44), .val (.ref aK7), .unset, .unset, .unset, .unset, .unset] rfl rfl (hb hby at_160) rfl ?_
                  refine own_iconst (pc' := 163) X61 hx (0 : Int32) (by decide) (hb hby at_162) rfl ?_
                  refine own_istore (pc' := 165) X61 hx #[.val (.int p1), .val (.int p2), .val (.int p3), .val (.int v44), .val (.ref aK7), .val (.int (0 : Int32)), .unset, .unset, .unset, .unset] rfl (hb hby at_163) rfl ?_
                  refine own_iconst (pc' := 166) X61 hx (4 : Int32) (by decide) (hb hby at_165) rfl ?_
                  refine own_istore (pc' := 168) X61 hx #[.val (.int p1), .val (.int p2), .val (.int p3), .val (.int v44), .val (.ref aK7), .val (.int (0 : Int32)), .val (.int (4 : Int32)), .unset, .unset, .unset] rfl (hb hby at_166) rfl ?_
                  refine own_goto (pc' := 202) X61 hx (hb hby at_168) (by decide) (by decide) ?_
                  exact cutA T61 X61 e61 v44 (0 : Int32) (4 : Int32) aK7 E_aK7 Fm_aK7 Fx_aK7 (by decide)
                · refine own_icmpYes (pc' := 171) X0 hx (hb hby at_154) (own_yes_ne rfl (by decide) b60) (by decide) (by decide) ?_
                  refine own_iloadN (pc' := 172) X0 hx rfl (hb hby at_171) rfl ?_
                  refine own_bipush (pc' := 174) X0 hx (8 : Int32) (by decide) (hb hby at_172) rfl ?_
                  by_cases b62 : v44.toInt = 8
                  · refine own_icmpNo (pc' := 177) X0 hx (own_no_ne rfl (by decide) b62) (hb hby at_174) rfl ?_
                    obtain ⟨T63, X63, e63, st63⟩ := getS X0 hx hZ (host := "") hown (hw _ (List.mem_of_getElem? (i := 19) rfl)) Via.refl e0 S_CONSUMER_GROUP_HEARTBEAT (g := (mkF m 177 #[.val (.int p1), .val (.int p2), .val (.int p3), .val (.int v44), .unset, .unset, .unset, .unset, .unset, .unset] [])) rfl (hb hby at_177)
                    refine own_by st63 ?_
                    show own_Go p e below (Q0 Z p1 p2 p3 aK0 aK1 aK2 aK3 aK4 aK5 aK6 aK7 aK8 aK9 h0 n0) (own_Fr s room_1.cells room_1.slots) (T63.setTop (mkF m 180 #[.val (.int p1), .val (.int p2), .val (.int p3), .val (.int v44), .unset, .unset, .unset, .unset, .unset, .unset] [(.ref aK8)]))
                    refine own_astore (pc' := 182) X63 hx #[.val (.int p1), .val (.int p2), .val (.int p3), .val (.int v44), .val (.ref aK8), .unset, .unset, .unset, .unset, .unset] rfl rfl (hb hby at_180) rfl ?_
                    refine own_iconst (pc' := 183) X63 hx (0 : Int32) (by decide) (hb hby at_182) rfl ?_
                    refine own_istore (pc' := 185) X63 hx #[.val (.int p1), .val (.int p2), .val (.int p3), .val (.int v44), .val (.ref aK8), .val (.int (0 : Int32)), .unset, .unset, .unset, .unset] rfl (hb hby at_183) rfl ?_
                    refine own_iconst (pc' := 186) X63 hx (1 : Int32) (by decide) (hb hby at_185) rfl ?_
                    refine own_istore (pc' := 188) X63 hx #[.val (.int p1), .val (.int p2), .val (.int p3), .val (.int v44), .val (.ref aK8), .val (.int (0 : Int32)), .val (.int (1 : Int32)), .unset, .unset, .unset] rfl (hb hby at_186) rfl ?_
                    refine own_goto (pc' := 202) X63 hx (hb hby at_188) (by decide) (by decide) ?_
                    exact cutA T63 X63 e63 v44 (0 : Int32) (1 : Int32) aK8 E_aK8 Fm_aK8 Fx_aK8 (by decide)
                  · refine own_icmpYes (pc' := 191) X0 hx (hb hby at_174) (own_yes_ne rfl (by decide) b62) (by decide) (by decide) ?_
                    obtain ⟨T64, X64, e64, st64⟩ := getS X0 hx hZ (host := "") hown (hw _ (List.mem_of_getElem? (i := 27) rfl)) Via.refl e0 S_CONSUMER_GROUP_DESCRIBE (g := (mkF m 191 #[.val (.int p1), .val (.int p2), .val (.int p3), .val (.int v44), .unset, .unset, .unset, .unset, .unset, .unset] [])) rfl (hb hby at_191)
                    refine own_by st64 ?_
                    show own_Go p e below (Q0 Z p1 p2 p3 aK0 aK1 aK2 aK3 aK4 aK5 aK6 aK7 aK8 aK9 h0 n0) (own_Fr s room_1.cells room_1.slots) (T64.setTop (mkF m 194 #[.val (.int p1), .val (.int p2), .val (.int p3), .val (.int v44), .unset, .unset, .unset, .unset, .unset, .unset] [(.ref aK9)]))
                    refine own_astore (pc' := 196) X64 hx #[.val (.int p1), .val (.int p2), .val (.int p3), .val (.int v44), .val (.ref aK9), .unset, .unset, .unset, .unset, .unset] rfl rfl (hb hby at_194) rfl ?_
                    refine own_iconst (pc' := 197) X64 hx (0 : Int32) (by decide) (hb hby at_196) rfl ?_
                    refine own_istore (pc' := 199) X64 hx #[.val (.int p1), .val (.int p2), .val (.int p3), .val (.int v44), .val (.ref aK9), .val (.int (0 : Int32)), .unset, .unset, .unset, .unset] rfl (hb hby at_197) rfl ?_
                    refine own_iconst (pc' := 200) X64 hx (1 : Int32) (by decide) (hb hby at_199) rfl ?_
                    refine own_istore (pc' := 202) X64 hx #[.val (.int p1), .val (.int p2), .val (.int p3), .val (.int v44), .val (.ref aK9), .val (.int (0 : Int32)), .val (.int (1 : Int32)), .unset, .unset, .unset] rfl (hb hby at_200) rfl ?_
                    exact cutA T64 X64 e64 v44 (0 : Int32) (1 : Int32) aK9 E_aK9 Fm_aK9 Fx_aK9 (by decide)
set_option maxRecDepth 65536 in
set_option maxHeartbeats 40000000 in
theorem comes_1 {Post : Tables → Env → Array Value → State → Outcome → State → Prop} (hpost : ∀ tb e args s v u, (limb_1_1.after args s (.returned v) u = true ∧ limb_1_2.after args s (.returned v) u = true ∧ True) → FrameEnd s (.returned v) u (Jvm.fieldLocs frame_1_writes args s ++ Jvm.arrayLocs frame_1_arrays args s ++ Jvm.staticLocs frame_1_statics s) 0 0 → Post tb e args s (.returned v) u) :
    ArmFor flags0 classFile x code maxLocals ret World_1 tables_1 room_1 Calls_1 rest_1 Pre_1 Post := by
  intro l hfl _ _ p e ha hc hk s m args below hf hA hF happ hP
  obtain ⟨hcalls, hrest, hpre⟩ := hP
  obtain ⟨-, -, -, hnamed, -, -, -, hat⟩ := (Spec.applies_iff hf).mp happ
  obtain ⟨hg, hn⟩ := and_e (Cond.before_iff.mp (show (Jvm.Cond.and given_1 narrow_1).before args s = true from hpre))
  obtain ⟨g0, gr0⟩ := and_e hg
  obtain ⟨g1, gr1⟩ := and_e gr0
  obtain ⟨g2, gr2⟩ := and_e gr1
  obtain ⟨w0, w1, w2, rfl⟩ : ∃ w0 w1 w2 : Value, args = #[w0, w1, w2] := by
    have hs : args.size = 3 := by simpa [Cond.value, given_1] using g0
    obtain ⟨L⟩ := args
    match L, hs with
    | [w0, w1, w2], _ => exact ⟨w0, w1, w2, rfl⟩
  have hw := fun d (hd : d ∈ tables_1) => atoms_spec (ws := Jvm.Cond.code x code maxLocals ret :: tables_1) hat d (List.mem_cons_of_mem _ hd)
  obtain ⟨i0, ev0⟩ := is_v g1
  obtain rfl : w0 = (.int i0) := Option.some.inj ev0
  obtain ⟨i1, ev1⟩ := is_v g2
  obtain rfl : w1 = (.int i1) := Option.some.inj ev1
  obtain ⟨i2, ev2⟩ := is_v gr2
  obtain rfl : w2 = (.int i2) := Option.some.inj ev2
  obtain ⟨x0, y0⟩ := and_e hn
  obtain ⟨x1, y1⟩ := and_e y0
  obtain ⟨x2, y2⟩ := and_e y1
  obtain ⟨x3, y3⟩ := and_e y2
  obtain ⟨x4, y4⟩ := and_e y3
  obtain ⟨x5, y5⟩ := and_e y4
  obtain ⟨x6, y6⟩ := and_e y5
  obtain ⟨x7, y7⟩ := and_e y6
  obtain ⟨x8, y8⟩ := and_e y7
  obtain ⟨x9, y9⟩ := and_e y8
  obtain ⟨x10, y10⟩ := and_e y9
  obtain ⟨x11, y11⟩ := and_e y10
  obtain ⟨x12, y12⟩ := and_e y11
  obtain ⟨x13, y13⟩ := and_e y12
  obtain ⟨x14, y14⟩ := and_e y13
  obtain ⟨x15, y15⟩ := and_e y14
  obtain ⟨x16, y16⟩ := and_e y15
  obtain ⟨x17, y17⟩ := and_e y16
  obtain ⟨x18, y18⟩ := and_e y17
  obtain ⟨x19, y19⟩ := and_e y18
  obtain ⟨x20, y20⟩ := and_e y19
  obtain ⟨x21, y21⟩ := and_e y20
  obtain ⟨x22, y22⟩ := and_e y21
  obtain ⟨x23, y23⟩ := and_e y22
  obtain ⟨x24, y24⟩ := and_e y23
  obtain ⟨x25, y25⟩ := and_e y24
  obtain ⟨x26, y26⟩ := and_e y25
  obtain ⟨x27, y27⟩ := and_e y26
  obtain ⟨x28, y28⟩ := and_e y27
  have x29 := y28
  obtain ⟨aK0, evaK0⟩ := exa_v x0
  have E_aK0 : Exa s s.heap aK0 "com/example/rebalanced/rebalanced/wire/ApiKey" := Exa.start evaK0 x0
  have S_FETCH : Sta s s.heap "com/example/rebalanced/rebalanced/wire/ApiKey" "FETCH" "Lcom/example/rebalanced/rebalanced/wire/ApiKey;" (.ref aK0) := Sta.start evaK0 (Or.inr ⟨(hw _ (List.mem_of_getElem? (i := 2) rfl)), (hw _ (List.mem_of_getElem? (i := 3) rfl))⟩)
  obtain ⟨aK1, evaK1⟩ := exa_v x3
  have E_aK1 : Exa s s.heap aK1 "com/example/rebalanced/rebalanced/wire/ApiKey" := Exa.start evaK1 x3
  have S_LIST_OFFSETS : Sta s s.heap "com/example/rebalanced/rebalanced/wire/ApiKey" "LIST_OFFSETS" "Lcom/example/rebalanced/rebalanced/wire/ApiKey;" (.ref aK1) := Sta.start evaK1 (Or.inr ⟨(hw _ (List.mem_of_getElem? (i := 2) rfl)), (hw _ (List.mem_of_getElem? (i := 14) rfl))⟩)
  obtain ⟨aK4, evaK4⟩ := exa_v x6
  have E_aK4 : Exa s s.heap aK4 "com/example/rebalanced/rebalanced/wire/ApiKey" := Exa.start evaK4 x6
  have S_OFFSET_FETCH : Sta s s.heap "com/example/rebalanced/rebalanced/wire/ApiKey" "OFFSET_FETCH" "Lcom/example/rebalanced/rebalanced/wire/ApiKey;" (.ref aK4) := Sta.start evaK4 (Or.inr ⟨(hw _ (List.mem_of_getElem? (i := 2) rfl)), (hw _ (List.mem_of_getElem? (i := 16) rfl))⟩)
  obtain ⟨aK5, evaK5⟩ := exa_v x9
  have E_aK5 : Exa s s.heap aK5 "com/example/rebalanced/rebalanced/wire/ApiKey" := Exa.start evaK5 x9
  have S_FIND_COORDINATOR : Sta s s.heap "com/example/rebalanced/rebalanced/wire/ApiKey" "FIND_COORDINATOR" "Lcom/example/rebalanced/rebalanced/wire/ApiKey;" (.ref aK5) := Sta.start evaK5 (Or.inr ⟨(hw _ (List.mem_of_getElem? (i := 2) rfl)), (hw _ (List.mem_of_getElem? (i := 18) rfl))⟩)
  obtain ⟨aK8, evaK8⟩ := exa_v x11
  have E_aK8 : Exa s s.heap aK8 "com/example/rebalanced/rebalanced/wire/ApiKey" := Exa.start evaK8 x11
  have S_CONSUMER_GROUP_HEARTBEAT : Sta s s.heap "com/example/rebalanced/rebalanced/wire/ApiKey" "CONSUMER_GROUP_HEARTBEAT" "Lcom/example/rebalanced/rebalanced/wire/ApiKey;" (.ref aK8) := Sta.start evaK8 (Or.inr ⟨(hw _ (List.mem_of_getElem? (i := 2) rfl)), (hw _ (List.mem_of_getElem? (i := 20) rfl))⟩)
  obtain ⟨aK3, evaK3⟩ := exa_v x15
  have E_aK3 : Exa s s.heap aK3 "com/example/rebalanced/rebalanced/wire/ApiKey" := Exa.start evaK3 x15
  have S_OFFSET_COMMIT : Sta s s.heap "com/example/rebalanced/rebalanced/wire/ApiKey" "OFFSET_COMMIT" "Lcom/example/rebalanced/rebalanced/wire/ApiKey;" (.ref aK3) := Sta.start evaK3 (Or.inr ⟨(hw _ (List.mem_of_getElem? (i := 2) rfl)), (hw _ (List.mem_of_getElem? (i := 22) rfl))⟩)
  obtain ⟨aK6, evaK6⟩ := exa_v x17
  have E_aK6 : Exa s s.heap aK6 "com/example/rebalanced/rebalanced/wire/ApiKey" := Exa.start evaK6 x17
  have S_LIST_GROUPS : Sta s s.heap "com/example/rebalanced/rebalanced/wire/ApiKey" "LIST_GROUPS" "Lcom/example/rebalanced/rebalanced/wire/ApiKey;" (.ref aK6) := Sta.start evaK6 (Or.inr ⟨(hw _ (List.mem_of_getElem? (i := 2) rfl)), (hw _ (List.mem_of_getElem? (i := 24) rfl))⟩)
  obtain ⟨aK7, evaK7⟩ := exa_v x20
  have E_aK7 : Exa s s.heap aK7 "com/example/rebalanced/rebalanced/wire/ApiKey" := Exa.start evaK7 x20
  have S_API_VERSIONS : Sta s s.heap "com/example/rebalanced/rebalanced/wire/ApiKey" "API_VERSIONS" "Lcom/example/rebalanced/rebalanced/wire/ApiKey;" (.ref aK7) := Sta.start evaK7 (Or.inr ⟨(hw _ (List.mem_of_getElem? (i := 2) rfl)), (hw _ (List.mem_of_getElem? (i := 26) rfl))⟩)
  obtain ⟨aK9, evaK9⟩ := exa_v x23
  have E_aK9 : Exa s s.heap aK9 "com/example/rebalanced/rebalanced/wire/ApiKey" := Exa.start evaK9 x23
  have S_CONSUMER_GROUP_DESCRIBE : Sta s s.heap "com/example/rebalanced/rebalanced/wire/ApiKey" "CONSUMER_GROUP_DESCRIBE" "Lcom/example/rebalanced/rebalanced/wire/ApiKey;" (.ref aK9) := Sta.start evaK9 (Or.inr ⟨(hw _ (List.mem_of_getElem? (i := 2) rfl)), (hw _ (List.mem_of_getElem? (i := 28) rfl))⟩)
  obtain ⟨aK2, evaK2⟩ := exa_v x25
  have E_aK2 : Exa s s.heap aK2 "com/example/rebalanced/rebalanced/wire/ApiKey" := Exa.start evaK2 x25
  have S_METADATA : Sta s s.heap "com/example/rebalanced/rebalanced/wire/ApiKey" "METADATA" "Lcom/example/rebalanced/rebalanced/wire/ApiKey;" (.ref aK2) := Sta.start evaK2 (Or.inr ⟨(hw _ (List.mem_of_getElem? (i := 2) rfl)), (hw _ (List.mem_of_getElem? (i := 30) rfl))⟩)
  have F_minVersion_aK0 : Fld s s.heap aK0 "com/example/rebalanced/rebalanced/wire/ApiKey" "minVersion" "S" (.int (12 : Int32)) := Fld.start (own_fldv evaK0 x1)
  have F_maxVersion_aK0 : Fld s s.heap aK0 "com/example/rebalanced/rebalanced/wire/ApiKey" "maxVersion" "S" (.int (12 : Int32)) := Fld.start (own_fldv evaK0 x2)
  have F_minVersion_aK1 : Fld s s.heap aK1 "com/example/rebalanced/rebalanced/wire/ApiKey" "minVersion" "S" (.int (6 : Int32)) := Fld.start (own_fldv evaK1 x4)
  have F_maxVersion_aK1 : Fld s s.heap aK1 "com/example/rebalanced/rebalanced/wire/ApiKey" "maxVersion" "S" (.int (7 : Int32)) := Fld.start (own_fldv evaK1 x5)
  have F_minVersion_aK4 : Fld s s.heap aK4 "com/example/rebalanced/rebalanced/wire/ApiKey" "minVersion" "S" (.int (8 : Int32)) := Fld.start (own_fldv evaK4 x7)
  have F_maxVersion_aK4 : Fld s s.heap aK4 "com/example/rebalanced/rebalanced/wire/ApiKey" "maxVersion" "S" (.int (10 : Int32)) := Fld.start (own_fldv evaK4 x8)
  have F_minVersion_aK5 : Fld s s.heap aK5 "com/example/rebalanced/rebalanced/wire/ApiKey" "minVersion" "S" (.int (0 : Int32)) := Fld.start (own_fldv evaK5 x10)
  have F_minVersion_aK8 : Fld s s.heap aK8 "com/example/rebalanced/rebalanced/wire/ApiKey" "minVersion" "S" (.int (0 : Int32)) := Fld.start (own_fldv evaK8 x12)
  have F_maxVersion_aK8 : Fld s s.heap aK8 "com/example/rebalanced/rebalanced/wire/ApiKey" "maxVersion" "S" (.int (1 : Int32)) := Fld.start (own_fldv evaK8 x13)
  have F_maxVersion_aK5 : Fld s s.heap aK5 "com/example/rebalanced/rebalanced/wire/ApiKey" "maxVersion" "S" (.int (6 : Int32)) := Fld.start (own_fldv evaK5 x14)
  have F_minVersion_aK3 : Fld s s.heap aK3 "com/example/rebalanced/rebalanced/wire/ApiKey" "minVersion" "S" (.int (8 : Int32)) := Fld.start (own_fldv evaK3 x16)
  have F_minVersion_aK6 : Fld s s.heap aK6 "com/example/rebalanced/rebalanced/wire/ApiKey" "minVersion" "S" (.int (0 : Int32)) := Fld.start (own_fldv evaK6 x18)
  have F_maxVersion_aK6 : Fld s s.heap aK6 "com/example/rebalanced/rebalanced/wire/ApiKey" "maxVersion" "S" (.int (5 : Int32)) := Fld.start (own_fldv evaK6 x19)
  have F_minVersion_aK7 : Fld s s.heap aK7 "com/example/rebalanced/rebalanced/wire/ApiKey" "minVersion" "S" (.int (0 : Int32)) := Fld.start (own_fldv evaK7 x21)
  have F_maxVersion_aK7 : Fld s s.heap aK7 "com/example/rebalanced/rebalanced/wire/ApiKey" "maxVersion" "S" (.int (4 : Int32)) := Fld.start (own_fldv evaK7 x22)
  have F_minVersion_aK9 : Fld s s.heap aK9 "com/example/rebalanced/rebalanced/wire/ApiKey" "minVersion" "S" (.int (0 : Int32)) := Fld.start (own_fldv evaK9 x24)
  have F_minVersion_aK2 : Fld s s.heap aK2 "com/example/rebalanced/rebalanced/wire/ApiKey" "minVersion" "S" (.int (4 : Int32)) := Fld.start (own_fldv evaK2 x26)
  have F_maxVersion_aK2 : Fld s s.heap aK2 "com/example/rebalanced/rebalanced/wire/ApiKey" "maxVersion" "S" (.int (12 : Int32)) := Fld.start (own_fldv evaK2 x27)
  have F_maxVersion_aK9 : Fld s s.heap aK9 "com/example/rebalanced/rebalanced/wire/ApiKey" "maxVersion" "S" (.int (1 : Int32)) := Fld.start (own_fldv evaK9 x28)
  have F_maxVersion_aK3 : Fld s s.heap aK3 "com/example/rebalanced/rebalanced/wire/ApiKey" "maxVersion" "S" (.int (10 : Int32)) := Fld.start (own_fldv evaK3 x29)
  obtain ⟨n, o, h1, h2, h3, _, L, rfl, ⟨rfl, N⟩, hq⟩ := rm0 l s _ hw tables_1 i0 i1 i2 aK0 aK1 aK2 aK3 aK4 aK5 aK6 aK7 aK8 aK9 s.heap s.heap.size (Nat.le_refl _) S_FETCH S_LIST_OFFSETS S_METADATA S_OFFSET_COMMIT S_OFFSET_FETCH S_FIND_COORDINATOR S_LIST_GROUPS S_API_VERSIONS S_CONSUMER_GROUP_HEARTBEAT S_CONSUMER_GROUP_DESCRIBE E_aK0 E_aK1 E_aK2 E_aK3 E_aK4 E_aK5 E_aK6 E_aK7 E_aK8 E_aK9 F_minVersion_aK0 F_maxVersion_aK0 F_minVersion_aK1 F_maxVersion_aK1 F_minVersion_aK2 F_maxVersion_aK2 F_minVersion_aK3 F_maxVersion_aK3 F_minVersion_aK4 F_maxVersion_aK4 F_minVersion_aK5 F_maxVersion_aK5 F_minVersion_aK6 F_maxVersion_aK6 F_minVersion_aK7 F_maxVersion_aK7 F_minVersion_aK8 F_maxVersion_aK8 F_minVersion_aK9 F_maxVersion_aK9 p e ha hc hk s m _ below hf ((Spec.applies_iff_loose hf).mp happ).1 ⟨rfl, State.Warmed39.refl s, rfl⟩ trivial
  refine ⟨n, _, h1, h2, h3, hpost _ _ _ _ _ _ ⟨Cond.after_iff.mpr rfl, Cond.after_iff.mpr (eq_i res_at (Term.int_eval (1)) rfl), trivial⟩ ⟨hq.1, hq.2.1, (hq.2.2.sift fun y hy => Or.inr (N y hy)).mono (by decide) (by decide)⟩⟩
theorem main_1_1 : Claimed_1_1 := comes_1 fun _ _ _ _ _ _ h hF => ⟨h.1, hF⟩
theorem main_1_2 : Claimed_1_2 := comes_1 fun _ _ _ _ _ _ h hF => ⟨h.2.1, hF⟩
end Jvm.Pilot.@@N@@
namespace Jvm.Pilot.@@N@@
open Jvm Jvm.ClassFile Sem Op Lib Jvm.Free Jvm.Stand Jvm.Pilot.@@N@@.Jvm.D
/-! MADE BY PROGRAM (witnessworld.py) out of the Statement's table words and the real class files: 12 classes; the members and pool entries that the words name. The judged class is class 1, her method 1. -/
namespace start1
open Jvm.ClassFile
def u (s : String) : CpInfo := .utf8 (stringToUtf16 s)
/-- a pool by its gaps: so many unusable entries, then the entry; so many at the end -/
def gap : Nat → List CpInfo → List CpInfo
  | 0, r => r
  | n + 1, r => .unusable :: gap n r
def poolList (es : List (Nat × CpInfo)) (last : Nat) : List CpInfo := es.foldr (fun e r => gap e.1 (e.2 :: r)) (gap last [])
def pool (es : List (Nat × CpInfo)) (last : Nat) : Array CpInfo := ⟨poolList es last⟩
def fileOf (pool : Array CpInfo) (this : Nat) (attrs : Array Attribute := #[]) (ms : Array MethodInfo := #[]) (fl : Nat := 33) (sup : Nat := 0) (ifs : Array Nat := #[]) (fds : Array FieldInfo := #[]) : ClassFile where
  minorVersion := 0
  majorVersion := 65
  constantPool := pool
  accessFlags := fl
  thisClass := this
  superClass := sup
  interfaces := ifs
  fields := fds
  methods := ms
  attributes := attrs
def plain (name : String) (sup : Option ClassId) : Class where
  name := name
  kind := .ordinary
  loader := none
  accessFlags := 33
  super := sup
  interfaces := #[]
  cf := none
  fields := #[]
  methods := #[]
  instanceTypes := #[]
  staticTypes := #[]
  resolved := #[]
  callSites := []
  init := .initialized
  statics := none
  mirror := none

def pool0 : Array CpInfo := pool [(5, u "<init>"), (0, u "()V"), (1, .class_ 10), (1, u "java/lang/Object")] 113

def k0m0 : Method := { name := "<init>", desc := "()V", sig := { parameters := [], returnType := none }, accessFlags := 1, code := none }
/-- java/lang/Object -/
def k0 : Class := { plain "java/lang/Object" none with
  accessFlags := 33
  interfaces := #[]
  cf := some (fileOf pool0 8 #[] #[{ accessFlags := 1, nameIndex := 5, descriptorIndex := 6, attributes := #[] }] 33 0 #[] #[])
  fields := #[]
  methods := #[k0m0]
  instanceTypes := #[]
  staticTypes := #[]
  resolved := Array.replicate 124 none
  statics := none }

def pool1 : Array CpInfo := pool [(2, .class_ 4), (1, u "java/lang/Object"), (0, u "<init>"), (0, u "()V"), (0, .integer 2147483647), (0, .fieldref 9 10), (0, .class_ 11), (0, .nameAndType 12 13), (0, u "com/example/rebalanced/rebalanced/wire/ApiKey"), (0, u "FETCH"), (0, u "Lcom/example/rebalanced/rebalanced/wire/ApiKey;"), (0, .fieldref 9 15), (0, .nameAndType 16 13), (0, u "LIST_OFFSETS"), (0, .fieldref 9 18), (0, .nameAndType 19 13), (0, u "METADATA"), (0, .fieldref 9 21), (0, .nameAndType 22 13), (0, u "OFFSET_COMMIT"), (0, .fieldref 9 24), (0, .nameAndType 25 13), (0, u "OFFSET_FETCH"), (0, .fieldref 9 27), (0, .nameAndType 28 13), (0, u "FIND_COORDINATOR"), (0, .fieldref 9 30), (0, .nameAndType 31 13), (0, u "LIST_GROUPS"), (0, .fieldref 9 33), (0, .nameAndType 34 13), (0, u "API_VERSIONS"), (0, .fieldref 9 36), (0, .nameAndType 37 13), (0, u "CONSUMER_GROUP_HEARTBEAT"), (0, .fieldref 9 39), (0, .nameAndType 40 13), (0, u "CONSUMER_GROUP_DESCRIBE"), (0, .methodref 9 42), (0, .nameAndType 43 44), (0, u "serves"), (0, u "(S)Z"), (0, .class_ 46), (0, u "com/example/rebalanced/rebalanced/wire/ApiKeyServesPinLaw"), (2, u "law"), (0, u "(III)Z")] 3

def k1m0 : Method := { name := "<init>", desc := "()V", sig := { parameters := [], returnType := none }, accessFlags := 1, code := none }
def k1c1 : Code := { maxStack := 4, maxLocals := 10, code := code, exceptionTable := #[], attributes := #[] }
def k1m1 : Method := { name := "law", desc := "(III)Z", sig := { parameters := [.int, .int, .int], returnType := some .boolean }, accessFlags := 9, code := some k1c1 }
/-- com/example/rebalanced/rebalanced/wire/ApiKeyServesPinLaw -/
def k1 : Class := { plain "com/example/rebalanced/rebalanced/wire/ApiKeyServesPinLaw" (some 0) with
  accessFlags := 49
  interfaces := #[]
  cf := some (fileOf pool1 45 #[] #[{ accessFlags := 1, nameIndex := 5, descriptorIndex := 6, attributes := #[] }, { accessFlags := 9, nameIndex := 49, descriptorIndex := 50, attributes := #[] }] 49 2 #[] #[])
  fields := #[]
  methods := #[k1m0, k1m1]
  instanceTypes := #[]
  staticTypes := #[]
  resolved := Array.replicate 54 none
  statics := none }

def pool2 : Array CpInfo := pool [(1, .class_ 2), (0, u "java/lang/constant/Constable"), (0, .class_ 4), (0, u "java/lang/Object")] 6

/-- java/lang/constant/Constable -/
def k2 : Class := { plain "java/lang/constant/Constable" (some 0) with
  accessFlags := 1537
  interfaces := #[]
  cf := some (fileOf pool2 1 #[] #[] 1537 3 #[] #[])
  fields := #[]
  methods := #[]
  instanceTypes := #[]
  staticTypes := #[]
  resolved := Array.replicate 11 none
  statics := none }

def pool3 : Array CpInfo := pool [(1, .class_ 2), (0, u "java/lang/Comparable"), (0, .class_ 4), (0, u "java/lang/Object")] 7

/-- java/lang/Comparable -/
def k3 : Class := { plain "java/lang/Comparable" (some 0) with
  accessFlags := 1537
  interfaces := #[]
  cf := some (fileOf pool3 1 #[] #[] 1537 3 #[] #[])
  fields := #[]
  methods := #[]
  instanceTypes := #[]
  staticTypes := #[]
  resolved := Array.replicate 12 none
  statics := none }

def pool4 : Array CpInfo := pool [(1, .class_ 2), (0, u "java/io/Serializable"), (0, .class_ 4), (0, u "java/lang/Object")] 2

/-- java/io/Serializable -/
def k4 : Class := { plain "java/io/Serializable" (some 0) with
  accessFlags := 1537
  interfaces := #[]
  cf := some (fileOf pool4 1 #[] #[] 1537 3 #[] #[])
  fields := #[]
  methods := #[]
  instanceTypes := #[]
  staticTypes := #[]
  resolved := Array.replicate 7 none
  statics := none }

def pool5 : Array CpInfo := pool [(2, .class_ 4), (1, u "java/lang/Enum"), (0, u "name"), (0, u "Ljava/lang/String;"), (2, u "ordinal"), (0, u "I"), (1, .class_ 14), (1, u "java/lang/Object"), (4, u "hash"), (86, .class_ 108), (1, u "java/lang/Enum$EnumDesc"), (2, .class_ 112), (0, u "java/lang/constant/Constable"), (0, .class_ 114), (0, u "java/lang/Comparable"), (0, .class_ 116), (0, u "java/io/Serializable")] 87

/-- java/lang/Enum -/
def k5 : Class := { plain "java/lang/Enum" (some 0) with
  accessFlags := 1057
  interfaces := #[2, 3, 4]
  cf := some (fileOf pool5 2 #[.nestMembers #[106]] #[] 1057 12 #[111, 113, 115] #[{ accessFlags := 18, nameIndex := 5, descriptorIndex := 6, attributes := #[] }, { accessFlags := 18, nameIndex := 9, descriptorIndex := 10, attributes := #[] }, { accessFlags := 2, nameIndex := 19, descriptorIndex := 10, attributes := #[] }])
  fields := #[{ name := "name", type := (.object "java/lang/String"), accessFlags := 18, slot := 0, constantValue := 0 }, { name := "ordinal", type := .int, accessFlags := 18, slot := 1, constantValue := 0 }, { name := "hash", type := .int, accessFlags := 2, slot := 2, constantValue := 0 }]
  methods := #[]
  instanceTypes := #[(.object "java/lang/String"), .int, .int]
  staticTypes := #[]
  resolved := Array.replicate 204 none
  statics := none }

def pool6 : Array CpInfo := pool [(1, .class_ 2), (0, u "com/example/rebalanced/rebalanced/wire/ApiKey"), (2, u "FETCH"), (0, u "Lcom/example/rebalanced/rebalanced/wire/ApiKey;"), (2, u "LIST_OFFSETS"), (2, u "METADATA"), (2, u "OFFSET_COMMIT"), (2, u "OFFSET_FETCH"), (2, u "FIND_COORDINATOR"), (2, u "LIST_GROUPS"), (2, u "API_VERSIONS"), (2, u "CONSUMER_GROUP_HEARTBEAT"), (2, u "CONSUMER_GROUP_DESCRIBE"), (2, u "$VALUES"), (0, u "[Lcom/example/rebalanced/rebalanced/wire/ApiKey;"), (6, .class_ 46), (1, u "java/lang/Enum"), (8, u "id"), (0, u "S"), (0, .fieldref 1 58), (0, .nameAndType 59 56), (0, u "minVersion"), (0, .fieldref 1 61), (0, .nameAndType 62 56), (0, u "maxVersion"), (2, u "firstFlexibleVersion"), (17, u "(S)Z"), (27, u "serves")] 6

def k6c0 : Code := { maxStack := 2, maxLocals := 2, code := prog_51_method_8_code, exceptionTable := #[], attributes := #[] }
def k6m0 : Method := { name := "serves", desc := "(S)Z", sig := { parameters := [.short], returnType := some .boolean }, accessFlags := 1, code := some k6c0 }
/-- com/example/rebalanced/rebalanced/wire/ApiKey -/
def k6 : Class := { plain "com/example/rebalanced/rebalanced/wire/ApiKey" (some 5) with
  accessFlags := 16433
  interfaces := #[]
  cf := some (fileOf pool6 1 #[] #[{ accessFlags := 1, nameIndex := 111, descriptorIndex := 83, attributes := #[] }] 16433 44 #[] #[{ accessFlags := 16409, nameIndex := 5, descriptorIndex := 6, attributes := #[] }, { accessFlags := 16409, nameIndex := 9, descriptorIndex := 6, attributes := #[] }, { accessFlags := 16409, nameIndex := 12, descriptorIndex := 6, attributes := #[] }, { accessFlags := 16409, nameIndex := 15, descriptorIndex := 6, attributes := #[] }, { accessFlags := 16409, nameIndex := 18, descriptorIndex := 6, attributes := #[] }, { accessFlags := 16409, nameIndex := 21, descriptorIndex := 6, attributes := #[] }, { accessFlags := 16409, nameIndex := 24, descriptorIndex := 6, attributes := #[] }, { accessFlags := 16409, nameIndex := 27, descriptorIndex := 6, attributes := #[] }, { accessFlags := 16409, nameIndex := 30, descriptorIndex := 6, attributes := #[] }, { accessFlags := 16409, nameIndex := 33, descriptorIndex := 6, attributes := #[] }, { accessFlags := 18, nameIndex := 55, descriptorIndex := 56, attributes := #[] }, { accessFlags := 18, nameIndex := 59, descriptorIndex := 56, attributes := #[] }, { accessFlags := 18, nameIndex := 62, descriptorIndex := 56, attributes := #[] }, { accessFlags := 18, nameIndex := 65, descriptorIndex := 56, attributes := #[] }, { accessFlags := 4122, nameIndex := 36, descriptorIndex := 37, attributes := #[] }])
  fields := #[{ name := "FETCH", type := (.object "com/example/rebalanced/rebalanced/wire/ApiKey"), accessFlags := 16409, slot := 0, constantValue := 0 }, { name := "LIST_OFFSETS", type := (.object "com/example/rebalanced/rebalanced/wire/ApiKey"), accessFlags := 16409, slot := 1, constantValue := 0 }, { name := "METADATA", type := (.object "com/example/rebalanced/rebalanced/wire/ApiKey"), accessFlags := 16409, slot := 2, constantValue := 0 }, { name := "OFFSET_COMMIT", type := (.object "com/example/rebalanced/rebalanced/wire/ApiKey"), accessFlags := 16409, slot := 3, constantValue := 0 }, { name := "OFFSET_FETCH", type := (.object "com/example/rebalanced/rebalanced/wire/ApiKey"), accessFlags := 16409, slot := 4, constantValue := 0 }, { name := "FIND_COORDINATOR", type := (.object "com/example/rebalanced/rebalanced/wire/ApiKey"), accessFlags := 16409, slot := 5, constantValue := 0 }, { name := "LIST_GROUPS", type := (.object "com/example/rebalanced/rebalanced/wire/ApiKey"), accessFlags := 16409, slot := 6, constantValue := 0 }, { name := "API_VERSIONS", type := (.object "com/example/rebalanced/rebalanced/wire/ApiKey"), accessFlags := 16409, slot := 7, constantValue := 0 }, { name := "CONSUMER_GROUP_HEARTBEAT", type := (.object "com/example/rebalanced/rebalanced/wire/ApiKey"), accessFlags := 16409, slot := 8, constantValue := 0 }, { name := "CONSUMER_GROUP_DESCRIBE", type := (.object "com/example/rebalanced/rebalanced/wire/ApiKey"), accessFlags := 16409, slot := 9, constantValue := 0 }, { name := "id", type := .short, accessFlags := 18, slot := 3, constantValue := 0 }, { name := "minVersion", type := .short, accessFlags := 18, slot := 4, constantValue := 0 }, { name := "maxVersion", type := .short, accessFlags := 18, slot := 5, constantValue := 0 }, { name := "firstFlexibleVersion", type := .short, accessFlags := 18, slot := 6, constantValue := 0 }, { name := "$VALUES", type := (.array (.object "com/example/rebalanced/rebalanced/wire/ApiKey")), accessFlags := 4122, slot := 10, constantValue := 0 }]
  methods := #[k6m0]
  instanceTypes := #[(.object "java/lang/String"), .int, .int, .short, .short, .short, .short]
  staticTypes := #[(.object "com/example/rebalanced/rebalanced/wire/ApiKey"), (.object "com/example/rebalanced/rebalanced/wire/ApiKey"), (.object "com/example/rebalanced/rebalanced/wire/ApiKey"), (.object "com/example/rebalanced/rebalanced/wire/ApiKey"), (.object "com/example/rebalanced/rebalanced/wire/ApiKey"), (.object "com/example/rebalanced/rebalanced/wire/ApiKey"), (.object "com/example/rebalanced/rebalanced/wire/ApiKey"), (.object "com/example/rebalanced/rebalanced/wire/ApiKey"), (.object "com/example/rebalanced/rebalanced/wire/ApiKey"), (.object "com/example/rebalanced/rebalanced/wire/ApiKey"), (.array (.object "com/example/rebalanced/rebalanced/wire/ApiKey"))]
  resolved := Array.replicate 118 none
  statics := some 0 }

def pool7 : Array CpInfo := pool [(1, u "java/lang/Cloneable"), (0, .class_ 1), (0, u "java/lang/Object"), (0, .class_ 3)] 3

/-- java/lang/Cloneable -/
def k7 : Class := { plain "java/lang/Cloneable" (some 0) with
  accessFlags := 1537
  interfaces := #[]
  cf := some (fileOf pool7 2 #[] #[] 1537 4 #[] #[])
  fields := #[]
  methods := #[]
  instanceTypes := #[]
  staticTypes := #[]
  resolved := Array.replicate 8 none
  statics := none }

/-- the primitive byte -/
def k8 : Class := { plain "byte" none with kind := .primitive 'B', accessFlags := 0x411 }
/-- [B -/
def k9 : Class := { plain "[B" (some 0) with kind := .array 8 .byte, interfaces := #[7, 4], accessFlags := 1041 }

/-- the primitive int -/
def k10 : Class := { plain "int" none with kind := .primitive 'I', accessFlags := 0x411 }
/-- [I -/
def k11 : Class := { plain "[I" (some 0) with kind := .array 10 .int, interfaces := #[7, 4], accessFlags := 1041 }

def heap : Heap := #[{ cls := 6, slots := #[.ref 1, .ref 2, .ref 3, .ref 4, .ref 5, .ref 6, .ref 7, .ref 8, .ref 9, .ref 10, .null], vm := .statics 6 },
  { cls := 6, slots := #[.null, .int 0, .int 0, .int 0, .int 12, .int 12, .int 0], vm := .none },
  { cls := 6, slots := #[.null, .int 1, .int 0, .int 0, .int 6, .int 7, .int 0], vm := .none },
  { cls := 6, slots := #[.null, .int 2, .int 0, .int 0, .int 4, .int 12, .int 0], vm := .none },
  { cls := 6, slots := #[.null, .int 3, .int 0, .int 0, .int 8, .int 10, .int 0], vm := .none },
  { cls := 6, slots := #[.null, .int 4, .int 0, .int 0, .int 8, .int 10, .int 0], vm := .none },
  { cls := 6, slots := #[.null, .int 5, .int 0, .int 0, .int 0, .int 6, .int 0], vm := .none },
  { cls := 6, slots := #[.null, .int 6, .int 0, .int 0, .int 0, .int 5, .int 0], vm := .none },
  { cls := 6, slots := #[.null, .int 7, .int 0, .int 0, .int 0, .int 4, .int 0], vm := .none },
  { cls := 6, slots := #[.null, .int 8, .int 0, .int 0, .int 0, .int 1, .int 0], vm := .none },
  { cls := 6, slots := #[.null, .int 9, .int 0, .int 0, .int 0, .int 1, .int 0], vm := .none }]
def classes : Array Class := #[k0, k1, k2, k3, k4, k5, k6, k7, k8, k9, k10, k11]
def interned : List (Array UInt16 × Addr) := []
def slotsUsed : Nat := 81
def theMethod : MethodId := ⟨1, 1⟩
def args0 : Array Value := #[.int 5, .int 3, .int 7]
def aboutOver (below : List Frame) : State where
  vm := { classes := classes, interned := interned.toArray }
  heap := heap
  slotsUsed := slotsUsed
  threads := #[{ frames := .invoking theMethod args0 :: below }]
def below0 : List Frame := [.native { method := ⟨0, 0⟩, args := #[] }]
def about1 : State := aboutOver below0
def p0 : Program := .bare "" "" ""
def e0 : Env := launch0.env 0 0 0
theorem w_frames : about1.frames = Frame.invoking theMethod args0 :: below0 := rfl
set_option maxRecDepth 65536 in
theorem w_args : argsFit about1.vm theMethod args0 = true := by decide +kernel
set_option maxRecDepth 65536 in
theorem w_heap : heapFits about1 = true := by decide +kernel
set_option maxRecDepth 65536 in
theorem w_runnable : about1.curStatus? = some .runnable := by decide +kernel
set_option maxRecDepth 65536 in
theorem w_alone : about1.alone = true := by decide +kernel
set_option maxRecDepth 65536 in
theorem w_named : about1.methodNamed? x = some theMethod := by decide +kernel
set_option maxRecDepth 65536 in
theorem w_hears : about1.hears theMethod below0 = true := by decide +kernel
set_option maxRecDepth 65536 in
theorem w_ripe : about1.ripe theMethod args0 below0 = true := by decide +kernel
theorem w_running : about1.status = .running := rfl
set_option maxRecDepth 65536 in
theorem w_room : about1.hasRoom e0.platform room_1 = true :=
  launch0.hasRoom_least _ room_1 (by decide +kernel) (by decide +kernel) (by decide +kernel) (by decide +kernel) (by decide +kernel) (by decide +kernel)
theorem allAtoms_all (ts : List Jvm.Cond) (a : Array Jvm.Value) (st : Jvm.State) : (allAtoms ts).before a st = ts.all (fun c => c.before a st) := by
  induction ts with
  | nil => rfl
  | cons c t ih =>
    show (Jvm.Cond.and c (allAtoms t)).before a st = _
    rw [Jvm.Cond.before_and, ih, List.all_cons]
def words1 : List Jvm.Cond := Jvm.Cond.code x code maxLocals ret :: tables_1
/-- a 'code' word, met by the world's own term for the bytes: nothing is compared byte by byte -/
theorem code_word {y : MethodName} {bytes : ByteArray} {mx : Nat} {rt : Option FieldType} {a : Array Value} {s : State} {m : MethodId} {meth : Method} {c : Code} (h1 : s.methodNamed? y = some m) (h2 : s.vm.method? m = some meth) (h3 : meth.code = some c) (h4 : c.code = bytes)
    (h5 : (c.maxLocals == mx && c.exceptionTable.isEmpty && decide (c.maxStack ≤ mostOperands) && decide (meth.sig.returnType = rt) && !meth.locks && decide (parseMethodDescriptor y.desc = some meth.sig)) = true) : (Jvm.Cond.code y bytes mx rt).before a s = true := by
  simp only [Bool.and_eq_true, beq_iff_eq, Bool.not_eq_true', decide_eq_true_eq] at h5
  obtain ⟨⟨⟨⟨⟨g1, g2⟩, g3⟩, g4⟩, g5⟩, g6⟩ := h5
  simp [Cond.before, Cond.holds, Cond.value, h1, h2, h3, h4, g1, g2, g3, g4, g5, g6]
def isCode : Jvm.Cond → Bool
  | .code _ _ _ _ => true
  | _ => false
theorem all_split {L : List Jvm.Cond} {P : Jvm.Cond → Bool} (h1 : L.all (fun c => isCode c || P c) = true) (h2 : ∀ c ∈ L.filter isCode, P c = true) : L.all P = true := by
  refine List.all_eq_true.mpr fun c hc => ?_
  have h := List.all_eq_true.mp h1 c hc
  rcases Bool.eq_false_or_eq_true (isCode c) with hi | hi
  · exact h2 c (List.mem_filter.mpr ⟨hc, hi⟩)
  · simpa [hi] using h
set_option maxRecDepth 65536 in
theorem w_c0 : (Jvm.Cond.code x code maxLocals ret).before args0 about1 = true := code_word (m := ⟨1, 1⟩) (meth := k1m1) (c := k1c1) (by decide +kernel) rfl rfl rfl (by decide +kernel)
set_option maxRecDepth 65536 in
theorem w_c1 : (Jvm.Cond.code ({ cls := "com/example/rebalanced/rebalanced/wire/ApiKey", name := "serves", desc := "(S)Z" } : Jvm.MethodName) prog_51_method_8_code (2 : Nat) (Option.some Jvm.ClassFile.FieldType.boolean)).before args0 about1 = true := code_word (m := ⟨6, 0⟩) (meth := k6m0) (c := k6c0) (by decide +kernel) rfl rfl rfl (by decide +kernel)
def codes1 : List Jvm.Cond := [Jvm.Cond.code x code maxLocals ret, Jvm.Cond.code ({ cls := "com/example/rebalanced/rebalanced/wire/ApiKey", name := "serves", desc := "(S)Z" } : Jvm.MethodName) prog_51_method_8_code (2 : Nat) (Option.some Jvm.ClassFile.FieldType.boolean)]
set_option maxRecDepth 65536 in
theorem codes_eq : words1.filter isCode = codes1 := rfl
theorem w_codes : ∀ c ∈ words1.filter isCode, c.before args0 about1 = true := by
  rw [codes_eq]
  intro c hc
  simp only [codes1, List.mem_cons, List.not_mem_nil, or_false] at hc
  rcases hc with rfl | rfl
  · exact w_c0
  · exact w_c1
set_option maxRecDepth 65536 in
theorem w_t1 : (words1.take 24).all (fun c => isCode c || c.before args0 about1) = true := by decide +kernel
set_option maxRecDepth 65536 in
theorem w_t2 : (words1.drop 24).all (fun c => isCode c || c.before args0 about1) = true := by decide +kernel
theorem w_tables : (allAtoms (Jvm.Cond.code x code maxLocals ret :: tables_1)).before args0 about1 = true := by
  rw [allAtoms_all]
  show words1.all (fun c => c.before args0 about1) = true
  refine all_split ?_ w_codes
  rw [← List.take_append_drop 24 words1, List.all_append, w_t1, w_t2]
  rfl
set_option maxRecDepth 65536 in
theorem w_case : (Jvm.Cond.and given_1 narrow_1).before args0 about1 = true := by decide +kernel
theorem w_applies : (headSpec (Jvm.Cond.code x code maxLocals ret :: tables_1) room_1).applies x e0.platform about1 = true :=
  (Spec.applies_iff w_frames).mpr ⟨w_running, w_runnable, w_alone, w_named, w_hears, w_ripe, w_room, w_tables⟩
theorem atStart : AtStart classFile x code maxLocals ret World_1 tables_1 room_1 Calls_1 rest_1 Pre_1 launch0 p0 e0 about1 theMethod args0 below0 :=
  ⟨lists_1, trivial, launch0.admits_env _ _ _, launch0.least_env, fairChoices_fair.cas, fairChoices_fair.clock, w_frames, w_args, w_heap, w_applies, trivial, trivial, w_case⟩
end start1
theorem witness_1 : WitnessClaimed_1 := ⟨start1.p0, start1.e0, start1.about1, start1.theMethod, start1.args0, start1.below0, start1.atStart⟩
end Jvm.Pilot.@@N@@
